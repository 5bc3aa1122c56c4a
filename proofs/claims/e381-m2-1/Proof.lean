import JvmDerived
import JvmDerived.Pilot.@@N@@Statement
import JvmDerived.Pilot.@@N@@Code
set_option linter.unusedVariables false
set_option linter.unusedSimpArgs false
@@BLOCK:NumsL.lean.txt@@
namespace Jvm.RoadKit
open Sem ClassFile Op Lib Jvm.Stand Jvm.Free Jvm.LawKit
section New
variable {p : Program} {l : Launch} {e : Env} {R : Room} {s : State} {m : MethodId} {args : Array Value} {below : List Frame} {meth : Method} {c : Code} {T : State} {locs : List Loc} {cells slots : Nat}
theorem retI (X : Stand p l e R s m args below meth c T locs cells slots) (hx : p.tables.exec = Jvm.exec) {pc : Nat} {Ls : Array Slot} {z : Int32} {rest : List Value} (hret : meth.sig.returnType = some .int) (hd : decode c.code pc = .ok (.ireturn, 1)) {fs : List Frame}
    (hl : ∀ (f : JFrame) (acts : List Action), f.method = m → f.locked = none → f.entered = [] → (doReturn e (T.setTop f) acts (some (.int z))).1 = T.setFrames fs) : Steps p.tables e below (T.setTop (mkF m pc Ls (.int z :: rest))) (T.setFrames fs) := by
  have hm' : T.vm.method? m = some meth := X.method'
  have hn : narrow .int (.int z) = .int z := rfl
  show Steps p.tables e below (T.setTop { method := m, pc := pc, locals := Ls, stack := _ :: rest, locked := none }) _
  jvm_step X.here [X.here.top, hx, hd, hm', hret, hn]
  first | (intro acts; rw [hl _ acts rfl rfl rfl]) | rw [hl _ _ rfl rfl rfl]
  exact Steps.refl _
end New
end Jvm.RoadKit
namespace Jvm.Pilot.@@N@@
open Jvm Jvm.ClassFile Sem Op Lib Jvm.Free Jvm.Stand Jvm.LawKit Jvm.RoadKit Bundle Jvm.Pilot.@@N@@.Jvm.D

/-! arrays by their contents -/
section OwnArr
def own_upd {α : Type} (f : Nat → α) (i : Nat) (x : α) : Nat → α := fun j => if j = i then x else f j
theorem own_upd_same {α : Type} (f : Nat → α) (i : Nat) (x : α) : own_upd f i x i = x := if_pos rfl
theorem own_upd_ne {α : Type} (f : Nat → α) {i j : Nat} (x : α) (h : j ≠ i) : own_upd f i x j = f j := if_neg h
def JA (Z : State) (h : Heap) (a : Addr) (n : Nat) (f : Nat → Int64) : Prop := ∃ cl : Cell, Arr Z h a cl .long ∧ cl.slots.size = n ∧ ∀ i, i < n → cl.slots[i]? = some (.long (f i))
def IA (Z : State) (h : Heap) (a : Addr) (n : Nat) (f : Nat → Nat) : Prop := ∃ cl : Cell, Arr Z h a cl .int ∧ cl.slots.size = n ∧ ∀ i, i < n → cl.slots[i]? = some (.int (Int32.ofNat (f i)))
variable {p : Program} {l : Launch} {e : Env} {R : Room} {s : State} {m : MethodId} {args : Array Value} {below : List Frame} {meth : Method} {c : Code} {T : State} {locs : List Loc} {cells slots : Nat} {Z : State} {h h' : Heap} {a b : Addr} {n sl : Nat} {v : Value} {ws : List Addr} {f : Nat → Int64} {k : Nat → Nat}
theorem JA.lt (F : JA Z h a n f) : a < h.size := by obtain ⟨_, A, -⟩ := F; exact A.lt
theorem JA.ext (F : JA Z h a n f) (E : Ext h h') : JA Z h' a n f := by obtain ⟨q, A, r⟩ := F; exact ⟨q, A.ext E, r⟩
theorem JA.other (F : JA Z h b n f) (W : Wr h h' a sl v) (q : b ≠ a) : JA Z h' b n f := by obtain ⟨u, A, r⟩ := F; exact ⟨u, A.other W q, r⟩
theorem JA.keep (F : JA Z h a n f) (K : Keep h h' ws) (q : a ∉ ws) : JA Z h' a n f := by obtain ⟨u, A, r⟩ := F; exact ⟨u, ⟨K.2.1 a u A.1 q, A.2⟩, r⟩
theorem IA.lt (F : IA Z h a n k) : a < h.size := by obtain ⟨_, A, -⟩ := F; exact A.lt
theorem IA.ext (F : IA Z h a n k) (E : Ext h h') : IA Z h' a n k := by obtain ⟨q, A, r⟩ := F; exact ⟨q, A.ext E, r⟩
theorem IA.other (F : IA Z h b n k) (W : Wr h h' a sl v) (q : b ≠ a) : IA Z h' b n k := by obtain ⟨u, A, r⟩ := F; exact ⟨u, A.other W q, r⟩
theorem IA.keep (F : IA Z h a n k) (K : Keep h h' ws) (q : a ∉ ws) : IA Z h' a n k := by obtain ⟨u, A, r⟩ := F; exact ⟨u, ⟨K.2.1 a u A.1 q, A.2⟩, r⟩
theorem JA.set {i : Nat} {x : Int64} (F : JA Z h a n f) (W : Wr h h' a i (.long x)) : JA Z h' a n (own_upd f i x) := by
  obtain ⟨u, A, r1, r2⟩ := F
  refine ⟨_, A.same W, by rw [sz_set]; exact r1, fun j hj => ?_⟩
  by_cases q : j = i
  · subst q; rw [own_upd_same]; simp [Cell.setSlot, r1, hj]
  · rw [own_upd_ne f x q, ← r2 j hj]; exact Array.getElem?_setIfInBounds_ne (Ne.symm q)
theorem IA.set {i x : Nat} (F : IA Z h a n k) (W : Wr h h' a i (.int (Int32.ofNat x))) : IA Z h' a n (own_upd k i x) := by
  obtain ⟨u, A, r1, r2⟩ := F
  refine ⟨_, A.same W, by rw [sz_set]; exact r1, fun j hj => ?_⟩
  by_cases q : j = i
  · subst q; rw [own_upd_same]; simp [Cell.setSlot, r1, hj]
  · rw [own_upd_ne k x q, ← r2 j hj]; exact Array.getElem?_setIfInBounds_ne (Ne.symm q)
theorem own_inb {u : Cell} {j : Int32} {i : Nat} (r1 : u.slots.size = n) (hj : j.toNatClampNeg = i) (h0 : ¬ j < 0) (hi : i < n) : ¬ (j < 0 ∨ u.slots.size ≤ j.toNatClampNeg) := by
  rw [hj, r1]; exact fun q => q.elim h0 fun q => absurd hi (Nat.not_lt.mpr q)
theorem JA.load (X : Stand p l e R s m args below meth c T locs cells slots) (hx : p.tables.exec = Jvm.exec) (hZ : Z.Warmed39 s.vm) (eT : T.heap = h) (F : JA Z h a n f) {j : Int32} (i : Nat) (hj : j.toNatClampNeg = i) (h0 : ¬ j < 0) (hi : i < n)
    {g : JFrame} (hg : g.method = m) {rest : List Value} (hs : g.stack = .int j :: .ref a :: rest) (hd : decode c.code g.pc = .ok (.laload, 1)) (target : State)
    (hr : Steps p.tables e below (T.setTop { g with pc := g.pc + 1, stack := .long (f i) :: rest }) target) : Steps p.tables e below (T.setTop g) target := by
  obtain ⟨u, A, r1, r2⟩ := F
  exact X.laload hx (by rw [eT]; exact A.1) (State.isArrayOf_alike hZ.alike A.2.1) A.2.2 (own_inb r1 hj h0 hi) (by rw [hj]; exact r2 i hi) hg hs hd target hr
theorem IA.load (X : Stand p l e R s m args below meth c T locs cells slots) (hx : p.tables.exec = Jvm.exec) (hZ : Z.Warmed39 s.vm) (eT : T.heap = h) (F : IA Z h a n k) {j : Int32} (i : Nat) (hj : j.toNatClampNeg = i) (h0 : ¬ j < 0) (hi : i < n)
    {g : JFrame} (hg : g.method = m) {rest : List Value} (hs : g.stack = .int j :: .ref a :: rest) (hd : decode c.code g.pc = .ok (.iaload, 1)) (target : State)
    (hr : Steps p.tables e below (T.setTop { g with pc := g.pc + 1, stack := .int (Int32.ofNat (k i)) :: rest }) target) : Steps p.tables e below (T.setTop g) target := by
  obtain ⟨u, A, r1, r2⟩ := F
  exact X.iaload hx (by rw [eT]; exact A.1) (State.isArrayOf_alike hZ.alike A.2.1) A.2.2 (own_inb r1 hj h0 hi) (by rw [hj]; exact r2 i hi) hg hs hd target hr
theorem JA.store (X : Stand p l e R s m args below meth c T locs cells slots) (hx : p.tables.exec = Jvm.exec) (hZ : Z.Warmed39 s.vm) (eT : T.heap = h) (F : JA Z h a n f) {j : Int32} (i : Nat) (hj : j.toNatClampNeg = i) (h0 : ¬ j < 0) (hi : i < n) {x : Int64}
    {g : JFrame} (hg : g.method = m) {rest : List Value} (hs : g.stack = .long x :: .int j :: .ref a :: rest) (hd : decode c.code g.pc = .ok (.lastore, 1)) :
    ∃ T' h', Stand p l e R s m args below meth c T' (locs ++ [⟨a, i⟩]) cells slots ∧ T'.heap = h' ∧ Wr h h' a i (.long x) ∧ JA Z h' a n (own_upd f i x) ∧ ∀ target, Steps p.tables e below (T'.setTop { g with pc := g.pc + 1, stack := rest }) target → Steps p.tables e below (T.setTop g) target := by
  obtain ⟨u, A, r1, r2⟩ := id F
  obtain ⟨T', h', X', q1, q2, q3⟩ := stJ X hx hZ eT A (own_inb r1 hj h0 hi) hg hs hd
  rw [hj] at X' q2
  exact ⟨T', h', X', q1, q2, F.set q2, q3⟩
theorem IA.store (X : Stand p l e R s m args below meth c T locs cells slots) (hx : p.tables.exec = Jvm.exec) (hZ : Z.Warmed39 s.vm) (eT : T.heap = h) (F : IA Z h a n k) {j : Int32} (i : Nat) (hj : j.toNatClampNeg = i) (h0 : ¬ j < 0) (hi : i < n) {x : Nat}
    {g : JFrame} (hg : g.method = m) {rest : List Value} (hs : g.stack = .int (Int32.ofNat x) :: .int j :: .ref a :: rest) (hd : decode c.code g.pc = .ok (.iastore, 1)) :
    ∃ T' h', Stand p l e R s m args below meth c T' (locs ++ [⟨a, i⟩]) cells slots ∧ T'.heap = h' ∧ Wr h h' a i (.int (Int32.ofNat x)) ∧ IA Z h' a n (own_upd k i x) ∧ ∀ target, Steps p.tables e below (T'.setTop { g with pc := g.pc + 1, stack := rest }) target → Steps p.tables e below (T.setTop g) target := by
  obtain ⟨u, A, r1, r2⟩ := id F
  obtain ⟨T', h', X', q1, q2, q3⟩ := stI X hx hZ eT A (own_inb r1 hj h0 hi) hg hs hd
  rw [hj] at X' q2
  exact ⟨T', h', X', q1, q2, F.set q2, q3⟩
theorem JA.make {a0 : Array Value} (X : Stand p l e R s m args below meth c T locs cells slots) (hx : p.tables.exec = Jvm.exec) (hZ : Z.Warmed39 s.vm) (w : (Jvm.Cond.arrayClass .long).before a0 Z = true) (eT : T.heap = h) {g : JFrame} (hg : g.method = m) (hd : decode c.code g.pc = .ok (.newarray .long, 2)) {nn : Int32} {rest : List Value} (hs : g.stack = .int nn :: rest)
    (n : Nat) (hn : nn.toNatClampNeg = n) (h0 : ¬ nn < 0) (hb : n * 8 ≤ 536870912) (hc : cells + 1 ≤ R.cells) (hl : slots + n ≤ R.slots) :
    ∃ T' h', Stand p l e R s m args below meth c T' locs (cells + 1) (slots + n) ∧ T'.heap = h' ∧ Ext h h' ∧ JA Z h' h.size n (fun _ => 0) ∧ ∀ target, Steps p.tables e below (T'.setTop { g with pc := g.pc + 2, stack := .ref h.size :: rest }) target → Steps p.tables e below (T.setTop g) target := by
  obtain ⟨T', h', cA, X', q1, q2, q3, q4⟩ := newP (aty := .long) X hx hZ w eT hg hd hs h0 (cap := n) (Nat.le_of_eq hn) hb hc hl
  exact ⟨T', h', X', q1, q2, ⟨_, q3, by rw [sz_new, hn], fun i hi => by subst hn; simp [newA, hi]; rfl⟩, q4⟩
theorem IA.make {a0 : Array Value} (X : Stand p l e R s m args below meth c T locs cells slots) (hx : p.tables.exec = Jvm.exec) (hZ : Z.Warmed39 s.vm) (w : (Jvm.Cond.arrayClass .int).before a0 Z = true) (eT : T.heap = h) {g : JFrame} (hg : g.method = m) (hd : decode c.code g.pc = .ok (.newarray .int, 2)) {nn : Int32} {rest : List Value} (hs : g.stack = .int nn :: rest)
    (n : Nat) (hn : nn.toNatClampNeg = n) (h0 : ¬ nn < 0) (hb : n * 8 ≤ 536870912) (hc : cells + 1 ≤ R.cells) (hl : slots + n ≤ R.slots) :
    ∃ T' h', Stand p l e R s m args below meth c T' locs (cells + 1) (slots + n) ∧ T'.heap = h' ∧ Ext h h' ∧ IA Z h' h.size n (fun _ => 0) ∧ ∀ target, Steps p.tables e below (T'.setTop { g with pc := g.pc + 2, stack := .ref h.size :: rest }) target → Steps p.tables e below (T.setTop g) target := by
  obtain ⟨T', h', cA, X', q1, q2, q3, q4⟩ := newP (aty := .int) X hx hZ w eT hg hd hs h0 (cap := n) (Nat.le_of_eq hn) hb hc hl
  exact ⟨T', h', X', q1, q2, ⟨_, q3, by rw [sz_new, hn], fun i hi => by subst hn; simp [newA, hi]; rfl⟩, q4⟩
theorem own_len {ty : FieldType} (X : Stand p l e R s m args below meth c T locs cells slots) (hx : p.tables.exec = Jvm.exec) (hZ : Z.Warmed39 s.vm) (eT : T.heap = h) (F : ∃ cl : Cell, Arr Z h a cl ty ∧ cl.slots.size = n) {z : Int32} (hz : n.toInt32 = z)
    {g : JFrame} (hg : g.method = m) {rest : List Value} (hs : g.stack = .ref a :: rest) (hd : decode c.code g.pc = .ok (.arraylength, 1)) (target : State)
    (hr : Steps p.tables e below (T.setTop { g with pc := g.pc + 1, stack := .int z :: rest }) target) : Steps p.tables e below (T.setTop g) target := by
  obtain ⟨u, A, r1⟩ := F
  exact X.arraylength hx (by rw [eT]; exact A.1) (State.isArrayOf_alike hZ.alike A.2.1) hg hs hd target (by rw [r1, hz]; exact hr)
theorem JA.cell (F : JA Z h a n f) : ∃ cl : Cell, Arr Z h a cl .long ∧ cl.slots.size = n := by obtain ⟨u, A, r, -⟩ := F; exact ⟨u, A, r⟩
theorem IA.cell (F : IA Z h a n k) : ∃ cl : Cell, Arr Z h a cl .int ∧ cl.slots.size = n := by obtain ⟨u, A, r, -⟩ := F; exact ⟨u, A, r⟩
end OwnArr
theorem own_toInt {k n : Nat} (hk : k < n) (hn : n ≤ 2 ^ 31) : (Int32.ofNat k).toInt = (k : Int) := toInt_of rfl (Nat.lt_of_lt_of_le hk hn)
theorem own_cl {k n : Nat} (hk : k < n) (hn : n ≤ 2 ^ 31) : (Int32.ofNat k).toNatClampNeg = k := clamp_of rfl (Nat.lt_of_lt_of_le hk hn)
theorem own_nn {k n : Nat} (hk : k < n) (hn : n ≤ 2 ^ 31) : ¬ Int32.ofNat k < 0 := by rw [Int32.lt_iff_toInt_lt, own_toInt hk hn, Int32.toInt_zero]; omega

def own_max (x y : Int64) : Int64 := if lcmpW x y < 0 then y else x
def own_min (x y : Int64) : Int64 := if 0 < lcmpW x y then y else x
def own_holds (c1 m1 d1 c2 m2 d2 : Int64) : Int32 := if 0 < lcmpW c2 c1 then 0 else if 0 < lcmpW m2 m1 then 0 else if 0 < lcmpW d2 d1 then 0 else 1
def own_good (f : Nat → Int64) : Prop := 0 ≤ (f 0).toInt ∧ 0 ≤ (f 1).toInt ∧ ((f 2 = 1 ∧ (f 1).toInt ≤ (f 0).toInt) ∨ (f 2 = 0 ∧ (f 0).toInt < (f 1).toInt))
theorem own_good_of {f : Nat → Int64} {x y z : Int64} (h0 : f 0 = x) (h1 : f 1 = y) (h2 : f 2 = z) (H : 0 ≤ x.toInt ∧ 0 ≤ y.toInt ∧ ((z = 1 ∧ y.toInt ≤ x.toInt) ∨ (z = 0 ∧ x.toInt < y.toInt))) : own_good f := by
  subst h0 h1 h2; exact H
theorem own_u (x : Int64) : 0 ≤ (x &&& 9223372036854775807).toInt := by
  rw [Jvm.Kit.i64_mask x 9223372036854775807 (k := 63) (by decide) (by decide)]; omega
theorem own_Hs {u : Int64} (h : 0 ≤ u.toInt) : 0 ≤ u.toInt ∧ 0 ≤ u.toInt ∧ (((1 : Int64) = 1 ∧ u.toInt ≤ u.toInt) ∨ ((1 : Int64) = 0 ∧ u.toInt < u.toInt)) := ⟨h, h, Or.inl ⟨rfl, Int.le_refl _⟩⟩
theorem own_Hx {u v : Int64} (h : 0 ≤ u.toInt) (k : 0 ≤ v.toInt) : 0 ≤ (own_max u v).toInt ∧ 0 ≤ (own_min u v).toInt ∧ (((1 : Int64) = 1 ∧ (own_min u v).toInt ≤ (own_max u v).toInt) ∨ ((1 : Int64) = 0 ∧ (own_max u v).toInt < (own_min u v).toInt)) := by
  simp only [own_max, own_min, lw_lt, lw_gt, Int64.lt_iff_toInt_lt]
  refine ⟨?_, ?_, Or.inl ⟨by trivial, ?_⟩⟩ <;> repeat' split
  all_goals omega
theorem own_Hm {u v : Int64} (h : 0 ≤ u.toInt) (k : 0 ≤ v.toInt) : 0 ≤ (own_min u v).toInt ∧ 0 ≤ (own_max u v).toInt ∧ (((if lcmpW u v = 0 then (1 : Int64) else (0 : Int64)) = 1 ∧ (own_max u v).toInt ≤ (own_min u v).toInt) ∨ ((if lcmpW u v = 0 then (1 : Int64) else (0 : Int64)) = 0 ∧ (own_min u v).toInt < (own_max u v).toInt)) := by
  by_cases q : u = v
  · subst q
    simp only [own_max, own_min, lw_lt, lw_gt, lw_eq, Int64.lt_iff_toInt_lt]
    refine ⟨?_, ?_, Or.inl ⟨if_pos trivial, ?_⟩⟩ <;> repeat' split
    all_goals omega
  · have q' : u.toInt ≠ v.toInt := fun e => q (Int64.toInt_inj.mp e)
    simp only [own_max, own_min, lw_lt, lw_gt, lw_eq, Int64.lt_iff_toInt_lt]
    refine ⟨?_, ?_, Or.inr ⟨if_neg q, ?_⟩⟩ <;> repeat' split
    all_goals omega
theorem own_Hn {u : Int64} (h : 0 ≤ u.toInt) (k : ¬ lcmpW u (9223372036854775807 : Int64) = 0) : 0 ≤ u.toInt ∧ 0 ≤ (u + 1).toInt ∧ (((0 : Int64) = 1 ∧ (u + 1).toInt ≤ u.toInt) ∨ ((0 : Int64) = 0 ∧ u.toInt < (u + 1).toInt)) := by
  rw [lw_eq, ← Int64.toInt_inj] at k
  have b := (rng64 u).2
  have e1 : (9223372036854775807 : Int64).toInt = 9223372036854775807 := by decide
  have e2 : (1 : Int64).toInt = 1 := by decide
  rw [e1] at k
  have e : (u + 1).toInt = u.toInt + (1 : Int64).toInt := Jvm.Kit.i64_add (by omega) (by omega)
  rw [e, e2]
  exact ⟨h, by omega, Or.inr ⟨rfl, by omega⟩⟩
theorem own_pos {x : Int64} (h : 0 ≤ x.toInt) : ¬ (lcmpW x (0 : Int64)) < (0 : Int32) := by
  rw [lw_lt, Int64.lt_iff_toInt_lt, Int64.toInt_zero]; omega
theorem own_fin {c m d : Nat → Int64} (hc : own_good c) (hm : own_good m) (hd : own_good d) : own_holds (c 0) (m 0) (d 0) (c 1) (m 1) (d 1) = (if (lcmpW (c 2) (1 : Int64)) = (0 : Int32) then (if (lcmpW (m 2) (1 : Int64)) = (0 : Int32) then (if (lcmpW (d 2) (1 : Int64)) = (0 : Int32) then (1 : Int32) else (0 : Int32)) else (0 : Int32)) else (0 : Int32)) := by
  obtain ⟨-, -, hc⟩ := hc
  obtain ⟨-, -, hm⟩ := hm
  obtain ⟨-, -, hd⟩ := hd
  have ne : ¬ ((0 : Int64) = 1) := by decide
  simp only [own_holds, lw_gt, lw_eq, Int64.lt_iff_toInt_lt]
  rcases hc with ⟨c1, c2⟩ | ⟨c1, c2⟩
  · rw [if_neg (show ¬ (c 0).toInt < (c 1).toInt by omega), if_pos c1]
    rcases hm with ⟨m1, m2⟩ | ⟨m1, m2⟩
    · rw [if_neg (show ¬ (m 0).toInt < (m 1).toInt by omega), if_pos m1]
      rcases hd with ⟨d1, d2⟩ | ⟨d1, d2⟩
      · rw [if_neg (show ¬ (d 0).toInt < (d 1).toInt by omega), if_pos d1]
      · rw [if_pos d2, d1, if_neg ne]
    · rw [if_pos m2, m1, if_neg ne]
  · rw [if_pos c2, c1, if_neg ne]

theorem d2_0 : decode jdk_29_method_66_code 0 = .ok (.lload_n 0, 1) := by decide +kernel
theorem d2_1 : decode jdk_29_method_66_code 1 = .ok (.lload_n 2, 1) := by decide +kernel
theorem d2_2 : decode jdk_29_method_66_code 2 = .ok (.lcmp, 1) := by decide +kernel
theorem d2_3 : decode jdk_29_method_66_code 3 = .ok (.ifCond .lt 7, 3) := by decide +kernel
theorem d2_10 : decode jdk_29_method_66_code 10 = .ok (.lload_n 2, 1) := by decide +kernel
theorem d2_11 : decode jdk_29_method_66_code 11 = .ok (.lreturn, 1) := by decide +kernel
theorem d2_6 : decode jdk_29_method_66_code 6 = .ok (.lload_n 0, 1) := by decide +kernel
theorem d2_7 : decode jdk_29_method_66_code 7 = .ok (.goto 4, 3) := by decide +kernel
theorem ef_2 (m : MethodId) (qx : Int64) (qy : Int64) : entryFrame m #[(.long qx), (.long qy)] 4 = mkF m 0 #[.val (.long qx), .second, .val (.long qy), .second] [] := by first | (simp [entryFrame, mkF, argsToLocals, Value.category]; done) | rfl
def Q2 (Z : State) (qx : Int64) (qy : Int64) (h0 : Heap) (n0 : Nat) (v : Option Value) (h : Heap) (L : List Loc) : Prop := v = some (.long (own_max qx qy)) ∧ Fr n0 L ∧ h = h0
set_option maxRecDepth 65536 in
set_option maxHeartbeats 40000000 in
theorem rm2 (l : Launch) (Z : State) (a0 : Array Value) (hw : ∀ d ∈ tables_1, d.before a0 Z = true) (ws : List Jvm.Cond) (qx : Int64) (qy : Int64) (h0 : Heap) (n0 : Nat) (Z0 : n0 ≤ h0.size) :
    MetFree l (⟨"java/lang/Math", "max", "(JJ)J"⟩ : MethodName) (head1 (Jvm.Cond.code (⟨"java/lang/Math", "max", "(JJ)J"⟩ : MethodName) jdk_29_method_66_code 4 (some .long) :: ws) ({ frames := 0, cells := 0, slots := 0, locals := 0 } : Room)) (fun a U => a = #[(.long qx), (.long qy)] ∧ Z.Warmed39 U.vm ∧ U.heap = h0) (fun _ _ _ _ _ => True) (fun _ U o U' => ∃ v L, o = .returned v ∧ Q2 Z qx qy h0 n0 v U'.heap L ∧ FrameEnd U o U' L ({ frames := 0, cells := 0, slots := 0, locals := 0 } : Room).cells ({ frames := 0, cells := 0, slots := 0, locals := 0 } : Room).slots) := by
  refine MetFree.of_bodySF (Jvm.Free.JP.mathPlain rfl (by decide +kernel)) hisR ?_
  intro p e s m args below meth c s₁ Bd hml0 hP hK
  obtain ⟨rfl, hZ, hh⟩ := hP
  have hx := Bd.exec
  have hby := Bd.bytes
  have hml : c.maxLocals = 4 := hml0
  have hown : s.vm.findClass "java/lang/Math" = some m.cls := findClass_of_methodNamed Bd.named
  have hnm := (name_of_methodNamed Bd.named Bd.method).1
  have X0 : Stand p l e ({ frames := 0, cells := 0, slots := 0, locals := 0 } : Room) s m #[(.long qx), (.long qy)] below meth c s₁ [] 0 0 := Stand.of_body Bd
  have e0 : s₁.heap = h0 := by rw [← hh, Bd.state]; rfl
  have N0 := Fr.nil n0
  have pre0 : ∀ t, Steps p.tables e below (s₁.setTop (mkF m 0 #[.val (.long qx), .second, .val (.long qy), .second] [])) t → Steps p.tables e below (s₁.setTop (entryFrame m #[(.long qx), (.long qy)] 4)) t := fun t k => castTop (ef_2 m qx qy) k
  by_cases hc1 : (lcmpW qx qy) < (0 : Int32)
  · obtain ⟨fs, hr, hrun, hended, hW, hsame⟩ := X0.leave (v := some (.long qy)) (fun h => by rw [Bd.returns] at h; cases h)
    refine ⟨_, _, pre0 _ ?_, hrun, hended, _, _, rfl, ?_, ⟨_, rfl⟩, hW, hsame.mono (by decide) (by decide)⟩
    · show Steps p.tables e below (s₁.setTop (mkF m 0 #[.val (.long qx), .second, .val (.long qy), .second] [])) _
      refine XS.lloadN X0.here hx rfl (hb hby d2_0) rfl ?_
      show Steps p.tables e below (s₁.setTop (mkF m 1 #[.val (.long qx), .second, .val (.long qy), .second] [(.long qx)])) _
      refine XS.lloadN X0.here hx rfl (hb hby d2_1) rfl ?_
      show Steps p.tables e below (s₁.setTop (mkF m 2 #[.val (.long qx), .second, .val (.long qy), .second] [(.long qy), (.long qx)])) _
      refine XS.lcmp X0.here hx rfl (hb hby d2_2) rfl ?_
      show Steps p.tables e below (s₁.setTop (mkF m 3 #[.val (.long qx), .second, .val (.long qy), .second] [(.int (lcmpW qx qy))])) _
      refine XS.ifYes X0.here hx rfl (pc0 := 3) (pc' := 10) rfl (hb hby d2_3) rfl ((if0 _ _).trans (tlt hc1).1) (by decide) (by decide) ?_
      show Steps p.tables e below (s₁.setTop (mkF m 10 #[.val (.long qx), .second, .val (.long qy), .second] [])) _
      refine XS.lloadN X0.here hx rfl (hb hby d2_10) rfl ?_
      show Steps p.tables e below (s₁.setTop (mkF m 11 #[.val (.long qx), .second, .val (.long qy), .second] [(.long qy)])) _
      jvm_step X0.here [X0.here.top, hx, (hb hby d2_11), X0.method', Bd.returns, narrow]
      first | (intro acts; rw [hr _ acts rfl rfl rfl]) | rw [hr _ _ rfl rfl rfl]
      exact Steps.refl _
    · show Q2 Z qx qy h0 n0 _ s₁.heap _
      rw [e0]
      exact ⟨(congrArg some (congrArg Value.long (by simp [own_max, hc1]))), N0, rfl⟩
  · obtain ⟨fs, hr, hrun, hended, hW, hsame⟩ := X0.leave (v := some (.long qx)) (fun h => by rw [Bd.returns] at h; cases h)
    refine ⟨_, _, pre0 _ ?_, hrun, hended, _, _, rfl, ?_, ⟨_, rfl⟩, hW, hsame.mono (by decide) (by decide)⟩
    · show Steps p.tables e below (s₁.setTop (mkF m 0 #[.val (.long qx), .second, .val (.long qy), .second] [])) _
      refine XS.lloadN X0.here hx rfl (hb hby d2_0) rfl ?_
      show Steps p.tables e below (s₁.setTop (mkF m 1 #[.val (.long qx), .second, .val (.long qy), .second] [(.long qx)])) _
      refine XS.lloadN X0.here hx rfl (hb hby d2_1) rfl ?_
      show Steps p.tables e below (s₁.setTop (mkF m 2 #[.val (.long qx), .second, .val (.long qy), .second] [(.long qy), (.long qx)])) _
      refine XS.lcmp X0.here hx rfl (hb hby d2_2) rfl ?_
      show Steps p.tables e below (s₁.setTop (mkF m 3 #[.val (.long qx), .second, .val (.long qy), .second] [(.int (lcmpW qx qy))])) _
      refine XS.ifNo X0.here hx rfl (hb hby d2_3) rfl ((if0 _ _).trans (flt hc1).1) ?_
      show Steps p.tables e below (s₁.setTop (mkF m 6 #[.val (.long qx), .second, .val (.long qy), .second] [])) _
      refine XS.lloadN X0.here hx rfl (hb hby d2_6) rfl ?_
      show Steps p.tables e below (s₁.setTop (mkF m 7 #[.val (.long qx), .second, .val (.long qy), .second] [(.long qx)])) _
      refine XS.goto X0.here hx rfl (pc0 := 7) (pc' := 11) rfl (hb hby d2_7) (by decide) (by decide) ?_
      show Steps p.tables e below (s₁.setTop (mkF m 11 #[.val (.long qx), .second, .val (.long qy), .second] [(.long qx)])) _
      jvm_step X0.here [X0.here.top, hx, (hb hby d2_11), X0.method', Bd.returns, narrow]
      first | (intro acts; rw [hr _ acts rfl rfl rfl]) | rw [hr _ _ rfl rfl rfl]
      exact Steps.refl _
    · show Q2 Z qx qy h0 n0 _ s₁.heap _
      rw [e0]
      exact ⟨(congrArg some (congrArg Value.long (by simp [own_max, hc1]))), N0, rfl⟩

theorem d3_0 : decode jdk_29_method_70_code 0 = .ok (.lload_n 0, 1) := by decide +kernel
theorem d3_1 : decode jdk_29_method_70_code 1 = .ok (.lload_n 2, 1) := by decide +kernel
theorem d3_2 : decode jdk_29_method_70_code 2 = .ok (.lcmp, 1) := by decide +kernel
theorem d3_3 : decode jdk_29_method_70_code 3 = .ok (.ifCond .gt 7, 3) := by decide +kernel
theorem d3_10 : decode jdk_29_method_70_code 10 = .ok (.lload_n 2, 1) := by decide +kernel
theorem d3_11 : decode jdk_29_method_70_code 11 = .ok (.lreturn, 1) := by decide +kernel
theorem d3_6 : decode jdk_29_method_70_code 6 = .ok (.lload_n 0, 1) := by decide +kernel
theorem d3_7 : decode jdk_29_method_70_code 7 = .ok (.goto 4, 3) := by decide +kernel
theorem ef_3 (m : MethodId) (qx : Int64) (qy : Int64) : entryFrame m #[(.long qx), (.long qy)] 4 = mkF m 0 #[.val (.long qx), .second, .val (.long qy), .second] [] := by first | (simp [entryFrame, mkF, argsToLocals, Value.category]; done) | rfl
def Q3 (Z : State) (qx : Int64) (qy : Int64) (h0 : Heap) (n0 : Nat) (v : Option Value) (h : Heap) (L : List Loc) : Prop := v = some (.long (own_min qx qy)) ∧ Fr n0 L ∧ h = h0
set_option maxRecDepth 65536 in
set_option maxHeartbeats 40000000 in
theorem rm3 (l : Launch) (Z : State) (a0 : Array Value) (hw : ∀ d ∈ tables_1, d.before a0 Z = true) (ws : List Jvm.Cond) (qx : Int64) (qy : Int64) (h0 : Heap) (n0 : Nat) (Z0 : n0 ≤ h0.size) :
    MetFree l (⟨"java/lang/Math", "min", "(JJ)J"⟩ : MethodName) (head1 (Jvm.Cond.code (⟨"java/lang/Math", "min", "(JJ)J"⟩ : MethodName) jdk_29_method_70_code 4 (some .long) :: ws) ({ frames := 0, cells := 0, slots := 0, locals := 0 } : Room)) (fun a U => a = #[(.long qx), (.long qy)] ∧ Z.Warmed39 U.vm ∧ U.heap = h0) (fun _ _ _ _ _ => True) (fun _ U o U' => ∃ v L, o = .returned v ∧ Q3 Z qx qy h0 n0 v U'.heap L ∧ FrameEnd U o U' L ({ frames := 0, cells := 0, slots := 0, locals := 0 } : Room).cells ({ frames := 0, cells := 0, slots := 0, locals := 0 } : Room).slots) := by
  refine MetFree.of_bodySF (Jvm.Free.JP.mathPlain rfl (by decide +kernel)) hisR ?_
  intro p e s m args below meth c s₁ Bd hml0 hP hK
  obtain ⟨rfl, hZ, hh⟩ := hP
  have hx := Bd.exec
  have hby := Bd.bytes
  have hml : c.maxLocals = 4 := hml0
  have hown : s.vm.findClass "java/lang/Math" = some m.cls := findClass_of_methodNamed Bd.named
  have hnm := (name_of_methodNamed Bd.named Bd.method).1
  have X0 : Stand p l e ({ frames := 0, cells := 0, slots := 0, locals := 0 } : Room) s m #[(.long qx), (.long qy)] below meth c s₁ [] 0 0 := Stand.of_body Bd
  have e0 : s₁.heap = h0 := by rw [← hh, Bd.state]; rfl
  have N0 := Fr.nil n0
  have pre0 : ∀ t, Steps p.tables e below (s₁.setTop (mkF m 0 #[.val (.long qx), .second, .val (.long qy), .second] [])) t → Steps p.tables e below (s₁.setTop (entryFrame m #[(.long qx), (.long qy)] 4)) t := fun t k => castTop (ef_3 m qx qy) k
  by_cases hc2 : (0 : Int32) < (lcmpW qx qy)
  · obtain ⟨fs, hr, hrun, hended, hW, hsame⟩ := X0.leave (v := some (.long qy)) (fun h => by rw [Bd.returns] at h; cases h)
    refine ⟨_, _, pre0 _ ?_, hrun, hended, _, _, rfl, ?_, ⟨_, rfl⟩, hW, hsame.mono (by decide) (by decide)⟩
    · show Steps p.tables e below (s₁.setTop (mkF m 0 #[.val (.long qx), .second, .val (.long qy), .second] [])) _
      refine XS.lloadN X0.here hx rfl (hb hby d3_0) rfl ?_
      show Steps p.tables e below (s₁.setTop (mkF m 1 #[.val (.long qx), .second, .val (.long qy), .second] [(.long qx)])) _
      refine XS.lloadN X0.here hx rfl (hb hby d3_1) rfl ?_
      show Steps p.tables e below (s₁.setTop (mkF m 2 #[.val (.long qx), .second, .val (.long qy), .second] [(.long qy), (.long qx)])) _
      refine XS.lcmp X0.here hx rfl (hb hby d3_2) rfl ?_
      show Steps p.tables e below (s₁.setTop (mkF m 3 #[.val (.long qx), .second, .val (.long qy), .second] [(.int (lcmpW qx qy))])) _
      refine XS.ifYes X0.here hx rfl (pc0 := 3) (pc' := 10) rfl (hb hby d3_3) rfl ((if0 _ _).trans (tlt hc2).2.2.1) (by decide) (by decide) ?_
      show Steps p.tables e below (s₁.setTop (mkF m 10 #[.val (.long qx), .second, .val (.long qy), .second] [])) _
      refine XS.lloadN X0.here hx rfl (hb hby d3_10) rfl ?_
      show Steps p.tables e below (s₁.setTop (mkF m 11 #[.val (.long qx), .second, .val (.long qy), .second] [(.long qy)])) _
      jvm_step X0.here [X0.here.top, hx, (hb hby d3_11), X0.method', Bd.returns, narrow]
      first | (intro acts; rw [hr _ acts rfl rfl rfl]) | rw [hr _ _ rfl rfl rfl]
      exact Steps.refl _
    · show Q3 Z qx qy h0 n0 _ s₁.heap _
      rw [e0]
      exact ⟨(congrArg some (congrArg Value.long (by simp [own_min, hc2]))), N0, rfl⟩
  · obtain ⟨fs, hr, hrun, hended, hW, hsame⟩ := X0.leave (v := some (.long qx)) (fun h => by rw [Bd.returns] at h; cases h)
    refine ⟨_, _, pre0 _ ?_, hrun, hended, _, _, rfl, ?_, ⟨_, rfl⟩, hW, hsame.mono (by decide) (by decide)⟩
    · show Steps p.tables e below (s₁.setTop (mkF m 0 #[.val (.long qx), .second, .val (.long qy), .second] [])) _
      refine XS.lloadN X0.here hx rfl (hb hby d3_0) rfl ?_
      show Steps p.tables e below (s₁.setTop (mkF m 1 #[.val (.long qx), .second, .val (.long qy), .second] [(.long qx)])) _
      refine XS.lloadN X0.here hx rfl (hb hby d3_1) rfl ?_
      show Steps p.tables e below (s₁.setTop (mkF m 2 #[.val (.long qx), .second, .val (.long qy), .second] [(.long qy), (.long qx)])) _
      refine XS.lcmp X0.here hx rfl (hb hby d3_2) rfl ?_
      show Steps p.tables e below (s₁.setTop (mkF m 3 #[.val (.long qx), .second, .val (.long qy), .second] [(.int (lcmpW qx qy))])) _
      refine XS.ifNo X0.here hx rfl (hb hby d3_3) rfl ((if0 _ _).trans (flt hc2).2.2.1) ?_
      show Steps p.tables e below (s₁.setTop (mkF m 6 #[.val (.long qx), .second, .val (.long qy), .second] [])) _
      refine XS.lloadN X0.here hx rfl (hb hby d3_6) rfl ?_
      show Steps p.tables e below (s₁.setTop (mkF m 7 #[.val (.long qx), .second, .val (.long qy), .second] [(.long qx)])) _
      refine XS.goto X0.here hx rfl (pc0 := 7) (pc' := 11) rfl (hb hby d3_7) (by decide) (by decide) ?_
      show Steps p.tables e below (s₁.setTop (mkF m 11 #[.val (.long qx), .second, .val (.long qy), .second] [(.long qx)])) _
      jvm_step X0.here [X0.here.top, hx, (hb hby d3_11), X0.method', Bd.returns, narrow]
      first | (intro acts; rw [hr _ acts rfl rfl rfl]) | rw [hr _ _ rfl rfl rfl]
      exact Steps.refl _
    · show Q3 Z qx qy h0 n0 _ s₁.heap _
      rw [e0]
      exact ⟨(congrArg some (congrArg Value.long (by simp [own_min, hc2]))), N0, rfl⟩

theorem d1_0 : decode method_2_code 0 = .ok (.lload_n 0, 1) := by decide +kernel
theorem d1_1 : decode method_2_code 1 = .ok (.ldc2_w 9, 3) := by decide +kernel
theorem d1_4 : decode method_2_code 4 = .ok (.land, 1) := by decide +kernel
theorem d1_5 : decode method_2_code 5 = .ok (.lstore 4, 2) := by decide +kernel
theorem d1_7 : decode method_2_code 7 = .ok (.lload_n 2, 1) := by decide +kernel
theorem d1_8 : decode method_2_code 8 = .ok (.ldc2_w 9, 3) := by decide +kernel
theorem d1_11 : decode method_2_code 11 = .ok (.land, 1) := by decide +kernel
theorem d1_12 : decode method_2_code 12 = .ok (.lstore 6, 2) := by decide +kernel
theorem d1_14 : decode method_2_code 14 = .ok (.lload_n 2, 1) := by decide +kernel
theorem d1_15 : decode method_2_code 15 = .ok (.bipush 62, 2) := by decide +kernel
theorem d1_17 : decode method_2_code 17 = .ok (.lushr, 1) := by decide +kernel
theorem d1_18 : decode method_2_code 18 = .ok (.l2i, 1) := by decide +kernel
theorem d1_19 : decode method_2_code 19 = .ok (.istore 8, 2) := by decide +kernel
theorem d1_21 : decode method_2_code 21 = .ok (.iload 8, 2) := by decide +kernel
theorem d1_23 : decode method_2_code 23 = .ok (.ifCond .ne 21, 3) := by decide +kernel
theorem d1_26 : decode method_2_code 26 = .ok (.iconst 3, 1) := by decide +kernel
theorem d1_27 : decode method_2_code 27 = .ok (.newarray .long, 2) := by decide +kernel
theorem d1_29 : decode method_2_code 29 = .ok (.dup, 1) := by decide +kernel
theorem d1_30 : decode method_2_code 30 = .ok (.iconst 0, 1) := by decide +kernel
theorem d1_31 : decode method_2_code 31 = .ok (.lload 4, 2) := by decide +kernel
theorem d1_33 : decode method_2_code 33 = .ok (.lastore, 1) := by decide +kernel
theorem d1_34 : decode method_2_code 34 = .ok (.dup, 1) := by decide +kernel
theorem d1_35 : decode method_2_code 35 = .ok (.iconst 1, 1) := by decide +kernel
theorem d1_36 : decode method_2_code 36 = .ok (.lload 4, 2) := by decide +kernel
theorem d1_38 : decode method_2_code 38 = .ok (.lastore, 1) := by decide +kernel
theorem d1_39 : decode method_2_code 39 = .ok (.dup, 1) := by decide +kernel
theorem d1_40 : decode method_2_code 40 = .ok (.iconst 2, 1) := by decide +kernel
theorem d1_41 : decode method_2_code 41 = .ok (.lconst 1, 1) := by decide +kernel
theorem d1_42 : decode method_2_code 42 = .ok (.lastore, 1) := by decide +kernel
theorem d1_43 : decode method_2_code 43 = .ok (.areturn, 1) := by decide +kernel
theorem d1_44 : decode method_2_code 44 = .ok (.iload 8, 2) := by decide +kernel
theorem d1_46 : decode method_2_code 46 = .ok (.iconst 1, 1) := by decide +kernel
theorem d1_47 : decode method_2_code 47 = .ok (.if_icmp .ne 31, 3) := by decide +kernel
theorem d1_50 : decode method_2_code 50 = .ok (.iconst 3, 1) := by decide +kernel
theorem d1_51 : decode method_2_code 51 = .ok (.newarray .long, 2) := by decide +kernel
theorem d1_53 : decode method_2_code 53 = .ok (.dup, 1) := by decide +kernel
theorem d1_54 : decode method_2_code 54 = .ok (.iconst 0, 1) := by decide +kernel
theorem d1_55 : decode method_2_code 55 = .ok (.lload 4, 2) := by decide +kernel
theorem d1_57 : decode method_2_code 57 = .ok (.lload 6, 2) := by decide +kernel
theorem d1_59 : decode method_2_code 59 = .ok (.invokestatic 11, 3) := by decide +kernel
theorem pd_635226 : parseMethodDescriptor "(JJ)J" = some ⟨[.long, .long], some .long⟩ := by decide +kernel
theorem d1_62 : decode method_2_code 62 = .ok (.lastore, 1) := by decide +kernel
theorem d1_63 : decode method_2_code 63 = .ok (.dup, 1) := by decide +kernel
theorem d1_64 : decode method_2_code 64 = .ok (.iconst 1, 1) := by decide +kernel
theorem d1_65 : decode method_2_code 65 = .ok (.lload 4, 2) := by decide +kernel
theorem d1_67 : decode method_2_code 67 = .ok (.lload 6, 2) := by decide +kernel
theorem d1_69 : decode method_2_code 69 = .ok (.invokestatic 17, 3) := by decide +kernel
theorem d1_72 : decode method_2_code 72 = .ok (.lastore, 1) := by decide +kernel
theorem d1_73 : decode method_2_code 73 = .ok (.dup, 1) := by decide +kernel
theorem d1_74 : decode method_2_code 74 = .ok (.iconst 2, 1) := by decide +kernel
theorem d1_75 : decode method_2_code 75 = .ok (.lconst 1, 1) := by decide +kernel
theorem d1_76 : decode method_2_code 76 = .ok (.lastore, 1) := by decide +kernel
theorem d1_77 : decode method_2_code 77 = .ok (.areturn, 1) := by decide +kernel
theorem d1_78 : decode method_2_code 78 = .ok (.iload 8, 2) := by decide +kernel
theorem d1_80 : decode method_2_code 80 = .ok (.iconst 2, 1) := by decide +kernel
theorem d1_81 : decode method_2_code 81 = .ok (.if_icmp .ne 43, 3) := by decide +kernel
theorem d1_84 : decode method_2_code 84 = .ok (.iconst 3, 1) := by decide +kernel
theorem d1_85 : decode method_2_code 85 = .ok (.newarray .long, 2) := by decide +kernel
theorem d1_87 : decode method_2_code 87 = .ok (.dup, 1) := by decide +kernel
theorem d1_88 : decode method_2_code 88 = .ok (.iconst 0, 1) := by decide +kernel
theorem d1_89 : decode method_2_code 89 = .ok (.lload 4, 2) := by decide +kernel
theorem d1_91 : decode method_2_code 91 = .ok (.lload 6, 2) := by decide +kernel
theorem d1_93 : decode method_2_code 93 = .ok (.invokestatic 17, 3) := by decide +kernel
theorem d1_96 : decode method_2_code 96 = .ok (.lastore, 1) := by decide +kernel
theorem d1_97 : decode method_2_code 97 = .ok (.dup, 1) := by decide +kernel
theorem d1_98 : decode method_2_code 98 = .ok (.iconst 1, 1) := by decide +kernel
theorem d1_99 : decode method_2_code 99 = .ok (.lload 4, 2) := by decide +kernel
theorem d1_101 : decode method_2_code 101 = .ok (.lload 6, 2) := by decide +kernel
theorem d1_103 : decode method_2_code 103 = .ok (.invokestatic 11, 3) := by decide +kernel
theorem d1_106 : decode method_2_code 106 = .ok (.lastore, 1) := by decide +kernel
theorem d1_107 : decode method_2_code 107 = .ok (.dup, 1) := by decide +kernel
theorem d1_108 : decode method_2_code 108 = .ok (.iconst 2, 1) := by decide +kernel
theorem d1_109 : decode method_2_code 109 = .ok (.lload 4, 2) := by decide +kernel
theorem d1_111 : decode method_2_code 111 = .ok (.lload 6, 2) := by decide +kernel
theorem d1_113 : decode method_2_code 113 = .ok (.lcmp, 1) := by decide +kernel
theorem d1_114 : decode method_2_code 114 = .ok (.ifCond .ne 7, 3) := by decide +kernel
theorem d1_117 : decode method_2_code 117 = .ok (.lconst 1, 1) := by decide +kernel
theorem d1_118 : decode method_2_code 118 = .ok (.goto 4, 3) := by decide +kernel
theorem d1_121 : decode method_2_code 121 = .ok (.lconst 0, 1) := by decide +kernel
theorem d1_122 : decode method_2_code 122 = .ok (.lastore, 1) := by decide +kernel
theorem d1_123 : decode method_2_code 123 = .ok (.areturn, 1) := by decide +kernel
theorem d1_124 : decode method_2_code 124 = .ok (.lload 4, 2) := by decide +kernel
theorem d1_126 : decode method_2_code 126 = .ok (.ldc2_w 9, 3) := by decide +kernel
theorem d1_129 : decode method_2_code 129 = .ok (.lcmp, 1) := by decide +kernel
theorem d1_130 : decode method_2_code 130 = .ok (.ifCond .ne 21, 3) := by decide +kernel
theorem d1_133 : decode method_2_code 133 = .ok (.iconst 3, 1) := by decide +kernel
theorem d1_134 : decode method_2_code 134 = .ok (.newarray .long, 2) := by decide +kernel
theorem d1_136 : decode method_2_code 136 = .ok (.dup, 1) := by decide +kernel
theorem d1_137 : decode method_2_code 137 = .ok (.iconst 0, 1) := by decide +kernel
theorem d1_138 : decode method_2_code 138 = .ok (.lload 4, 2) := by decide +kernel
theorem d1_140 : decode method_2_code 140 = .ok (.lastore, 1) := by decide +kernel
theorem d1_141 : decode method_2_code 141 = .ok (.dup, 1) := by decide +kernel
theorem d1_142 : decode method_2_code 142 = .ok (.iconst 1, 1) := by decide +kernel
theorem d1_143 : decode method_2_code 143 = .ok (.lload 4, 2) := by decide +kernel
theorem d1_145 : decode method_2_code 145 = .ok (.lastore, 1) := by decide +kernel
theorem d1_146 : decode method_2_code 146 = .ok (.dup, 1) := by decide +kernel
theorem d1_147 : decode method_2_code 147 = .ok (.iconst 2, 1) := by decide +kernel
theorem d1_148 : decode method_2_code 148 = .ok (.lconst 1, 1) := by decide +kernel
theorem d1_149 : decode method_2_code 149 = .ok (.lastore, 1) := by decide +kernel
theorem d1_150 : decode method_2_code 150 = .ok (.areturn, 1) := by decide +kernel
theorem d1_151 : decode method_2_code 151 = .ok (.iconst 3, 1) := by decide +kernel
theorem d1_152 : decode method_2_code 152 = .ok (.newarray .long, 2) := by decide +kernel
theorem d1_154 : decode method_2_code 154 = .ok (.dup, 1) := by decide +kernel
theorem d1_155 : decode method_2_code 155 = .ok (.iconst 0, 1) := by decide +kernel
theorem d1_156 : decode method_2_code 156 = .ok (.lload 4, 2) := by decide +kernel
theorem d1_158 : decode method_2_code 158 = .ok (.lastore, 1) := by decide +kernel
theorem d1_159 : decode method_2_code 159 = .ok (.dup, 1) := by decide +kernel
theorem d1_160 : decode method_2_code 160 = .ok (.iconst 1, 1) := by decide +kernel
theorem d1_161 : decode method_2_code 161 = .ok (.lload 4, 2) := by decide +kernel
theorem d1_163 : decode method_2_code 163 = .ok (.lconst 1, 1) := by decide +kernel
theorem d1_164 : decode method_2_code 164 = .ok (.ladd, 1) := by decide +kernel
theorem d1_165 : decode method_2_code 165 = .ok (.lastore, 1) := by decide +kernel
theorem d1_166 : decode method_2_code 166 = .ok (.dup, 1) := by decide +kernel
theorem d1_167 : decode method_2_code 167 = .ok (.iconst 2, 1) := by decide +kernel
theorem d1_168 : decode method_2_code 168 = .ok (.lconst 0, 1) := by decide +kernel
theorem d1_169 : decode method_2_code 169 = .ok (.lastore, 1) := by decide +kernel
theorem d1_170 : decode method_2_code 170 = .ok (.areturn, 1) := by decide +kernel
theorem pn_com_example_berthline_berthline_model_ResourcesHoldsPinLaw : plainName "com/example/berthline/berthline/model/ResourcesHoldsPinLaw" = true := by first | (simp [plainName, overriddenIn]; done) | decide +kernel
theorem ef_1 (m : MethodId) (qa : Int64) (qp : Int64) : entryFrame m #[(.long qa), (.long qp)] 9 = mkF m 0 #[.val (.long qa), .second, .val (.long qp), .second, .unset, .unset, .unset, .unset, .unset] [] := by first | (simp [entryFrame, mkF, argsToLocals, Value.category]; done) | rfl
def Q1 (Z : State) (qa : Int64) (qp : Int64) (h0 : Heap) (n0 : Nat) (v : Option Value) (h : Heap) (L : List Loc) : Prop := ∃ (bb : Addr) (ff : Nat → Int64), v = some (.ref bb) ∧ Fr n0 L ∧ Keep h0 h [] ∧ h0.size ≤ bb ∧ n0 ≤ bb ∧ JA Z h bb 3 ff ∧ own_good ff
set_option maxRecDepth 65536 in
set_option maxHeartbeats 40000000 in
theorem rm1 (l : Launch) (Z : State) (a0 : Array Value) (hw : ∀ d ∈ tables_1, d.before a0 Z = true) (ws : List Jvm.Cond) (qa : Int64) (qp : Int64) (h0 : Heap) (n0 : Nat) (Z0 : n0 ≤ h0.size) :
    MetFree l (⟨"com/example/berthline/berthline/model/ResourcesHoldsPinLaw", "pick", "(JJ)[J"⟩ : MethodName) (head1 (Jvm.Cond.code (⟨"com/example/berthline/berthline/model/ResourcesHoldsPinLaw", "pick", "(JJ)[J"⟩ : MethodName) method_2_code 9 (some (.array .long)) :: ws) ({ frames := 1, cells := 1, slots := 3, locals := 18 } : Room)) (fun a U => a = #[(.long qa), (.long qp)] ∧ Z.Warmed39 U.vm ∧ U.heap = h0) (fun _ _ _ _ _ => True) (fun _ U o U' => ∃ v L, o = .returned v ∧ Q1 Z qa qp h0 n0 v U'.heap L ∧ FrameEnd U o U' L ({ frames := 1, cells := 1, slots := 3, locals := 18 } : Room).cells ({ frames := 1, cells := 1, slots := 3, locals := 18 } : Room).slots) := by
  refine MetFree.of_bodySF (plainFor_of_name pn_com_example_berthline_berthline_model_ResourcesHoldsPinLaw) hisR ?_
  intro p e s m args below meth c s₁ Bd hml0 hP hK
  obtain ⟨rfl, hZ, hh⟩ := hP
  have hx := Bd.exec
  have hby := Bd.bytes
  have hml : c.maxLocals = 9 := hml0
  have hown : s.vm.findClass "com/example/berthline/berthline/model/ResourcesHoldsPinLaw" = some m.cls := findClass_of_methodNamed Bd.named
  have hnm := (name_of_methodNamed Bd.named Bd.method).1
  have X0 : Stand p l e ({ frames := 1, cells := 1, slots := 3, locals := 18 } : Room) s m #[(.long qa), (.long qp)] below meth c s₁ [] 0 0 := Stand.of_body Bd
  have e0 : s₁.heap = h0 := by rw [← hh, Bd.state]; rfl
  have N0 := Fr.nil n0
  have pre0 : ∀ t, Steps p.tables e below (s₁.setTop (mkF m 0 #[.val (.long qa), .second, .val (.long qp), .second, .unset, .unset, .unset, .unset, .unset] [])) t → Steps p.tables e below (s₁.setTop (entryFrame m #[(.long qa), (.long qp)] 9)) t := fun t k => castTop (ef_1 m qa qp) k
  by_cases hc3 : (((qp.toUInt64 >>> ((62 : Int32) &&& 0x3f).toInt64.toUInt64).toInt64).toInt32) = (0 : Int32)
  · obtain ⟨T4, h4, X4, e4, E4, A4, st4⟩ := JA.make X0 hx hZ (hw _ (List.mem_of_getElem? (i := 5) rfl)) e0 (g := (mkF m 27 #[.val (.long qa), .second, .val (.long qp), .second, .val (.long (qa &&& (9223372036854775807 : Int64))), .second, .val (.long (qp &&& (9223372036854775807 : Int64))), .second, .val (.int (((qp.toUInt64 >>> ((62 : Int32) &&& 0x3f).toInt64.toUInt64).toInt64).toInt32))] [(.int (3 : Int32))])) rfl (hb hby d1_27) rfl 3 (by decide) (by decide) (by decide) (by decide) (by decide)
    obtain ⟨b4, g4⟩ : ∃ z, z = h0.size := ⟨_, rfl⟩
    rw [← g4] at A4 st4
    have ge_b4 : n0 ≤ b4 := Nat.le_trans Z0 (Nat.le_of_eq g4.symm)
    have sz_b4 : h0.size ≤ b4 := Nat.le_trans (Keep.refl h0 []).1 (Nat.le_of_eq g4.symm)
    have Z4 : n0 ≤ h4.size := Nat.le_trans Z0 E4.1
    have K4 : Keep h0 h4 [] := (Keep.refl h0 []).ext E4
    obtain ⟨T5, h5, X5, e5, W5, V5, st5⟩ := JA.store X4 hx hZ e4 A4 0 (by decide) (by decide) (by decide) (x := (qa &&& (9223372036854775807 : Int64))) (g := (mkF m 33 #[.val (.long qa), .second, .val (.long qp), .second, .val (.long (qa &&& (9223372036854775807 : Int64))), .second, .val (.long (qp &&& (9223372036854775807 : Int64))), .second, .val (.int (((qp.toUInt64 >>> ((62 : Int32) &&& 0x3f).toInt64.toUInt64).toInt64).toInt32))] [(.long (qa &&& (9223372036854775807 : Int64))), (.int (0 : Int32)), (.ref b4), (.ref b4)])) rfl rfl (hb hby d1_33)
    have N5 := Fr.snoc X5 N0 ge_b4
    have Z5 : n0 ≤ h5.size := Nat.le_trans Z4 (Keep.of_wr W5).1
    have K5 : Keep h0 h5 [] := K4.wr W5 (Or.inr sz_b4)
    obtain ⟨T6, h6, X6, e6, W6, V6, st6⟩ := JA.store X5 hx hZ e5 V5 1 (by decide) (by decide) (by decide) (x := (qa &&& (9223372036854775807 : Int64))) (g := (mkF m 38 #[.val (.long qa), .second, .val (.long qp), .second, .val (.long (qa &&& (9223372036854775807 : Int64))), .second, .val (.long (qp &&& (9223372036854775807 : Int64))), .second, .val (.int (((qp.toUInt64 >>> ((62 : Int32) &&& 0x3f).toInt64.toUInt64).toInt64).toInt32))] [(.long (qa &&& (9223372036854775807 : Int64))), (.int (1 : Int32)), (.ref b4), (.ref b4)])) rfl rfl (hb hby d1_38)
    have N6 := Fr.snoc X6 N5 ge_b4
    have Z6 : n0 ≤ h6.size := Nat.le_trans Z5 (Keep.of_wr W6).1
    have K6 : Keep h0 h6 [] := K5.wr W6 (Or.inr sz_b4)
    obtain ⟨T7, h7, X7, e7, W7, V7, st7⟩ := JA.store X6 hx hZ e6 V6 2 (by decide) (by decide) (by decide) (x := (1 : Int64)) (g := (mkF m 42 #[.val (.long qa), .second, .val (.long qp), .second, .val (.long (qa &&& (9223372036854775807 : Int64))), .second, .val (.long (qp &&& (9223372036854775807 : Int64))), .second, .val (.int (((qp.toUInt64 >>> ((62 : Int32) &&& 0x3f).toInt64.toUInt64).toInt64).toInt32))] [(.long (1 : Int64)), (.int (2 : Int32)), (.ref b4), (.ref b4)])) rfl rfl (hb hby d1_42)
    have N7 := Fr.snoc X7 N6 ge_b4
    have Z7 : n0 ≤ h7.size := Nat.le_trans Z6 (Keep.of_wr W7).1
    have K7 : Keep h0 h7 [] := K6.wr W7 (Or.inr sz_b4)
    obtain ⟨fs, hr, hrun, hended, hW, hsame⟩ := X7.leave (v := some (.ref b4)) (fun h => by rw [Bd.returns] at h; cases h)
    refine ⟨_, _, pre0 _ ?_, hrun, hended, _, _, rfl, ?_, ⟨_, rfl⟩, hW, hsame.mono (by decide) (by decide)⟩
    · show Steps p.tables e below (s₁.setTop (mkF m 0 #[.val (.long qa), .second, .val (.long qp), .second, .unset, .unset, .unset, .unset, .unset] [])) _
      refine XS.lloadN X0.here hx rfl (hb hby d1_0) rfl ?_
      show Steps p.tables e below (s₁.setTop (mkF m 1 #[.val (.long qa), .second, .val (.long qp), .second, .unset, .unset, .unset, .unset, .unset] [(.long qa)])) _
      refine Jvm.Stand.ldc2J X0 hx hown (mvT hZ (hw _ (List.mem_of_getElem? (i := 4) rfl))) rfl (hb hby d1_1) ?_
      show Steps p.tables e below (s₁.setTop (mkF m 4 #[.val (.long qa), .second, .val (.long qp), .second, .unset, .unset, .unset, .unset, .unset] [(.long (9223372036854775807 : Int64)), (.long qa)])) _
      refine XS.land X0.here hx rfl (hb hby d1_4) rfl ?_
      show Steps p.tables e below (s₁.setTop (mkF m 5 #[.val (.long qa), .second, .val (.long qp), .second, .unset, .unset, .unset, .unset, .unset] [(.long (qa &&& (9223372036854775807 : Int64)))])) _
      refine XS.lstore X0.here hx rfl (hb hby d1_5) rfl (l' := #[.val (.long qa), .second, .val (.long qp), .second, .val (.long (qa &&& (9223372036854775807 : Int64))), .second, .unset, .unset, .unset]) rfl ?_
      show Steps p.tables e below (s₁.setTop (mkF m 7 #[.val (.long qa), .second, .val (.long qp), .second, .val (.long (qa &&& (9223372036854775807 : Int64))), .second, .unset, .unset, .unset] [])) _
      refine XS.lloadN X0.here hx rfl (hb hby d1_7) rfl ?_
      show Steps p.tables e below (s₁.setTop (mkF m 8 #[.val (.long qa), .second, .val (.long qp), .second, .val (.long (qa &&& (9223372036854775807 : Int64))), .second, .unset, .unset, .unset] [(.long qp)])) _
      refine Jvm.Stand.ldc2J X0 hx hown (mvT hZ (hw _ (List.mem_of_getElem? (i := 4) rfl))) rfl (hb hby d1_8) ?_
      show Steps p.tables e below (s₁.setTop (mkF m 11 #[.val (.long qa), .second, .val (.long qp), .second, .val (.long (qa &&& (9223372036854775807 : Int64))), .second, .unset, .unset, .unset] [(.long (9223372036854775807 : Int64)), (.long qp)])) _
      refine XS.land X0.here hx rfl (hb hby d1_11) rfl ?_
      show Steps p.tables e below (s₁.setTop (mkF m 12 #[.val (.long qa), .second, .val (.long qp), .second, .val (.long (qa &&& (9223372036854775807 : Int64))), .second, .unset, .unset, .unset] [(.long (qp &&& (9223372036854775807 : Int64)))])) _
      refine XS.lstore X0.here hx rfl (hb hby d1_12) rfl (l' := #[.val (.long qa), .second, .val (.long qp), .second, .val (.long (qa &&& (9223372036854775807 : Int64))), .second, .val (.long (qp &&& (9223372036854775807 : Int64))), .second, .unset]) rfl ?_
      show Steps p.tables e below (s₁.setTop (mkF m 14 #[.val (.long qa), .second, .val (.long qp), .second, .val (.long (qa &&& (9223372036854775807 : Int64))), .second, .val (.long (qp &&& (9223372036854775807 : Int64))), .second, .unset] [])) _
      refine XS.lloadN X0.here hx rfl (hb hby d1_14) rfl ?_
      show Steps p.tables e below (s₁.setTop (mkF m 15 #[.val (.long qa), .second, .val (.long qp), .second, .val (.long (qa &&& (9223372036854775807 : Int64))), .second, .val (.long (qp &&& (9223372036854775807 : Int64))), .second, .unset] [(.long qp)])) _
      refine XS.bipush X0.here hx rfl (hb hby d1_15) ?_
      show Steps p.tables e below (s₁.setTop (mkF m 17 #[.val (.long qa), .second, .val (.long qp), .second, .val (.long (qa &&& (9223372036854775807 : Int64))), .second, .val (.long (qp &&& (9223372036854775807 : Int64))), .second, .unset] [(.int (62 : Int32)), (.long qp)])) _
      refine XS.lushr X0.here hx rfl (hb hby d1_17) rfl ?_
      show Steps p.tables e below (s₁.setTop (mkF m 18 #[.val (.long qa), .second, .val (.long qp), .second, .val (.long (qa &&& (9223372036854775807 : Int64))), .second, .val (.long (qp &&& (9223372036854775807 : Int64))), .second, .unset] [(.long ((qp.toUInt64 >>> ((62 : Int32) &&& 0x3f).toInt64.toUInt64).toInt64))])) _
      refine XS.l2i X0.here hx rfl (hb hby d1_18) rfl ?_
      show Steps p.tables e below (s₁.setTop (mkF m 19 #[.val (.long qa), .second, .val (.long qp), .second, .val (.long (qa &&& (9223372036854775807 : Int64))), .second, .val (.long (qp &&& (9223372036854775807 : Int64))), .second, .unset] [(.int (((qp.toUInt64 >>> ((62 : Int32) &&& 0x3f).toInt64.toUInt64).toInt64).toInt32))])) _
      refine XS.istore X0.here hx rfl (hb hby d1_19) rfl (l' := #[.val (.long qa), .second, .val (.long qp), .second, .val (.long (qa &&& (9223372036854775807 : Int64))), .second, .val (.long (qp &&& (9223372036854775807 : Int64))), .second, .val (.int (((qp.toUInt64 >>> ((62 : Int32) &&& 0x3f).toInt64.toUInt64).toInt64).toInt32))]) rfl ?_
      show Steps p.tables e below (s₁.setTop (mkF m 21 #[.val (.long qa), .second, .val (.long qp), .second, .val (.long (qa &&& (9223372036854775807 : Int64))), .second, .val (.long (qp &&& (9223372036854775807 : Int64))), .second, .val (.int (((qp.toUInt64 >>> ((62 : Int32) &&& 0x3f).toInt64.toUInt64).toInt64).toInt32))] [])) _
      refine XS.iload X0.here hx rfl (hb hby d1_21) rfl ?_
      show Steps p.tables e below (s₁.setTop (mkF m 23 #[.val (.long qa), .second, .val (.long qp), .second, .val (.long (qa &&& (9223372036854775807 : Int64))), .second, .val (.long (qp &&& (9223372036854775807 : Int64))), .second, .val (.int (((qp.toUInt64 >>> ((62 : Int32) &&& 0x3f).toInt64.toUInt64).toInt64).toInt32))] [(.int (((qp.toUInt64 >>> ((62 : Int32) &&& 0x3f).toInt64.toUInt64).toInt64).toInt32))])) _
      refine XS.ifNo X0.here hx rfl (hb hby d1_23) rfl ((if0 _ _).trans (teq hc3).2) ?_
      show Steps p.tables e below (s₁.setTop (mkF m 26 #[.val (.long qa), .second, .val (.long qp), .second, .val (.long (qa &&& (9223372036854775807 : Int64))), .second, .val (.long (qp &&& (9223372036854775807 : Int64))), .second, .val (.int (((qp.toUInt64 >>> ((62 : Int32) &&& 0x3f).toInt64.toUInt64).toInt64).toInt32))] [])) _
      refine XS.iconst X0.here hx rfl (hb hby d1_26) ?_
      show Steps p.tables e below (s₁.setTop (mkF m 27 #[.val (.long qa), .second, .val (.long qp), .second, .val (.long (qa &&& (9223372036854775807 : Int64))), .second, .val (.long (qp &&& (9223372036854775807 : Int64))), .second, .val (.int (((qp.toUInt64 >>> ((62 : Int32) &&& 0x3f).toInt64.toUInt64).toInt64).toInt32))] [(.int (3 : Int32))])) _
      refine st4 _ ?_
      show Steps p.tables e below (T4.setTop (mkF m 29 #[.val (.long qa), .second, .val (.long qp), .second, .val (.long (qa &&& (9223372036854775807 : Int64))), .second, .val (.long (qp &&& (9223372036854775807 : Int64))), .second, .val (.int (((qp.toUInt64 >>> ((62 : Int32) &&& 0x3f).toInt64.toUInt64).toInt64).toInt32))] [(.ref b4)])) _
      refine XS.dup X4.here hx rfl (hb hby d1_29) rfl rfl ?_
      show Steps p.tables e below (T4.setTop (mkF m 30 #[.val (.long qa), .second, .val (.long qp), .second, .val (.long (qa &&& (9223372036854775807 : Int64))), .second, .val (.long (qp &&& (9223372036854775807 : Int64))), .second, .val (.int (((qp.toUInt64 >>> ((62 : Int32) &&& 0x3f).toInt64.toUInt64).toInt64).toInt32))] [(.ref b4), (.ref b4)])) _
      refine XS.iconst X4.here hx rfl (hb hby d1_30) ?_
      show Steps p.tables e below (T4.setTop (mkF m 31 #[.val (.long qa), .second, .val (.long qp), .second, .val (.long (qa &&& (9223372036854775807 : Int64))), .second, .val (.long (qp &&& (9223372036854775807 : Int64))), .second, .val (.int (((qp.toUInt64 >>> ((62 : Int32) &&& 0x3f).toInt64.toUInt64).toInt64).toInt32))] [(.int (0 : Int32)), (.ref b4), (.ref b4)])) _
      refine XS.lload X4.here hx rfl (hb hby d1_31) rfl ?_
      show Steps p.tables e below (T4.setTop (mkF m 33 #[.val (.long qa), .second, .val (.long qp), .second, .val (.long (qa &&& (9223372036854775807 : Int64))), .second, .val (.long (qp &&& (9223372036854775807 : Int64))), .second, .val (.int (((qp.toUInt64 >>> ((62 : Int32) &&& 0x3f).toInt64.toUInt64).toInt64).toInt32))] [(.long (qa &&& (9223372036854775807 : Int64))), (.int (0 : Int32)), (.ref b4), (.ref b4)])) _
      refine st5 _ ?_
      show Steps p.tables e below (T5.setTop (mkF m 34 #[.val (.long qa), .second, .val (.long qp), .second, .val (.long (qa &&& (9223372036854775807 : Int64))), .second, .val (.long (qp &&& (9223372036854775807 : Int64))), .second, .val (.int (((qp.toUInt64 >>> ((62 : Int32) &&& 0x3f).toInt64.toUInt64).toInt64).toInt32))] [(.ref b4)])) _
      refine XS.dup X5.here hx rfl (hb hby d1_34) rfl rfl ?_
      show Steps p.tables e below (T5.setTop (mkF m 35 #[.val (.long qa), .second, .val (.long qp), .second, .val (.long (qa &&& (9223372036854775807 : Int64))), .second, .val (.long (qp &&& (9223372036854775807 : Int64))), .second, .val (.int (((qp.toUInt64 >>> ((62 : Int32) &&& 0x3f).toInt64.toUInt64).toInt64).toInt32))] [(.ref b4), (.ref b4)])) _
      refine XS.iconst X5.here hx rfl (hb hby d1_35) ?_
      show Steps p.tables e below (T5.setTop (mkF m 36 #[.val (.long qa), .second, .val (.long qp), .second, .val (.long (qa &&& (9223372036854775807 : Int64))), .second, .val (.long (qp &&& (9223372036854775807 : Int64))), .second, .val (.int (((qp.toUInt64 >>> ((62 : Int32) &&& 0x3f).toInt64.toUInt64).toInt64).toInt32))] [(.int (1 : Int32)), (.ref b4), (.ref b4)])) _
      refine XS.lload X5.here hx rfl (hb hby d1_36) rfl ?_
      show Steps p.tables e below (T5.setTop (mkF m 38 #[.val (.long qa), .second, .val (.long qp), .second, .val (.long (qa &&& (9223372036854775807 : Int64))), .second, .val (.long (qp &&& (9223372036854775807 : Int64))), .second, .val (.int (((qp.toUInt64 >>> ((62 : Int32) &&& 0x3f).toInt64.toUInt64).toInt64).toInt32))] [(.long (qa &&& (9223372036854775807 : Int64))), (.int (1 : Int32)), (.ref b4), (.ref b4)])) _
      refine st6 _ ?_
      show Steps p.tables e below (T6.setTop (mkF m 39 #[.val (.long qa), .second, .val (.long qp), .second, .val (.long (qa &&& (9223372036854775807 : Int64))), .second, .val (.long (qp &&& (9223372036854775807 : Int64))), .second, .val (.int (((qp.toUInt64 >>> ((62 : Int32) &&& 0x3f).toInt64.toUInt64).toInt64).toInt32))] [(.ref b4)])) _
      refine XS.dup X6.here hx rfl (hb hby d1_39) rfl rfl ?_
      show Steps p.tables e below (T6.setTop (mkF m 40 #[.val (.long qa), .second, .val (.long qp), .second, .val (.long (qa &&& (9223372036854775807 : Int64))), .second, .val (.long (qp &&& (9223372036854775807 : Int64))), .second, .val (.int (((qp.toUInt64 >>> ((62 : Int32) &&& 0x3f).toInt64.toUInt64).toInt64).toInt32))] [(.ref b4), (.ref b4)])) _
      refine XS.iconst X6.here hx rfl (hb hby d1_40) ?_
      show Steps p.tables e below (T6.setTop (mkF m 41 #[.val (.long qa), .second, .val (.long qp), .second, .val (.long (qa &&& (9223372036854775807 : Int64))), .second, .val (.long (qp &&& (9223372036854775807 : Int64))), .second, .val (.int (((qp.toUInt64 >>> ((62 : Int32) &&& 0x3f).toInt64.toUInt64).toInt64).toInt32))] [(.int (2 : Int32)), (.ref b4), (.ref b4)])) _
      refine XS.lconst X6.here hx rfl (hb hby d1_41) ?_
      show Steps p.tables e below (T6.setTop (mkF m 42 #[.val (.long qa), .second, .val (.long qp), .second, .val (.long (qa &&& (9223372036854775807 : Int64))), .second, .val (.long (qp &&& (9223372036854775807 : Int64))), .second, .val (.int (((qp.toUInt64 >>> ((62 : Int32) &&& 0x3f).toInt64.toUInt64).toInt64).toInt32))] [(.long (1 : Int64)), (.int (2 : Int32)), (.ref b4), (.ref b4)])) _
      refine st7 _ ?_
      show Steps p.tables e below (T7.setTop (mkF m 43 #[.val (.long qa), .second, .val (.long qp), .second, .val (.long (qa &&& (9223372036854775807 : Int64))), .second, .val (.long (qp &&& (9223372036854775807 : Int64))), .second, .val (.int (((qp.toUInt64 >>> ((62 : Int32) &&& 0x3f).toInt64.toUInt64).toInt64).toInt32))] [(.ref b4)])) _
      jvm_step X7.here [X7.here.top, hx, (hb hby d1_43), X7.method', Bd.returns, Value.isRef, FieldType.isReference]
      first | (intro acts; rw [hr _ acts rfl rfl rfl]) | rw [hr _ _ rfl rfl rfl]
      exact Steps.refl _
    · show Q1 Z qa qp h0 n0 _ T7.heap _
      rw [e7]
      exact ⟨b4, (own_upd (own_upd (own_upd (fun _ => 0) 0 (qa &&& (9223372036854775807 : Int64))) 1 (qa &&& (9223372036854775807 : Int64))) 2 (1 : Int64)), rfl, N7, K7, sz_b4, ge_b4, V7, (own_good_of rfl rfl rfl (own_Hs (own_u _)))⟩
  · by_cases hc8 : (((qp.toUInt64 >>> ((62 : Int32) &&& 0x3f).toInt64.toUInt64).toInt64).toInt32) = (1 : Int32)
    · obtain ⟨T9, h9, X9, e9, E9, A9, st9⟩ := JA.make X0 hx hZ (hw _ (List.mem_of_getElem? (i := 5) rfl)) e0 (g := (mkF m 51 #[.val (.long qa), .second, .val (.long qp), .second, .val (.long (qa &&& (9223372036854775807 : Int64))), .second, .val (.long (qp &&& (9223372036854775807 : Int64))), .second, .val (.int (((qp.toUInt64 >>> ((62 : Int32) &&& 0x3f).toInt64.toUInt64).toInt64).toInt32))] [(.int (3 : Int32))])) rfl (hb hby d1_51) rfl 3 (by decide) (by decide) (by decide) (by decide) (by decide)
      obtain ⟨b9, g9⟩ : ∃ z, z = h0.size := ⟨_, rfl⟩
      rw [← g9] at A9 st9
      have ge_b9 : n0 ≤ b9 := Nat.le_trans Z0 (Nat.le_of_eq g9.symm)
      have sz_b9 : h0.size ≤ b9 := Nat.le_trans (Keep.refl h0 []).1 (Nat.le_of_eq g9.symm)
      have Z9 : n0 ≤ h9.size := Nat.le_trans Z0 E9.1
      have K9 : Keep h0 h9 [] := (Keep.refl h0 []).ext E9
      obtain ⟨_, _, ⟨T10, L10, k10, n10⟩, -, X10, ⟨Lc10, hQ10, l10, y10, z10⟩, st10⟩ := Jvm.LawKit.callS X9 hx (y := (⟨"java/lang/Math", "max", "(JJ)J"⟩ : MethodName)) hown (mvT hZ (hw _ (List.mem_of_getElem? (i := 6) rfl))) (mvT hZ (hw _ (List.mem_of_getElem? (i := 7) rfl))) (mvT hZ (hw _ (List.mem_of_getElem? (i := 8) rfl))) (mvT hZ (hw _ (List.mem_of_getElem? (i := 9) rfl))) (by decide) (backOf (W := 3) (rm2 l Z a0 hw [] (qa &&& (9223372036854775807 : Int64)) (qp &&& (9223372036854775807 : Int64)) h9 n0 Z9 ) hZ (hw _ (List.mem_of_getElem? (i := 9) rfl)) (hw _ (List.mem_of_getElem? (i := 8) rfl)) (by decide) (by decide)) (g := (mkF m 59 #[.val (.long qa), .second, .val (.long qp), .second, .val (.long (qa &&& (9223372036854775807 : Int64))), .second, .val (.long (qp &&& (9223372036854775807 : Int64))), .second, .val (.int (((qp.toUInt64 >>> ((62 : Int32) &&& 0x3f).toInt64.toUInt64).toInt64).toInt32))] [(.long (qp &&& (9223372036854775807 : Int64))), (.long (qa &&& (9223372036854775807 : Int64))), (.int (0 : Int32)), (.ref b9), (.ref b9)])) rfl (by rw [hml]; rfl) (argsL := [(.long (qa &&& (9223372036854775807 : Int64))), (.long (qp &&& (9223372036854775807 : Int64)))]) (rest := [(.int (0 : Int32)), (.ref b9), (.ref b9)]) (lenOf pd_635226 rfl) rfl (by show 2 * 0 + _ ≤ _; exact Nat.le_of_eq rfl) (hb hby d1_59) (fun _ _ => ⟨rfl, e9, (by decide : 1 + 0 ≤ _), (by decide : 3 + 0 ≤ _)⟩)
      dsimp only [Pt.U, Pt.locs, Pt.cells, Pt.slots] at X10 l10 y10 z10 st10 hQ10
      subst l10 y10 z10
      obtain ⟨rfl, N10q, K10c⟩ := hQ10
      have N10 := Fr.app N0 N10q
      obtain ⟨T11, h11, X11, e11, W11, V11, st11⟩ := JA.store X10 hx hZ K10c A9 0 (by decide) (by decide) (by decide) (x := (own_max (qa &&& (9223372036854775807 : Int64)) (qp &&& (9223372036854775807 : Int64)))) (g := (mkF m 62 #[.val (.long qa), .second, .val (.long qp), .second, .val (.long (qa &&& (9223372036854775807 : Int64))), .second, .val (.long (qp &&& (9223372036854775807 : Int64))), .second, .val (.int (((qp.toUInt64 >>> ((62 : Int32) &&& 0x3f).toInt64.toUInt64).toInt64).toInt32))] [(.long (own_max (qa &&& (9223372036854775807 : Int64)) (qp &&& (9223372036854775807 : Int64)))), (.int (0 : Int32)), (.ref b9), (.ref b9)])) rfl rfl (hb hby d1_62)
      have N11 := Fr.snoc X11 N10 ge_b9
      have Z11 : n0 ≤ h11.size := Nat.le_trans Z9 (Keep.of_wr W11).1
      have K11 : Keep h0 h11 [] := K9.wr W11 (Or.inr sz_b9)
      obtain ⟨_, _, ⟨T12, L12, k12, n12⟩, -, X12, ⟨Lc12, hQ12, l12, y12, z12⟩, st12⟩ := Jvm.LawKit.callS X11 hx (y := (⟨"java/lang/Math", "min", "(JJ)J"⟩ : MethodName)) hown (mvT hZ (hw _ (List.mem_of_getElem? (i := 10) rfl))) (mvT hZ (hw _ (List.mem_of_getElem? (i := 11) rfl))) (mvT hZ (hw _ (List.mem_of_getElem? (i := 8) rfl))) (mvT hZ (hw _ (List.mem_of_getElem? (i := 12) rfl))) (by decide) (backOf (W := 3) (rm3 l Z a0 hw [] (qa &&& (9223372036854775807 : Int64)) (qp &&& (9223372036854775807 : Int64)) h11 n0 Z11 ) hZ (hw _ (List.mem_of_getElem? (i := 12) rfl)) (hw _ (List.mem_of_getElem? (i := 8) rfl)) (by decide) (by decide)) (g := (mkF m 69 #[.val (.long qa), .second, .val (.long qp), .second, .val (.long (qa &&& (9223372036854775807 : Int64))), .second, .val (.long (qp &&& (9223372036854775807 : Int64))), .second, .val (.int (((qp.toUInt64 >>> ((62 : Int32) &&& 0x3f).toInt64.toUInt64).toInt64).toInt32))] [(.long (qp &&& (9223372036854775807 : Int64))), (.long (qa &&& (9223372036854775807 : Int64))), (.int (1 : Int32)), (.ref b9), (.ref b9)])) rfl (by rw [hml]; rfl) (argsL := [(.long (qa &&& (9223372036854775807 : Int64))), (.long (qp &&& (9223372036854775807 : Int64)))]) (rest := [(.int (1 : Int32)), (.ref b9), (.ref b9)]) (lenOf pd_635226 rfl) rfl (by show 2 * 0 + _ ≤ _; exact Nat.le_of_eq rfl) (hb hby d1_69) (fun _ _ => ⟨rfl, e11, (by decide : 1 + 0 ≤ _), (by decide : 3 + 0 ≤ _)⟩)
      dsimp only [Pt.U, Pt.locs, Pt.cells, Pt.slots] at X12 l12 y12 z12 st12 hQ12
      subst l12 y12 z12
      obtain ⟨rfl, N12q, K12c⟩ := hQ12
      have N12 := Fr.app N11 N12q
      obtain ⟨T13, h13, X13, e13, W13, V13, st13⟩ := JA.store X12 hx hZ K12c V11 1 (by decide) (by decide) (by decide) (x := (own_min (qa &&& (9223372036854775807 : Int64)) (qp &&& (9223372036854775807 : Int64)))) (g := (mkF m 72 #[.val (.long qa), .second, .val (.long qp), .second, .val (.long (qa &&& (9223372036854775807 : Int64))), .second, .val (.long (qp &&& (9223372036854775807 : Int64))), .second, .val (.int (((qp.toUInt64 >>> ((62 : Int32) &&& 0x3f).toInt64.toUInt64).toInt64).toInt32))] [(.long (own_min (qa &&& (9223372036854775807 : Int64)) (qp &&& (9223372036854775807 : Int64)))), (.int (1 : Int32)), (.ref b9), (.ref b9)])) rfl rfl (hb hby d1_72)
      have N13 := Fr.snoc X13 N12 ge_b9
      have Z13 : n0 ≤ h13.size := Nat.le_trans Z11 (Keep.of_wr W13).1
      have K13 : Keep h0 h13 [] := K11.wr W13 (Or.inr sz_b9)
      obtain ⟨T14, h14, X14, e14, W14, V14, st14⟩ := JA.store X13 hx hZ e13 V13 2 (by decide) (by decide) (by decide) (x := (1 : Int64)) (g := (mkF m 76 #[.val (.long qa), .second, .val (.long qp), .second, .val (.long (qa &&& (9223372036854775807 : Int64))), .second, .val (.long (qp &&& (9223372036854775807 : Int64))), .second, .val (.int (((qp.toUInt64 >>> ((62 : Int32) &&& 0x3f).toInt64.toUInt64).toInt64).toInt32))] [(.long (1 : Int64)), (.int (2 : Int32)), (.ref b9), (.ref b9)])) rfl rfl (hb hby d1_76)
      have N14 := Fr.snoc X14 N13 ge_b9
      have Z14 : n0 ≤ h14.size := Nat.le_trans Z13 (Keep.of_wr W14).1
      have K14 : Keep h0 h14 [] := K13.wr W14 (Or.inr sz_b9)
      obtain ⟨fs, hr, hrun, hended, hW, hsame⟩ := X14.leave (v := some (.ref b9)) (fun h => by rw [Bd.returns] at h; cases h)
      refine ⟨_, _, pre0 _ ?_, hrun, hended, _, _, rfl, ?_, ⟨_, rfl⟩, hW, hsame.mono (by decide) (by decide)⟩
      · show Steps p.tables e below (s₁.setTop (mkF m 0 #[.val (.long qa), .second, .val (.long qp), .second, .unset, .unset, .unset, .unset, .unset] [])) _
        refine XS.lloadN X0.here hx rfl (hb hby d1_0) rfl ?_
        show Steps p.tables e below (s₁.setTop (mkF m 1 #[.val (.long qa), .second, .val (.long qp), .second, .unset, .unset, .unset, .unset, .unset] [(.long qa)])) _
        refine Jvm.Stand.ldc2J X0 hx hown (mvT hZ (hw _ (List.mem_of_getElem? (i := 4) rfl))) rfl (hb hby d1_1) ?_
        show Steps p.tables e below (s₁.setTop (mkF m 4 #[.val (.long qa), .second, .val (.long qp), .second, .unset, .unset, .unset, .unset, .unset] [(.long (9223372036854775807 : Int64)), (.long qa)])) _
        refine XS.land X0.here hx rfl (hb hby d1_4) rfl ?_
        show Steps p.tables e below (s₁.setTop (mkF m 5 #[.val (.long qa), .second, .val (.long qp), .second, .unset, .unset, .unset, .unset, .unset] [(.long (qa &&& (9223372036854775807 : Int64)))])) _
        refine XS.lstore X0.here hx rfl (hb hby d1_5) rfl (l' := #[.val (.long qa), .second, .val (.long qp), .second, .val (.long (qa &&& (9223372036854775807 : Int64))), .second, .unset, .unset, .unset]) rfl ?_
        show Steps p.tables e below (s₁.setTop (mkF m 7 #[.val (.long qa), .second, .val (.long qp), .second, .val (.long (qa &&& (9223372036854775807 : Int64))), .second, .unset, .unset, .unset] [])) _
        refine XS.lloadN X0.here hx rfl (hb hby d1_7) rfl ?_
        show Steps p.tables e below (s₁.setTop (mkF m 8 #[.val (.long qa), .second, .val (.long qp), .second, .val (.long (qa &&& (9223372036854775807 : Int64))), .second, .unset, .unset, .unset] [(.long qp)])) _
        refine Jvm.Stand.ldc2J X0 hx hown (mvT hZ (hw _ (List.mem_of_getElem? (i := 4) rfl))) rfl (hb hby d1_8) ?_
        show Steps p.tables e below (s₁.setTop (mkF m 11 #[.val (.long qa), .second, .val (.long qp), .second, .val (.long (qa &&& (9223372036854775807 : Int64))), .second, .unset, .unset, .unset] [(.long (9223372036854775807 : Int64)), (.long qp)])) _
        refine XS.land X0.here hx rfl (hb hby d1_11) rfl ?_
        show Steps p.tables e below (s₁.setTop (mkF m 12 #[.val (.long qa), .second, .val (.long qp), .second, .val (.long (qa &&& (9223372036854775807 : Int64))), .second, .unset, .unset, .unset] [(.long (qp &&& (9223372036854775807 : Int64)))])) _
        refine XS.lstore X0.here hx rfl (hb hby d1_12) rfl (l' := #[.val (.long qa), .second, .val (.long qp), .second, .val (.long (qa &&& (9223372036854775807 : Int64))), .second, .val (.long (qp &&& (9223372036854775807 : Int64))), .second, .unset]) rfl ?_
        show Steps p.tables e below (s₁.setTop (mkF m 14 #[.val (.long qa), .second, .val (.long qp), .second, .val (.long (qa &&& (9223372036854775807 : Int64))), .second, .val (.long (qp &&& (9223372036854775807 : Int64))), .second, .unset] [])) _
        refine XS.lloadN X0.here hx rfl (hb hby d1_14) rfl ?_
        show Steps p.tables e below (s₁.setTop (mkF m 15 #[.val (.long qa), .second, .val (.long qp), .second, .val (.long (qa &&& (9223372036854775807 : Int64))), .second, .val (.long (qp &&& (9223372036854775807 : Int64))), .second, .unset] [(.long qp)])) _
        refine XS.bipush X0.here hx rfl (hb hby d1_15) ?_
        show Steps p.tables e below (s₁.setTop (mkF m 17 #[.val (.long qa), .second, .val (.long qp), .second, .val (.long (qa &&& (9223372036854775807 : Int64))), .second, .val (.long (qp &&& (9223372036854775807 : Int64))), .second, .unset] [(.int (62 : Int32)), (.long qp)])) _
        refine XS.lushr X0.here hx rfl (hb hby d1_17) rfl ?_
        show Steps p.tables e below (s₁.setTop (mkF m 18 #[.val (.long qa), .second, .val (.long qp), .second, .val (.long (qa &&& (9223372036854775807 : Int64))), .second, .val (.long (qp &&& (9223372036854775807 : Int64))), .second, .unset] [(.long ((qp.toUInt64 >>> ((62 : Int32) &&& 0x3f).toInt64.toUInt64).toInt64))])) _
        refine XS.l2i X0.here hx rfl (hb hby d1_18) rfl ?_
        show Steps p.tables e below (s₁.setTop (mkF m 19 #[.val (.long qa), .second, .val (.long qp), .second, .val (.long (qa &&& (9223372036854775807 : Int64))), .second, .val (.long (qp &&& (9223372036854775807 : Int64))), .second, .unset] [(.int (((qp.toUInt64 >>> ((62 : Int32) &&& 0x3f).toInt64.toUInt64).toInt64).toInt32))])) _
        refine XS.istore X0.here hx rfl (hb hby d1_19) rfl (l' := #[.val (.long qa), .second, .val (.long qp), .second, .val (.long (qa &&& (9223372036854775807 : Int64))), .second, .val (.long (qp &&& (9223372036854775807 : Int64))), .second, .val (.int (((qp.toUInt64 >>> ((62 : Int32) &&& 0x3f).toInt64.toUInt64).toInt64).toInt32))]) rfl ?_
        show Steps p.tables e below (s₁.setTop (mkF m 21 #[.val (.long qa), .second, .val (.long qp), .second, .val (.long (qa &&& (9223372036854775807 : Int64))), .second, .val (.long (qp &&& (9223372036854775807 : Int64))), .second, .val (.int (((qp.toUInt64 >>> ((62 : Int32) &&& 0x3f).toInt64.toUInt64).toInt64).toInt32))] [])) _
        refine XS.iload X0.here hx rfl (hb hby d1_21) rfl ?_
        show Steps p.tables e below (s₁.setTop (mkF m 23 #[.val (.long qa), .second, .val (.long qp), .second, .val (.long (qa &&& (9223372036854775807 : Int64))), .second, .val (.long (qp &&& (9223372036854775807 : Int64))), .second, .val (.int (((qp.toUInt64 >>> ((62 : Int32) &&& 0x3f).toInt64.toUInt64).toInt64).toInt32))] [(.int (((qp.toUInt64 >>> ((62 : Int32) &&& 0x3f).toInt64.toUInt64).toInt64).toInt32))])) _
        refine XS.ifYes X0.here hx rfl (pc0 := 23) (pc' := 44) rfl (hb hby d1_23) rfl ((if0 _ _).trans (feq hc3).2) (by decide) (by decide) ?_
        show Steps p.tables e below (s₁.setTop (mkF m 44 #[.val (.long qa), .second, .val (.long qp), .second, .val (.long (qa &&& (9223372036854775807 : Int64))), .second, .val (.long (qp &&& (9223372036854775807 : Int64))), .second, .val (.int (((qp.toUInt64 >>> ((62 : Int32) &&& 0x3f).toInt64.toUInt64).toInt64).toInt32))] [])) _
        refine XS.iload X0.here hx rfl (hb hby d1_44) rfl ?_
        show Steps p.tables e below (s₁.setTop (mkF m 46 #[.val (.long qa), .second, .val (.long qp), .second, .val (.long (qa &&& (9223372036854775807 : Int64))), .second, .val (.long (qp &&& (9223372036854775807 : Int64))), .second, .val (.int (((qp.toUInt64 >>> ((62 : Int32) &&& 0x3f).toInt64.toUInt64).toInt64).toInt32))] [(.int (((qp.toUInt64 >>> ((62 : Int32) &&& 0x3f).toInt64.toUInt64).toInt64).toInt32))])) _
        refine XS.iconst X0.here hx rfl (hb hby d1_46) ?_
        show Steps p.tables e below (s₁.setTop (mkF m 47 #[.val (.long qa), .second, .val (.long qp), .second, .val (.long (qa &&& (9223372036854775807 : Int64))), .second, .val (.long (qp &&& (9223372036854775807 : Int64))), .second, .val (.int (((qp.toUInt64 >>> ((62 : Int32) &&& 0x3f).toInt64.toUInt64).toInt64).toInt32))] [(.int (1 : Int32)), (.int (((qp.toUInt64 >>> ((62 : Int32) &&& 0x3f).toInt64.toUInt64).toInt64).toInt32))])) _
        refine XS.icmpNo X0.here hx rfl (hb hby d1_47) rfl (teq hc8).2 ?_
        show Steps p.tables e below (s₁.setTop (mkF m 50 #[.val (.long qa), .second, .val (.long qp), .second, .val (.long (qa &&& (9223372036854775807 : Int64))), .second, .val (.long (qp &&& (9223372036854775807 : Int64))), .second, .val (.int (((qp.toUInt64 >>> ((62 : Int32) &&& 0x3f).toInt64.toUInt64).toInt64).toInt32))] [])) _
        refine XS.iconst X0.here hx rfl (hb hby d1_50) ?_
        show Steps p.tables e below (s₁.setTop (mkF m 51 #[.val (.long qa), .second, .val (.long qp), .second, .val (.long (qa &&& (9223372036854775807 : Int64))), .second, .val (.long (qp &&& (9223372036854775807 : Int64))), .second, .val (.int (((qp.toUInt64 >>> ((62 : Int32) &&& 0x3f).toInt64.toUInt64).toInt64).toInt32))] [(.int (3 : Int32))])) _
        refine st9 _ ?_
        show Steps p.tables e below (T9.setTop (mkF m 53 #[.val (.long qa), .second, .val (.long qp), .second, .val (.long (qa &&& (9223372036854775807 : Int64))), .second, .val (.long (qp &&& (9223372036854775807 : Int64))), .second, .val (.int (((qp.toUInt64 >>> ((62 : Int32) &&& 0x3f).toInt64.toUInt64).toInt64).toInt32))] [(.ref b9)])) _
        refine XS.dup X9.here hx rfl (hb hby d1_53) rfl rfl ?_
        show Steps p.tables e below (T9.setTop (mkF m 54 #[.val (.long qa), .second, .val (.long qp), .second, .val (.long (qa &&& (9223372036854775807 : Int64))), .second, .val (.long (qp &&& (9223372036854775807 : Int64))), .second, .val (.int (((qp.toUInt64 >>> ((62 : Int32) &&& 0x3f).toInt64.toUInt64).toInt64).toInt32))] [(.ref b9), (.ref b9)])) _
        refine XS.iconst X9.here hx rfl (hb hby d1_54) ?_
        show Steps p.tables e below (T9.setTop (mkF m 55 #[.val (.long qa), .second, .val (.long qp), .second, .val (.long (qa &&& (9223372036854775807 : Int64))), .second, .val (.long (qp &&& (9223372036854775807 : Int64))), .second, .val (.int (((qp.toUInt64 >>> ((62 : Int32) &&& 0x3f).toInt64.toUInt64).toInt64).toInt32))] [(.int (0 : Int32)), (.ref b9), (.ref b9)])) _
        refine XS.lload X9.here hx rfl (hb hby d1_55) rfl ?_
        show Steps p.tables e below (T9.setTop (mkF m 57 #[.val (.long qa), .second, .val (.long qp), .second, .val (.long (qa &&& (9223372036854775807 : Int64))), .second, .val (.long (qp &&& (9223372036854775807 : Int64))), .second, .val (.int (((qp.toUInt64 >>> ((62 : Int32) &&& 0x3f).toInt64.toUInt64).toInt64).toInt32))] [(.long (qa &&& (9223372036854775807 : Int64))), (.int (0 : Int32)), (.ref b9), (.ref b9)])) _
        refine XS.lload X9.here hx rfl (hb hby d1_57) rfl ?_
        show Steps p.tables e below (T9.setTop (mkF m 59 #[.val (.long qa), .second, .val (.long qp), .second, .val (.long (qa &&& (9223372036854775807 : Int64))), .second, .val (.long (qp &&& (9223372036854775807 : Int64))), .second, .val (.int (((qp.toUInt64 >>> ((62 : Int32) &&& 0x3f).toInt64.toUInt64).toInt64).toInt32))] [(.long (qp &&& (9223372036854775807 : Int64))), (.long (qa &&& (9223372036854775807 : Int64))), (.int (0 : Int32)), (.ref b9), (.ref b9)])) _
        refine st10 _ ?_
        show Steps p.tables e below (T10.setTop (mkF m 62 #[.val (.long qa), .second, .val (.long qp), .second, .val (.long (qa &&& (9223372036854775807 : Int64))), .second, .val (.long (qp &&& (9223372036854775807 : Int64))), .second, .val (.int (((qp.toUInt64 >>> ((62 : Int32) &&& 0x3f).toInt64.toUInt64).toInt64).toInt32))] [(.long (own_max (qa &&& (9223372036854775807 : Int64)) (qp &&& (9223372036854775807 : Int64)))), (.int (0 : Int32)), (.ref b9), (.ref b9)])) _
        refine st11 _ ?_
        show Steps p.tables e below (T11.setTop (mkF m 63 #[.val (.long qa), .second, .val (.long qp), .second, .val (.long (qa &&& (9223372036854775807 : Int64))), .second, .val (.long (qp &&& (9223372036854775807 : Int64))), .second, .val (.int (((qp.toUInt64 >>> ((62 : Int32) &&& 0x3f).toInt64.toUInt64).toInt64).toInt32))] [(.ref b9)])) _
        refine XS.dup X11.here hx rfl (hb hby d1_63) rfl rfl ?_
        show Steps p.tables e below (T11.setTop (mkF m 64 #[.val (.long qa), .second, .val (.long qp), .second, .val (.long (qa &&& (9223372036854775807 : Int64))), .second, .val (.long (qp &&& (9223372036854775807 : Int64))), .second, .val (.int (((qp.toUInt64 >>> ((62 : Int32) &&& 0x3f).toInt64.toUInt64).toInt64).toInt32))] [(.ref b9), (.ref b9)])) _
        refine XS.iconst X11.here hx rfl (hb hby d1_64) ?_
        show Steps p.tables e below (T11.setTop (mkF m 65 #[.val (.long qa), .second, .val (.long qp), .second, .val (.long (qa &&& (9223372036854775807 : Int64))), .second, .val (.long (qp &&& (9223372036854775807 : Int64))), .second, .val (.int (((qp.toUInt64 >>> ((62 : Int32) &&& 0x3f).toInt64.toUInt64).toInt64).toInt32))] [(.int (1 : Int32)), (.ref b9), (.ref b9)])) _
        refine XS.lload X11.here hx rfl (hb hby d1_65) rfl ?_
        show Steps p.tables e below (T11.setTop (mkF m 67 #[.val (.long qa), .second, .val (.long qp), .second, .val (.long (qa &&& (9223372036854775807 : Int64))), .second, .val (.long (qp &&& (9223372036854775807 : Int64))), .second, .val (.int (((qp.toUInt64 >>> ((62 : Int32) &&& 0x3f).toInt64.toUInt64).toInt64).toInt32))] [(.long (qa &&& (9223372036854775807 : Int64))), (.int (1 : Int32)), (.ref b9), (.ref b9)])) _
        refine XS.lload X11.here hx rfl (hb hby d1_67) rfl ?_
        show Steps p.tables e below (T11.setTop (mkF m 69 #[.val (.long qa), .second, .val (.long qp), .second, .val (.long (qa &&& (9223372036854775807 : Int64))), .second, .val (.long (qp &&& (9223372036854775807 : Int64))), .second, .val (.int (((qp.toUInt64 >>> ((62 : Int32) &&& 0x3f).toInt64.toUInt64).toInt64).toInt32))] [(.long (qp &&& (9223372036854775807 : Int64))), (.long (qa &&& (9223372036854775807 : Int64))), (.int (1 : Int32)), (.ref b9), (.ref b9)])) _
        refine st12 _ ?_
        show Steps p.tables e below (T12.setTop (mkF m 72 #[.val (.long qa), .second, .val (.long qp), .second, .val (.long (qa &&& (9223372036854775807 : Int64))), .second, .val (.long (qp &&& (9223372036854775807 : Int64))), .second, .val (.int (((qp.toUInt64 >>> ((62 : Int32) &&& 0x3f).toInt64.toUInt64).toInt64).toInt32))] [(.long (own_min (qa &&& (9223372036854775807 : Int64)) (qp &&& (9223372036854775807 : Int64)))), (.int (1 : Int32)), (.ref b9), (.ref b9)])) _
        refine st13 _ ?_
        show Steps p.tables e below (T13.setTop (mkF m 73 #[.val (.long qa), .second, .val (.long qp), .second, .val (.long (qa &&& (9223372036854775807 : Int64))), .second, .val (.long (qp &&& (9223372036854775807 : Int64))), .second, .val (.int (((qp.toUInt64 >>> ((62 : Int32) &&& 0x3f).toInt64.toUInt64).toInt64).toInt32))] [(.ref b9)])) _
        refine XS.dup X13.here hx rfl (hb hby d1_73) rfl rfl ?_
        show Steps p.tables e below (T13.setTop (mkF m 74 #[.val (.long qa), .second, .val (.long qp), .second, .val (.long (qa &&& (9223372036854775807 : Int64))), .second, .val (.long (qp &&& (9223372036854775807 : Int64))), .second, .val (.int (((qp.toUInt64 >>> ((62 : Int32) &&& 0x3f).toInt64.toUInt64).toInt64).toInt32))] [(.ref b9), (.ref b9)])) _
        refine XS.iconst X13.here hx rfl (hb hby d1_74) ?_
        show Steps p.tables e below (T13.setTop (mkF m 75 #[.val (.long qa), .second, .val (.long qp), .second, .val (.long (qa &&& (9223372036854775807 : Int64))), .second, .val (.long (qp &&& (9223372036854775807 : Int64))), .second, .val (.int (((qp.toUInt64 >>> ((62 : Int32) &&& 0x3f).toInt64.toUInt64).toInt64).toInt32))] [(.int (2 : Int32)), (.ref b9), (.ref b9)])) _
        refine XS.lconst X13.here hx rfl (hb hby d1_75) ?_
        show Steps p.tables e below (T13.setTop (mkF m 76 #[.val (.long qa), .second, .val (.long qp), .second, .val (.long (qa &&& (9223372036854775807 : Int64))), .second, .val (.long (qp &&& (9223372036854775807 : Int64))), .second, .val (.int (((qp.toUInt64 >>> ((62 : Int32) &&& 0x3f).toInt64.toUInt64).toInt64).toInt32))] [(.long (1 : Int64)), (.int (2 : Int32)), (.ref b9), (.ref b9)])) _
        refine st14 _ ?_
        show Steps p.tables e below (T14.setTop (mkF m 77 #[.val (.long qa), .second, .val (.long qp), .second, .val (.long (qa &&& (9223372036854775807 : Int64))), .second, .val (.long (qp &&& (9223372036854775807 : Int64))), .second, .val (.int (((qp.toUInt64 >>> ((62 : Int32) &&& 0x3f).toInt64.toUInt64).toInt64).toInt32))] [(.ref b9)])) _
        jvm_step X14.here [X14.here.top, hx, (hb hby d1_77), X14.method', Bd.returns, Value.isRef, FieldType.isReference]
        first | (intro acts; rw [hr _ acts rfl rfl rfl]) | rw [hr _ _ rfl rfl rfl]
        exact Steps.refl _
      · show Q1 Z qa qp h0 n0 _ T14.heap _
        rw [e14]
        exact ⟨b9, (own_upd (own_upd (own_upd (fun _ => 0) 0 (own_max (qa &&& (9223372036854775807 : Int64)) (qp &&& (9223372036854775807 : Int64)))) 1 (own_min (qa &&& (9223372036854775807 : Int64)) (qp &&& (9223372036854775807 : Int64)))) 2 (1 : Int64)), rfl, N14, K14, sz_b9, ge_b9, V14, (own_good_of rfl rfl rfl (own_Hx (own_u _) (own_u _)))⟩
    · by_cases hc15 : (((qp.toUInt64 >>> ((62 : Int32) &&& 0x3f).toInt64.toUInt64).toInt64).toInt32) = (2 : Int32)
      · obtain ⟨T16, h16, X16, e16, E16, A16, st16⟩ := JA.make X0 hx hZ (hw _ (List.mem_of_getElem? (i := 5) rfl)) e0 (g := (mkF m 85 #[.val (.long qa), .second, .val (.long qp), .second, .val (.long (qa &&& (9223372036854775807 : Int64))), .second, .val (.long (qp &&& (9223372036854775807 : Int64))), .second, .val (.int (((qp.toUInt64 >>> ((62 : Int32) &&& 0x3f).toInt64.toUInt64).toInt64).toInt32))] [(.int (3 : Int32))])) rfl (hb hby d1_85) rfl 3 (by decide) (by decide) (by decide) (by decide) (by decide)
        obtain ⟨b16, g16⟩ : ∃ z, z = h0.size := ⟨_, rfl⟩
        rw [← g16] at A16 st16
        have ge_b16 : n0 ≤ b16 := Nat.le_trans Z0 (Nat.le_of_eq g16.symm)
        have sz_b16 : h0.size ≤ b16 := Nat.le_trans (Keep.refl h0 []).1 (Nat.le_of_eq g16.symm)
        have Z16 : n0 ≤ h16.size := Nat.le_trans Z0 E16.1
        have K16 : Keep h0 h16 [] := (Keep.refl h0 []).ext E16
        obtain ⟨_, _, ⟨T17, L17, k17, n17⟩, -, X17, ⟨Lc17, hQ17, l17, y17, z17⟩, st17⟩ := Jvm.LawKit.callS X16 hx (y := (⟨"java/lang/Math", "min", "(JJ)J"⟩ : MethodName)) hown (mvT hZ (hw _ (List.mem_of_getElem? (i := 10) rfl))) (mvT hZ (hw _ (List.mem_of_getElem? (i := 11) rfl))) (mvT hZ (hw _ (List.mem_of_getElem? (i := 8) rfl))) (mvT hZ (hw _ (List.mem_of_getElem? (i := 12) rfl))) (by decide) (backOf (W := 3) (rm3 l Z a0 hw [] (qa &&& (9223372036854775807 : Int64)) (qp &&& (9223372036854775807 : Int64)) h16 n0 Z16 ) hZ (hw _ (List.mem_of_getElem? (i := 12) rfl)) (hw _ (List.mem_of_getElem? (i := 8) rfl)) (by decide) (by decide)) (g := (mkF m 93 #[.val (.long qa), .second, .val (.long qp), .second, .val (.long (qa &&& (9223372036854775807 : Int64))), .second, .val (.long (qp &&& (9223372036854775807 : Int64))), .second, .val (.int (((qp.toUInt64 >>> ((62 : Int32) &&& 0x3f).toInt64.toUInt64).toInt64).toInt32))] [(.long (qp &&& (9223372036854775807 : Int64))), (.long (qa &&& (9223372036854775807 : Int64))), (.int (0 : Int32)), (.ref b16), (.ref b16)])) rfl (by rw [hml]; rfl) (argsL := [(.long (qa &&& (9223372036854775807 : Int64))), (.long (qp &&& (9223372036854775807 : Int64)))]) (rest := [(.int (0 : Int32)), (.ref b16), (.ref b16)]) (lenOf pd_635226 rfl) rfl (by show 2 * 0 + _ ≤ _; exact Nat.le_of_eq rfl) (hb hby d1_93) (fun _ _ => ⟨rfl, e16, (by decide : 1 + 0 ≤ _), (by decide : 3 + 0 ≤ _)⟩)
        dsimp only [Pt.U, Pt.locs, Pt.cells, Pt.slots] at X17 l17 y17 z17 st17 hQ17
        subst l17 y17 z17
        obtain ⟨rfl, N17q, K17c⟩ := hQ17
        have N17 := Fr.app N0 N17q
        obtain ⟨T18, h18, X18, e18, W18, V18, st18⟩ := JA.store X17 hx hZ K17c A16 0 (by decide) (by decide) (by decide) (x := (own_min (qa &&& (9223372036854775807 : Int64)) (qp &&& (9223372036854775807 : Int64)))) (g := (mkF m 96 #[.val (.long qa), .second, .val (.long qp), .second, .val (.long (qa &&& (9223372036854775807 : Int64))), .second, .val (.long (qp &&& (9223372036854775807 : Int64))), .second, .val (.int (((qp.toUInt64 >>> ((62 : Int32) &&& 0x3f).toInt64.toUInt64).toInt64).toInt32))] [(.long (own_min (qa &&& (9223372036854775807 : Int64)) (qp &&& (9223372036854775807 : Int64)))), (.int (0 : Int32)), (.ref b16), (.ref b16)])) rfl rfl (hb hby d1_96)
        have N18 := Fr.snoc X18 N17 ge_b16
        have Z18 : n0 ≤ h18.size := Nat.le_trans Z16 (Keep.of_wr W18).1
        have K18 : Keep h0 h18 [] := K16.wr W18 (Or.inr sz_b16)
        obtain ⟨_, _, ⟨T19, L19, k19, n19⟩, -, X19, ⟨Lc19, hQ19, l19, y19, z19⟩, st19⟩ := Jvm.LawKit.callS X18 hx (y := (⟨"java/lang/Math", "max", "(JJ)J"⟩ : MethodName)) hown (mvT hZ (hw _ (List.mem_of_getElem? (i := 6) rfl))) (mvT hZ (hw _ (List.mem_of_getElem? (i := 7) rfl))) (mvT hZ (hw _ (List.mem_of_getElem? (i := 8) rfl))) (mvT hZ (hw _ (List.mem_of_getElem? (i := 9) rfl))) (by decide) (backOf (W := 3) (rm2 l Z a0 hw [] (qa &&& (9223372036854775807 : Int64)) (qp &&& (9223372036854775807 : Int64)) h18 n0 Z18 ) hZ (hw _ (List.mem_of_getElem? (i := 9) rfl)) (hw _ (List.mem_of_getElem? (i := 8) rfl)) (by decide) (by decide)) (g := (mkF m 103 #[.val (.long qa), .second, .val (.long qp), .second, .val (.long (qa &&& (9223372036854775807 : Int64))), .second, .val (.long (qp &&& (9223372036854775807 : Int64))), .second, .val (.int (((qp.toUInt64 >>> ((62 : Int32) &&& 0x3f).toInt64.toUInt64).toInt64).toInt32))] [(.long (qp &&& (9223372036854775807 : Int64))), (.long (qa &&& (9223372036854775807 : Int64))), (.int (1 : Int32)), (.ref b16), (.ref b16)])) rfl (by rw [hml]; rfl) (argsL := [(.long (qa &&& (9223372036854775807 : Int64))), (.long (qp &&& (9223372036854775807 : Int64)))]) (rest := [(.int (1 : Int32)), (.ref b16), (.ref b16)]) (lenOf pd_635226 rfl) rfl (by show 2 * 0 + _ ≤ _; exact Nat.le_of_eq rfl) (hb hby d1_103) (fun _ _ => ⟨rfl, e18, (by decide : 1 + 0 ≤ _), (by decide : 3 + 0 ≤ _)⟩)
        dsimp only [Pt.U, Pt.locs, Pt.cells, Pt.slots] at X19 l19 y19 z19 st19 hQ19
        subst l19 y19 z19
        obtain ⟨rfl, N19q, K19c⟩ := hQ19
        have N19 := Fr.app N18 N19q
        obtain ⟨T20, h20, X20, e20, W20, V20, st20⟩ := JA.store X19 hx hZ K19c V18 1 (by decide) (by decide) (by decide) (x := (own_max (qa &&& (9223372036854775807 : Int64)) (qp &&& (9223372036854775807 : Int64)))) (g := (mkF m 106 #[.val (.long qa), .second, .val (.long qp), .second, .val (.long (qa &&& (9223372036854775807 : Int64))), .second, .val (.long (qp &&& (9223372036854775807 : Int64))), .second, .val (.int (((qp.toUInt64 >>> ((62 : Int32) &&& 0x3f).toInt64.toUInt64).toInt64).toInt32))] [(.long (own_max (qa &&& (9223372036854775807 : Int64)) (qp &&& (9223372036854775807 : Int64)))), (.int (1 : Int32)), (.ref b16), (.ref b16)])) rfl rfl (hb hby d1_106)
        have N20 := Fr.snoc X20 N19 ge_b16
        have Z20 : n0 ≤ h20.size := Nat.le_trans Z18 (Keep.of_wr W20).1
        have K20 : Keep h0 h20 [] := K18.wr W20 (Or.inr sz_b16)
        have jn22 : ∀ t, Steps p.tables e below (T20.setTop (mkF m 122 #[.val (.long qa), .second, .val (.long qp), .second, .val (.long (qa &&& (9223372036854775807 : Int64))), .second, .val (.long (qp &&& (9223372036854775807 : Int64))), .second, .val (.int (((qp.toUInt64 >>> ((62 : Int32) &&& 0x3f).toInt64.toUInt64).toInt64).toInt32))] [(.long (if (lcmpW (qa &&& (9223372036854775807 : Int64)) (qp &&& (9223372036854775807 : Int64))) = (0 : Int32) then (1 : Int64) else (0 : Int64))), (.int (2 : Int32)), (.ref b16), (.ref b16)])) t → Steps p.tables e below (T20.setTop (mkF m 114 #[.val (.long qa), .second, .val (.long qp), .second, .val (.long (qa &&& (9223372036854775807 : Int64))), .second, .val (.long (qp &&& (9223372036854775807 : Int64))), .second, .val (.int (((qp.toUInt64 >>> ((62 : Int32) &&& 0x3f).toInt64.toUInt64).toInt64).toInt32))] [(.int (lcmpW (qa &&& (9223372036854775807 : Int64)) (qp &&& (9223372036854775807 : Int64)))), (.int (2 : Int32)), (.ref b16), (.ref b16)])) t := by
          intro t kt
          by_cases hc21 : (lcmpW (qa &&& (9223372036854775807 : Int64)) (qp &&& (9223372036854775807 : Int64))) = (0 : Int32)
          · simp only [if_pos hc21] at kt
            show Steps p.tables e below (T20.setTop (mkF m 114 #[.val (.long qa), .second, .val (.long qp), .second, .val (.long (qa &&& (9223372036854775807 : Int64))), .second, .val (.long (qp &&& (9223372036854775807 : Int64))), .second, .val (.int (((qp.toUInt64 >>> ((62 : Int32) &&& 0x3f).toInt64.toUInt64).toInt64).toInt32))] [(.int (lcmpW (qa &&& (9223372036854775807 : Int64)) (qp &&& (9223372036854775807 : Int64)))), (.int (2 : Int32)), (.ref b16), (.ref b16)])) _
            refine XS.ifNo X20.here hx rfl (hb hby d1_114) rfl ((if0 _ _).trans (teq hc21).2) ?_
            show Steps p.tables e below (T20.setTop (mkF m 117 #[.val (.long qa), .second, .val (.long qp), .second, .val (.long (qa &&& (9223372036854775807 : Int64))), .second, .val (.long (qp &&& (9223372036854775807 : Int64))), .second, .val (.int (((qp.toUInt64 >>> ((62 : Int32) &&& 0x3f).toInt64.toUInt64).toInt64).toInt32))] [(.int (2 : Int32)), (.ref b16), (.ref b16)])) _
            refine XS.lconst X20.here hx rfl (hb hby d1_117) ?_
            show Steps p.tables e below (T20.setTop (mkF m 118 #[.val (.long qa), .second, .val (.long qp), .second, .val (.long (qa &&& (9223372036854775807 : Int64))), .second, .val (.long (qp &&& (9223372036854775807 : Int64))), .second, .val (.int (((qp.toUInt64 >>> ((62 : Int32) &&& 0x3f).toInt64.toUInt64).toInt64).toInt32))] [(.long (1 : Int64)), (.int (2 : Int32)), (.ref b16), (.ref b16)])) _
            refine XS.goto X20.here hx rfl (pc0 := 118) (pc' := 122) rfl (hb hby d1_118) (by decide) (by decide) ?_
            exact kt
          · simp only [if_neg hc21] at kt
            show Steps p.tables e below (T20.setTop (mkF m 114 #[.val (.long qa), .second, .val (.long qp), .second, .val (.long (qa &&& (9223372036854775807 : Int64))), .second, .val (.long (qp &&& (9223372036854775807 : Int64))), .second, .val (.int (((qp.toUInt64 >>> ((62 : Int32) &&& 0x3f).toInt64.toUInt64).toInt64).toInt32))] [(.int (lcmpW (qa &&& (9223372036854775807 : Int64)) (qp &&& (9223372036854775807 : Int64)))), (.int (2 : Int32)), (.ref b16), (.ref b16)])) _
            refine XS.ifYes X20.here hx rfl (pc0 := 114) (pc' := 121) rfl (hb hby d1_114) rfl ((if0 _ _).trans (feq hc21).2) (by decide) (by decide) ?_
            show Steps p.tables e below (T20.setTop (mkF m 121 #[.val (.long qa), .second, .val (.long qp), .second, .val (.long (qa &&& (9223372036854775807 : Int64))), .second, .val (.long (qp &&& (9223372036854775807 : Int64))), .second, .val (.int (((qp.toUInt64 >>> ((62 : Int32) &&& 0x3f).toInt64.toUInt64).toInt64).toInt32))] [(.int (2 : Int32)), (.ref b16), (.ref b16)])) _
            refine XS.lconst X20.here hx rfl (hb hby d1_121) ?_
            exact kt
        obtain ⟨T23, h23, X23, e23, W23, V23, st23⟩ := JA.store X20 hx hZ e20 V20 2 (by decide) (by decide) (by decide) (x := (if (lcmpW (qa &&& (9223372036854775807 : Int64)) (qp &&& (9223372036854775807 : Int64))) = (0 : Int32) then (1 : Int64) else (0 : Int64))) (g := (mkF m 122 #[.val (.long qa), .second, .val (.long qp), .second, .val (.long (qa &&& (9223372036854775807 : Int64))), .second, .val (.long (qp &&& (9223372036854775807 : Int64))), .second, .val (.int (((qp.toUInt64 >>> ((62 : Int32) &&& 0x3f).toInt64.toUInt64).toInt64).toInt32))] [(.long (if (lcmpW (qa &&& (9223372036854775807 : Int64)) (qp &&& (9223372036854775807 : Int64))) = (0 : Int32) then (1 : Int64) else (0 : Int64))), (.int (2 : Int32)), (.ref b16), (.ref b16)])) rfl rfl (hb hby d1_122)
        have N23 := Fr.snoc X23 N20 ge_b16
        have Z23 : n0 ≤ h23.size := Nat.le_trans Z20 (Keep.of_wr W23).1
        have K23 : Keep h0 h23 [] := K20.wr W23 (Or.inr sz_b16)
        obtain ⟨fs, hr, hrun, hended, hW, hsame⟩ := X23.leave (v := some (.ref b16)) (fun h => by rw [Bd.returns] at h; cases h)
        refine ⟨_, _, pre0 _ ?_, hrun, hended, _, _, rfl, ?_, ⟨_, rfl⟩, hW, hsame.mono (by decide) (by decide)⟩
        · show Steps p.tables e below (s₁.setTop (mkF m 0 #[.val (.long qa), .second, .val (.long qp), .second, .unset, .unset, .unset, .unset, .unset] [])) _
          refine XS.lloadN X0.here hx rfl (hb hby d1_0) rfl ?_
          show Steps p.tables e below (s₁.setTop (mkF m 1 #[.val (.long qa), .second, .val (.long qp), .second, .unset, .unset, .unset, .unset, .unset] [(.long qa)])) _
          refine Jvm.Stand.ldc2J X0 hx hown (mvT hZ (hw _ (List.mem_of_getElem? (i := 4) rfl))) rfl (hb hby d1_1) ?_
          show Steps p.tables e below (s₁.setTop (mkF m 4 #[.val (.long qa), .second, .val (.long qp), .second, .unset, .unset, .unset, .unset, .unset] [(.long (9223372036854775807 : Int64)), (.long qa)])) _
          refine XS.land X0.here hx rfl (hb hby d1_4) rfl ?_
          show Steps p.tables e below (s₁.setTop (mkF m 5 #[.val (.long qa), .second, .val (.long qp), .second, .unset, .unset, .unset, .unset, .unset] [(.long (qa &&& (9223372036854775807 : Int64)))])) _
          refine XS.lstore X0.here hx rfl (hb hby d1_5) rfl (l' := #[.val (.long qa), .second, .val (.long qp), .second, .val (.long (qa &&& (9223372036854775807 : Int64))), .second, .unset, .unset, .unset]) rfl ?_
          show Steps p.tables e below (s₁.setTop (mkF m 7 #[.val (.long qa), .second, .val (.long qp), .second, .val (.long (qa &&& (9223372036854775807 : Int64))), .second, .unset, .unset, .unset] [])) _
          refine XS.lloadN X0.here hx rfl (hb hby d1_7) rfl ?_
          show Steps p.tables e below (s₁.setTop (mkF m 8 #[.val (.long qa), .second, .val (.long qp), .second, .val (.long (qa &&& (9223372036854775807 : Int64))), .second, .unset, .unset, .unset] [(.long qp)])) _
          refine Jvm.Stand.ldc2J X0 hx hown (mvT hZ (hw _ (List.mem_of_getElem? (i := 4) rfl))) rfl (hb hby d1_8) ?_
          show Steps p.tables e below (s₁.setTop (mkF m 11 #[.val (.long qa), .second, .val (.long qp), .second, .val (.long (qa &&& (9223372036854775807 : Int64))), .second, .unset, .unset, .unset] [(.long (9223372036854775807 : Int64)), (.long qp)])) _
          refine XS.land X0.here hx rfl (hb hby d1_11) rfl ?_
          show Steps p.tables e below (s₁.setTop (mkF m 12 #[.val (.long qa), .second, .val (.long qp), .second, .val (.long (qa &&& (9223372036854775807 : Int64))), .second, .unset, .unset, .unset] [(.long (qp &&& (9223372036854775807 : Int64)))])) _
          refine XS.lstore X0.here hx rfl (hb hby d1_12) rfl (l' := #[.val (.long qa), .second, .val (.long qp), .second, .val (.long (qa &&& (9223372036854775807 : Int64))), .second, .val (.long (qp &&& (9223372036854775807 : Int64))), .second, .unset]) rfl ?_
          show Steps p.tables e below (s₁.setTop (mkF m 14 #[.val (.long qa), .second, .val (.long qp), .second, .val (.long (qa &&& (9223372036854775807 : Int64))), .second, .val (.long (qp &&& (9223372036854775807 : Int64))), .second, .unset] [])) _
          refine XS.lloadN X0.here hx rfl (hb hby d1_14) rfl ?_
          show Steps p.tables e below (s₁.setTop (mkF m 15 #[.val (.long qa), .second, .val (.long qp), .second, .val (.long (qa &&& (9223372036854775807 : Int64))), .second, .val (.long (qp &&& (9223372036854775807 : Int64))), .second, .unset] [(.long qp)])) _
          refine XS.bipush X0.here hx rfl (hb hby d1_15) ?_
          show Steps p.tables e below (s₁.setTop (mkF m 17 #[.val (.long qa), .second, .val (.long qp), .second, .val (.long (qa &&& (9223372036854775807 : Int64))), .second, .val (.long (qp &&& (9223372036854775807 : Int64))), .second, .unset] [(.int (62 : Int32)), (.long qp)])) _
          refine XS.lushr X0.here hx rfl (hb hby d1_17) rfl ?_
          show Steps p.tables e below (s₁.setTop (mkF m 18 #[.val (.long qa), .second, .val (.long qp), .second, .val (.long (qa &&& (9223372036854775807 : Int64))), .second, .val (.long (qp &&& (9223372036854775807 : Int64))), .second, .unset] [(.long ((qp.toUInt64 >>> ((62 : Int32) &&& 0x3f).toInt64.toUInt64).toInt64))])) _
          refine XS.l2i X0.here hx rfl (hb hby d1_18) rfl ?_
          show Steps p.tables e below (s₁.setTop (mkF m 19 #[.val (.long qa), .second, .val (.long qp), .second, .val (.long (qa &&& (9223372036854775807 : Int64))), .second, .val (.long (qp &&& (9223372036854775807 : Int64))), .second, .unset] [(.int (((qp.toUInt64 >>> ((62 : Int32) &&& 0x3f).toInt64.toUInt64).toInt64).toInt32))])) _
          refine XS.istore X0.here hx rfl (hb hby d1_19) rfl (l' := #[.val (.long qa), .second, .val (.long qp), .second, .val (.long (qa &&& (9223372036854775807 : Int64))), .second, .val (.long (qp &&& (9223372036854775807 : Int64))), .second, .val (.int (((qp.toUInt64 >>> ((62 : Int32) &&& 0x3f).toInt64.toUInt64).toInt64).toInt32))]) rfl ?_
          show Steps p.tables e below (s₁.setTop (mkF m 21 #[.val (.long qa), .second, .val (.long qp), .second, .val (.long (qa &&& (9223372036854775807 : Int64))), .second, .val (.long (qp &&& (9223372036854775807 : Int64))), .second, .val (.int (((qp.toUInt64 >>> ((62 : Int32) &&& 0x3f).toInt64.toUInt64).toInt64).toInt32))] [])) _
          refine XS.iload X0.here hx rfl (hb hby d1_21) rfl ?_
          show Steps p.tables e below (s₁.setTop (mkF m 23 #[.val (.long qa), .second, .val (.long qp), .second, .val (.long (qa &&& (9223372036854775807 : Int64))), .second, .val (.long (qp &&& (9223372036854775807 : Int64))), .second, .val (.int (((qp.toUInt64 >>> ((62 : Int32) &&& 0x3f).toInt64.toUInt64).toInt64).toInt32))] [(.int (((qp.toUInt64 >>> ((62 : Int32) &&& 0x3f).toInt64.toUInt64).toInt64).toInt32))])) _
          refine XS.ifYes X0.here hx rfl (pc0 := 23) (pc' := 44) rfl (hb hby d1_23) rfl ((if0 _ _).trans (feq hc3).2) (by decide) (by decide) ?_
          show Steps p.tables e below (s₁.setTop (mkF m 44 #[.val (.long qa), .second, .val (.long qp), .second, .val (.long (qa &&& (9223372036854775807 : Int64))), .second, .val (.long (qp &&& (9223372036854775807 : Int64))), .second, .val (.int (((qp.toUInt64 >>> ((62 : Int32) &&& 0x3f).toInt64.toUInt64).toInt64).toInt32))] [])) _
          refine XS.iload X0.here hx rfl (hb hby d1_44) rfl ?_
          show Steps p.tables e below (s₁.setTop (mkF m 46 #[.val (.long qa), .second, .val (.long qp), .second, .val (.long (qa &&& (9223372036854775807 : Int64))), .second, .val (.long (qp &&& (9223372036854775807 : Int64))), .second, .val (.int (((qp.toUInt64 >>> ((62 : Int32) &&& 0x3f).toInt64.toUInt64).toInt64).toInt32))] [(.int (((qp.toUInt64 >>> ((62 : Int32) &&& 0x3f).toInt64.toUInt64).toInt64).toInt32))])) _
          refine XS.iconst X0.here hx rfl (hb hby d1_46) ?_
          show Steps p.tables e below (s₁.setTop (mkF m 47 #[.val (.long qa), .second, .val (.long qp), .second, .val (.long (qa &&& (9223372036854775807 : Int64))), .second, .val (.long (qp &&& (9223372036854775807 : Int64))), .second, .val (.int (((qp.toUInt64 >>> ((62 : Int32) &&& 0x3f).toInt64.toUInt64).toInt64).toInt32))] [(.int (1 : Int32)), (.int (((qp.toUInt64 >>> ((62 : Int32) &&& 0x3f).toInt64.toUInt64).toInt64).toInt32))])) _
          refine XS.icmpYes X0.here hx rfl (pc0 := 47) (pc' := 78) rfl (hb hby d1_47) rfl (feq hc8).2 (by decide) (by decide) ?_
          show Steps p.tables e below (s₁.setTop (mkF m 78 #[.val (.long qa), .second, .val (.long qp), .second, .val (.long (qa &&& (9223372036854775807 : Int64))), .second, .val (.long (qp &&& (9223372036854775807 : Int64))), .second, .val (.int (((qp.toUInt64 >>> ((62 : Int32) &&& 0x3f).toInt64.toUInt64).toInt64).toInt32))] [])) _
          refine XS.iload X0.here hx rfl (hb hby d1_78) rfl ?_
          show Steps p.tables e below (s₁.setTop (mkF m 80 #[.val (.long qa), .second, .val (.long qp), .second, .val (.long (qa &&& (9223372036854775807 : Int64))), .second, .val (.long (qp &&& (9223372036854775807 : Int64))), .second, .val (.int (((qp.toUInt64 >>> ((62 : Int32) &&& 0x3f).toInt64.toUInt64).toInt64).toInt32))] [(.int (((qp.toUInt64 >>> ((62 : Int32) &&& 0x3f).toInt64.toUInt64).toInt64).toInt32))])) _
          refine XS.iconst X0.here hx rfl (hb hby d1_80) ?_
          show Steps p.tables e below (s₁.setTop (mkF m 81 #[.val (.long qa), .second, .val (.long qp), .second, .val (.long (qa &&& (9223372036854775807 : Int64))), .second, .val (.long (qp &&& (9223372036854775807 : Int64))), .second, .val (.int (((qp.toUInt64 >>> ((62 : Int32) &&& 0x3f).toInt64.toUInt64).toInt64).toInt32))] [(.int (2 : Int32)), (.int (((qp.toUInt64 >>> ((62 : Int32) &&& 0x3f).toInt64.toUInt64).toInt64).toInt32))])) _
          refine XS.icmpNo X0.here hx rfl (hb hby d1_81) rfl (teq hc15).2 ?_
          show Steps p.tables e below (s₁.setTop (mkF m 84 #[.val (.long qa), .second, .val (.long qp), .second, .val (.long (qa &&& (9223372036854775807 : Int64))), .second, .val (.long (qp &&& (9223372036854775807 : Int64))), .second, .val (.int (((qp.toUInt64 >>> ((62 : Int32) &&& 0x3f).toInt64.toUInt64).toInt64).toInt32))] [])) _
          refine XS.iconst X0.here hx rfl (hb hby d1_84) ?_
          show Steps p.tables e below (s₁.setTop (mkF m 85 #[.val (.long qa), .second, .val (.long qp), .second, .val (.long (qa &&& (9223372036854775807 : Int64))), .second, .val (.long (qp &&& (9223372036854775807 : Int64))), .second, .val (.int (((qp.toUInt64 >>> ((62 : Int32) &&& 0x3f).toInt64.toUInt64).toInt64).toInt32))] [(.int (3 : Int32))])) _
          refine st16 _ ?_
          show Steps p.tables e below (T16.setTop (mkF m 87 #[.val (.long qa), .second, .val (.long qp), .second, .val (.long (qa &&& (9223372036854775807 : Int64))), .second, .val (.long (qp &&& (9223372036854775807 : Int64))), .second, .val (.int (((qp.toUInt64 >>> ((62 : Int32) &&& 0x3f).toInt64.toUInt64).toInt64).toInt32))] [(.ref b16)])) _
          refine XS.dup X16.here hx rfl (hb hby d1_87) rfl rfl ?_
          show Steps p.tables e below (T16.setTop (mkF m 88 #[.val (.long qa), .second, .val (.long qp), .second, .val (.long (qa &&& (9223372036854775807 : Int64))), .second, .val (.long (qp &&& (9223372036854775807 : Int64))), .second, .val (.int (((qp.toUInt64 >>> ((62 : Int32) &&& 0x3f).toInt64.toUInt64).toInt64).toInt32))] [(.ref b16), (.ref b16)])) _
          refine XS.iconst X16.here hx rfl (hb hby d1_88) ?_
          show Steps p.tables e below (T16.setTop (mkF m 89 #[.val (.long qa), .second, .val (.long qp), .second, .val (.long (qa &&& (9223372036854775807 : Int64))), .second, .val (.long (qp &&& (9223372036854775807 : Int64))), .second, .val (.int (((qp.toUInt64 >>> ((62 : Int32) &&& 0x3f).toInt64.toUInt64).toInt64).toInt32))] [(.int (0 : Int32)), (.ref b16), (.ref b16)])) _
          refine XS.lload X16.here hx rfl (hb hby d1_89) rfl ?_
          show Steps p.tables e below (T16.setTop (mkF m 91 #[.val (.long qa), .second, .val (.long qp), .second, .val (.long (qa &&& (9223372036854775807 : Int64))), .second, .val (.long (qp &&& (9223372036854775807 : Int64))), .second, .val (.int (((qp.toUInt64 >>> ((62 : Int32) &&& 0x3f).toInt64.toUInt64).toInt64).toInt32))] [(.long (qa &&& (9223372036854775807 : Int64))), (.int (0 : Int32)), (.ref b16), (.ref b16)])) _
          refine XS.lload X16.here hx rfl (hb hby d1_91) rfl ?_
          show Steps p.tables e below (T16.setTop (mkF m 93 #[.val (.long qa), .second, .val (.long qp), .second, .val (.long (qa &&& (9223372036854775807 : Int64))), .second, .val (.long (qp &&& (9223372036854775807 : Int64))), .second, .val (.int (((qp.toUInt64 >>> ((62 : Int32) &&& 0x3f).toInt64.toUInt64).toInt64).toInt32))] [(.long (qp &&& (9223372036854775807 : Int64))), (.long (qa &&& (9223372036854775807 : Int64))), (.int (0 : Int32)), (.ref b16), (.ref b16)])) _
          refine st17 _ ?_
          show Steps p.tables e below (T17.setTop (mkF m 96 #[.val (.long qa), .second, .val (.long qp), .second, .val (.long (qa &&& (9223372036854775807 : Int64))), .second, .val (.long (qp &&& (9223372036854775807 : Int64))), .second, .val (.int (((qp.toUInt64 >>> ((62 : Int32) &&& 0x3f).toInt64.toUInt64).toInt64).toInt32))] [(.long (own_min (qa &&& (9223372036854775807 : Int64)) (qp &&& (9223372036854775807 : Int64)))), (.int (0 : Int32)), (.ref b16), (.ref b16)])) _
          refine st18 _ ?_
          show Steps p.tables e below (T18.setTop (mkF m 97 #[.val (.long qa), .second, .val (.long qp), .second, .val (.long (qa &&& (9223372036854775807 : Int64))), .second, .val (.long (qp &&& (9223372036854775807 : Int64))), .second, .val (.int (((qp.toUInt64 >>> ((62 : Int32) &&& 0x3f).toInt64.toUInt64).toInt64).toInt32))] [(.ref b16)])) _
          refine XS.dup X18.here hx rfl (hb hby d1_97) rfl rfl ?_
          show Steps p.tables e below (T18.setTop (mkF m 98 #[.val (.long qa), .second, .val (.long qp), .second, .val (.long (qa &&& (9223372036854775807 : Int64))), .second, .val (.long (qp &&& (9223372036854775807 : Int64))), .second, .val (.int (((qp.toUInt64 >>> ((62 : Int32) &&& 0x3f).toInt64.toUInt64).toInt64).toInt32))] [(.ref b16), (.ref b16)])) _
          refine XS.iconst X18.here hx rfl (hb hby d1_98) ?_
          show Steps p.tables e below (T18.setTop (mkF m 99 #[.val (.long qa), .second, .val (.long qp), .second, .val (.long (qa &&& (9223372036854775807 : Int64))), .second, .val (.long (qp &&& (9223372036854775807 : Int64))), .second, .val (.int (((qp.toUInt64 >>> ((62 : Int32) &&& 0x3f).toInt64.toUInt64).toInt64).toInt32))] [(.int (1 : Int32)), (.ref b16), (.ref b16)])) _
          refine XS.lload X18.here hx rfl (hb hby d1_99) rfl ?_
          show Steps p.tables e below (T18.setTop (mkF m 101 #[.val (.long qa), .second, .val (.long qp), .second, .val (.long (qa &&& (9223372036854775807 : Int64))), .second, .val (.long (qp &&& (9223372036854775807 : Int64))), .second, .val (.int (((qp.toUInt64 >>> ((62 : Int32) &&& 0x3f).toInt64.toUInt64).toInt64).toInt32))] [(.long (qa &&& (9223372036854775807 : Int64))), (.int (1 : Int32)), (.ref b16), (.ref b16)])) _
          refine XS.lload X18.here hx rfl (hb hby d1_101) rfl ?_
          show Steps p.tables e below (T18.setTop (mkF m 103 #[.val (.long qa), .second, .val (.long qp), .second, .val (.long (qa &&& (9223372036854775807 : Int64))), .second, .val (.long (qp &&& (9223372036854775807 : Int64))), .second, .val (.int (((qp.toUInt64 >>> ((62 : Int32) &&& 0x3f).toInt64.toUInt64).toInt64).toInt32))] [(.long (qp &&& (9223372036854775807 : Int64))), (.long (qa &&& (9223372036854775807 : Int64))), (.int (1 : Int32)), (.ref b16), (.ref b16)])) _
          refine st19 _ ?_
          show Steps p.tables e below (T19.setTop (mkF m 106 #[.val (.long qa), .second, .val (.long qp), .second, .val (.long (qa &&& (9223372036854775807 : Int64))), .second, .val (.long (qp &&& (9223372036854775807 : Int64))), .second, .val (.int (((qp.toUInt64 >>> ((62 : Int32) &&& 0x3f).toInt64.toUInt64).toInt64).toInt32))] [(.long (own_max (qa &&& (9223372036854775807 : Int64)) (qp &&& (9223372036854775807 : Int64)))), (.int (1 : Int32)), (.ref b16), (.ref b16)])) _
          refine st20 _ ?_
          show Steps p.tables e below (T20.setTop (mkF m 107 #[.val (.long qa), .second, .val (.long qp), .second, .val (.long (qa &&& (9223372036854775807 : Int64))), .second, .val (.long (qp &&& (9223372036854775807 : Int64))), .second, .val (.int (((qp.toUInt64 >>> ((62 : Int32) &&& 0x3f).toInt64.toUInt64).toInt64).toInt32))] [(.ref b16)])) _
          refine XS.dup X20.here hx rfl (hb hby d1_107) rfl rfl ?_
          show Steps p.tables e below (T20.setTop (mkF m 108 #[.val (.long qa), .second, .val (.long qp), .second, .val (.long (qa &&& (9223372036854775807 : Int64))), .second, .val (.long (qp &&& (9223372036854775807 : Int64))), .second, .val (.int (((qp.toUInt64 >>> ((62 : Int32) &&& 0x3f).toInt64.toUInt64).toInt64).toInt32))] [(.ref b16), (.ref b16)])) _
          refine XS.iconst X20.here hx rfl (hb hby d1_108) ?_
          show Steps p.tables e below (T20.setTop (mkF m 109 #[.val (.long qa), .second, .val (.long qp), .second, .val (.long (qa &&& (9223372036854775807 : Int64))), .second, .val (.long (qp &&& (9223372036854775807 : Int64))), .second, .val (.int (((qp.toUInt64 >>> ((62 : Int32) &&& 0x3f).toInt64.toUInt64).toInt64).toInt32))] [(.int (2 : Int32)), (.ref b16), (.ref b16)])) _
          refine XS.lload X20.here hx rfl (hb hby d1_109) rfl ?_
          show Steps p.tables e below (T20.setTop (mkF m 111 #[.val (.long qa), .second, .val (.long qp), .second, .val (.long (qa &&& (9223372036854775807 : Int64))), .second, .val (.long (qp &&& (9223372036854775807 : Int64))), .second, .val (.int (((qp.toUInt64 >>> ((62 : Int32) &&& 0x3f).toInt64.toUInt64).toInt64).toInt32))] [(.long (qa &&& (9223372036854775807 : Int64))), (.int (2 : Int32)), (.ref b16), (.ref b16)])) _
          refine XS.lload X20.here hx rfl (hb hby d1_111) rfl ?_
          show Steps p.tables e below (T20.setTop (mkF m 113 #[.val (.long qa), .second, .val (.long qp), .second, .val (.long (qa &&& (9223372036854775807 : Int64))), .second, .val (.long (qp &&& (9223372036854775807 : Int64))), .second, .val (.int (((qp.toUInt64 >>> ((62 : Int32) &&& 0x3f).toInt64.toUInt64).toInt64).toInt32))] [(.long (qp &&& (9223372036854775807 : Int64))), (.long (qa &&& (9223372036854775807 : Int64))), (.int (2 : Int32)), (.ref b16), (.ref b16)])) _
          refine XS.lcmp X20.here hx rfl (hb hby d1_113) rfl ?_
          show Steps p.tables e below (T20.setTop (mkF m 114 #[.val (.long qa), .second, .val (.long qp), .second, .val (.long (qa &&& (9223372036854775807 : Int64))), .second, .val (.long (qp &&& (9223372036854775807 : Int64))), .second, .val (.int (((qp.toUInt64 >>> ((62 : Int32) &&& 0x3f).toInt64.toUInt64).toInt64).toInt32))] [(.int (lcmpW (qa &&& (9223372036854775807 : Int64)) (qp &&& (9223372036854775807 : Int64)))), (.int (2 : Int32)), (.ref b16), (.ref b16)])) _
          refine jn22 _ ?_
          show Steps p.tables e below (T20.setTop (mkF m 122 #[.val (.long qa), .second, .val (.long qp), .second, .val (.long (qa &&& (9223372036854775807 : Int64))), .second, .val (.long (qp &&& (9223372036854775807 : Int64))), .second, .val (.int (((qp.toUInt64 >>> ((62 : Int32) &&& 0x3f).toInt64.toUInt64).toInt64).toInt32))] [(.long (if (lcmpW (qa &&& (9223372036854775807 : Int64)) (qp &&& (9223372036854775807 : Int64))) = (0 : Int32) then (1 : Int64) else (0 : Int64))), (.int (2 : Int32)), (.ref b16), (.ref b16)])) _
          refine st23 _ ?_
          show Steps p.tables e below (T23.setTop (mkF m 123 #[.val (.long qa), .second, .val (.long qp), .second, .val (.long (qa &&& (9223372036854775807 : Int64))), .second, .val (.long (qp &&& (9223372036854775807 : Int64))), .second, .val (.int (((qp.toUInt64 >>> ((62 : Int32) &&& 0x3f).toInt64.toUInt64).toInt64).toInt32))] [(.ref b16)])) _
          jvm_step X23.here [X23.here.top, hx, (hb hby d1_123), X23.method', Bd.returns, Value.isRef, FieldType.isReference]
          first | (intro acts; rw [hr _ acts rfl rfl rfl]) | rw [hr _ _ rfl rfl rfl]
          exact Steps.refl _
        · show Q1 Z qa qp h0 n0 _ T23.heap _
          rw [e23]
          exact ⟨b16, (own_upd (own_upd (own_upd (fun _ => 0) 0 (own_min (qa &&& (9223372036854775807 : Int64)) (qp &&& (9223372036854775807 : Int64)))) 1 (own_max (qa &&& (9223372036854775807 : Int64)) (qp &&& (9223372036854775807 : Int64)))) 2 (if (lcmpW (qa &&& (9223372036854775807 : Int64)) (qp &&& (9223372036854775807 : Int64))) = (0 : Int32) then (1 : Int64) else (0 : Int64))), rfl, N23, K23, sz_b16, ge_b16, V23, (own_good_of rfl rfl rfl (own_Hm (own_u _) (own_u _)))⟩
      · by_cases hc24 : (lcmpW (qa &&& (9223372036854775807 : Int64)) (9223372036854775807 : Int64)) = (0 : Int32)
        · obtain ⟨T25, h25, X25, e25, E25, A25, st25⟩ := JA.make X0 hx hZ (hw _ (List.mem_of_getElem? (i := 5) rfl)) e0 (g := (mkF m 134 #[.val (.long qa), .second, .val (.long qp), .second, .val (.long (qa &&& (9223372036854775807 : Int64))), .second, .val (.long (qp &&& (9223372036854775807 : Int64))), .second, .val (.int (((qp.toUInt64 >>> ((62 : Int32) &&& 0x3f).toInt64.toUInt64).toInt64).toInt32))] [(.int (3 : Int32))])) rfl (hb hby d1_134) rfl 3 (by decide) (by decide) (by decide) (by decide) (by decide)
          obtain ⟨b25, g25⟩ : ∃ z, z = h0.size := ⟨_, rfl⟩
          rw [← g25] at A25 st25
          have ge_b25 : n0 ≤ b25 := Nat.le_trans Z0 (Nat.le_of_eq g25.symm)
          have sz_b25 : h0.size ≤ b25 := Nat.le_trans (Keep.refl h0 []).1 (Nat.le_of_eq g25.symm)
          have Z25 : n0 ≤ h25.size := Nat.le_trans Z0 E25.1
          have K25 : Keep h0 h25 [] := (Keep.refl h0 []).ext E25
          obtain ⟨T26, h26, X26, e26, W26, V26, st26⟩ := JA.store X25 hx hZ e25 A25 0 (by decide) (by decide) (by decide) (x := (qa &&& (9223372036854775807 : Int64))) (g := (mkF m 140 #[.val (.long qa), .second, .val (.long qp), .second, .val (.long (qa &&& (9223372036854775807 : Int64))), .second, .val (.long (qp &&& (9223372036854775807 : Int64))), .second, .val (.int (((qp.toUInt64 >>> ((62 : Int32) &&& 0x3f).toInt64.toUInt64).toInt64).toInt32))] [(.long (qa &&& (9223372036854775807 : Int64))), (.int (0 : Int32)), (.ref b25), (.ref b25)])) rfl rfl (hb hby d1_140)
          have N26 := Fr.snoc X26 N0 ge_b25
          have Z26 : n0 ≤ h26.size := Nat.le_trans Z25 (Keep.of_wr W26).1
          have K26 : Keep h0 h26 [] := K25.wr W26 (Or.inr sz_b25)
          obtain ⟨T27, h27, X27, e27, W27, V27, st27⟩ := JA.store X26 hx hZ e26 V26 1 (by decide) (by decide) (by decide) (x := (qa &&& (9223372036854775807 : Int64))) (g := (mkF m 145 #[.val (.long qa), .second, .val (.long qp), .second, .val (.long (qa &&& (9223372036854775807 : Int64))), .second, .val (.long (qp &&& (9223372036854775807 : Int64))), .second, .val (.int (((qp.toUInt64 >>> ((62 : Int32) &&& 0x3f).toInt64.toUInt64).toInt64).toInt32))] [(.long (qa &&& (9223372036854775807 : Int64))), (.int (1 : Int32)), (.ref b25), (.ref b25)])) rfl rfl (hb hby d1_145)
          have N27 := Fr.snoc X27 N26 ge_b25
          have Z27 : n0 ≤ h27.size := Nat.le_trans Z26 (Keep.of_wr W27).1
          have K27 : Keep h0 h27 [] := K26.wr W27 (Or.inr sz_b25)
          obtain ⟨T28, h28, X28, e28, W28, V28, st28⟩ := JA.store X27 hx hZ e27 V27 2 (by decide) (by decide) (by decide) (x := (1 : Int64)) (g := (mkF m 149 #[.val (.long qa), .second, .val (.long qp), .second, .val (.long (qa &&& (9223372036854775807 : Int64))), .second, .val (.long (qp &&& (9223372036854775807 : Int64))), .second, .val (.int (((qp.toUInt64 >>> ((62 : Int32) &&& 0x3f).toInt64.toUInt64).toInt64).toInt32))] [(.long (1 : Int64)), (.int (2 : Int32)), (.ref b25), (.ref b25)])) rfl rfl (hb hby d1_149)
          have N28 := Fr.snoc X28 N27 ge_b25
          have Z28 : n0 ≤ h28.size := Nat.le_trans Z27 (Keep.of_wr W28).1
          have K28 : Keep h0 h28 [] := K27.wr W28 (Or.inr sz_b25)
          obtain ⟨fs, hr, hrun, hended, hW, hsame⟩ := X28.leave (v := some (.ref b25)) (fun h => by rw [Bd.returns] at h; cases h)
          refine ⟨_, _, pre0 _ ?_, hrun, hended, _, _, rfl, ?_, ⟨_, rfl⟩, hW, hsame.mono (by decide) (by decide)⟩
          · show Steps p.tables e below (s₁.setTop (mkF m 0 #[.val (.long qa), .second, .val (.long qp), .second, .unset, .unset, .unset, .unset, .unset] [])) _
            refine XS.lloadN X0.here hx rfl (hb hby d1_0) rfl ?_
            show Steps p.tables e below (s₁.setTop (mkF m 1 #[.val (.long qa), .second, .val (.long qp), .second, .unset, .unset, .unset, .unset, .unset] [(.long qa)])) _
            refine Jvm.Stand.ldc2J X0 hx hown (mvT hZ (hw _ (List.mem_of_getElem? (i := 4) rfl))) rfl (hb hby d1_1) ?_
            show Steps p.tables e below (s₁.setTop (mkF m 4 #[.val (.long qa), .second, .val (.long qp), .second, .unset, .unset, .unset, .unset, .unset] [(.long (9223372036854775807 : Int64)), (.long qa)])) _
            refine XS.land X0.here hx rfl (hb hby d1_4) rfl ?_
            show Steps p.tables e below (s₁.setTop (mkF m 5 #[.val (.long qa), .second, .val (.long qp), .second, .unset, .unset, .unset, .unset, .unset] [(.long (qa &&& (9223372036854775807 : Int64)))])) _
            refine XS.lstore X0.here hx rfl (hb hby d1_5) rfl (l' := #[.val (.long qa), .second, .val (.long qp), .second, .val (.long (qa &&& (9223372036854775807 : Int64))), .second, .unset, .unset, .unset]) rfl ?_
            show Steps p.tables e below (s₁.setTop (mkF m 7 #[.val (.long qa), .second, .val (.long qp), .second, .val (.long (qa &&& (9223372036854775807 : Int64))), .second, .unset, .unset, .unset] [])) _
            refine XS.lloadN X0.here hx rfl (hb hby d1_7) rfl ?_
            show Steps p.tables e below (s₁.setTop (mkF m 8 #[.val (.long qa), .second, .val (.long qp), .second, .val (.long (qa &&& (9223372036854775807 : Int64))), .second, .unset, .unset, .unset] [(.long qp)])) _
            refine Jvm.Stand.ldc2J X0 hx hown (mvT hZ (hw _ (List.mem_of_getElem? (i := 4) rfl))) rfl (hb hby d1_8) ?_
            show Steps p.tables e below (s₁.setTop (mkF m 11 #[.val (.long qa), .second, .val (.long qp), .second, .val (.long (qa &&& (9223372036854775807 : Int64))), .second, .unset, .unset, .unset] [(.long (9223372036854775807 : Int64)), (.long qp)])) _
            refine XS.land X0.here hx rfl (hb hby d1_11) rfl ?_
            show Steps p.tables e below (s₁.setTop (mkF m 12 #[.val (.long qa), .second, .val (.long qp), .second, .val (.long (qa &&& (9223372036854775807 : Int64))), .second, .unset, .unset, .unset] [(.long (qp &&& (9223372036854775807 : Int64)))])) _
            refine XS.lstore X0.here hx rfl (hb hby d1_12) rfl (l' := #[.val (.long qa), .second, .val (.long qp), .second, .val (.long (qa &&& (9223372036854775807 : Int64))), .second, .val (.long (qp &&& (9223372036854775807 : Int64))), .second, .unset]) rfl ?_
            show Steps p.tables e below (s₁.setTop (mkF m 14 #[.val (.long qa), .second, .val (.long qp), .second, .val (.long (qa &&& (9223372036854775807 : Int64))), .second, .val (.long (qp &&& (9223372036854775807 : Int64))), .second, .unset] [])) _
            refine XS.lloadN X0.here hx rfl (hb hby d1_14) rfl ?_
            show Steps p.tables e below (s₁.setTop (mkF m 15 #[.val (.long qa), .second, .val (.long qp), .second, .val (.long (qa &&& (9223372036854775807 : Int64))), .second, .val (.long (qp &&& (9223372036854775807 : Int64))), .second, .unset] [(.long qp)])) _
            refine XS.bipush X0.here hx rfl (hb hby d1_15) ?_
            show Steps p.tables e below (s₁.setTop (mkF m 17 #[.val (.long qa), .second, .val (.long qp), .second, .val (.long (qa &&& (9223372036854775807 : Int64))), .second, .val (.long (qp &&& (9223372036854775807 : Int64))), .second, .unset] [(.int (62 : Int32)), (.long qp)])) _
            refine XS.lushr X0.here hx rfl (hb hby d1_17) rfl ?_
            show Steps p.tables e below (s₁.setTop (mkF m 18 #[.val (.long qa), .second, .val (.long qp), .second, .val (.long (qa &&& (9223372036854775807 : Int64))), .second, .val (.long (qp &&& (9223372036854775807 : Int64))), .second, .unset] [(.long ((qp.toUInt64 >>> ((62 : Int32) &&& 0x3f).toInt64.toUInt64).toInt64))])) _
            refine XS.l2i X0.here hx rfl (hb hby d1_18) rfl ?_
            show Steps p.tables e below (s₁.setTop (mkF m 19 #[.val (.long qa), .second, .val (.long qp), .second, .val (.long (qa &&& (9223372036854775807 : Int64))), .second, .val (.long (qp &&& (9223372036854775807 : Int64))), .second, .unset] [(.int (((qp.toUInt64 >>> ((62 : Int32) &&& 0x3f).toInt64.toUInt64).toInt64).toInt32))])) _
            refine XS.istore X0.here hx rfl (hb hby d1_19) rfl (l' := #[.val (.long qa), .second, .val (.long qp), .second, .val (.long (qa &&& (9223372036854775807 : Int64))), .second, .val (.long (qp &&& (9223372036854775807 : Int64))), .second, .val (.int (((qp.toUInt64 >>> ((62 : Int32) &&& 0x3f).toInt64.toUInt64).toInt64).toInt32))]) rfl ?_
            show Steps p.tables e below (s₁.setTop (mkF m 21 #[.val (.long qa), .second, .val (.long qp), .second, .val (.long (qa &&& (9223372036854775807 : Int64))), .second, .val (.long (qp &&& (9223372036854775807 : Int64))), .second, .val (.int (((qp.toUInt64 >>> ((62 : Int32) &&& 0x3f).toInt64.toUInt64).toInt64).toInt32))] [])) _
            refine XS.iload X0.here hx rfl (hb hby d1_21) rfl ?_
            show Steps p.tables e below (s₁.setTop (mkF m 23 #[.val (.long qa), .second, .val (.long qp), .second, .val (.long (qa &&& (9223372036854775807 : Int64))), .second, .val (.long (qp &&& (9223372036854775807 : Int64))), .second, .val (.int (((qp.toUInt64 >>> ((62 : Int32) &&& 0x3f).toInt64.toUInt64).toInt64).toInt32))] [(.int (((qp.toUInt64 >>> ((62 : Int32) &&& 0x3f).toInt64.toUInt64).toInt64).toInt32))])) _
            refine XS.ifYes X0.here hx rfl (pc0 := 23) (pc' := 44) rfl (hb hby d1_23) rfl ((if0 _ _).trans (feq hc3).2) (by decide) (by decide) ?_
            show Steps p.tables e below (s₁.setTop (mkF m 44 #[.val (.long qa), .second, .val (.long qp), .second, .val (.long (qa &&& (9223372036854775807 : Int64))), .second, .val (.long (qp &&& (9223372036854775807 : Int64))), .second, .val (.int (((qp.toUInt64 >>> ((62 : Int32) &&& 0x3f).toInt64.toUInt64).toInt64).toInt32))] [])) _
            refine XS.iload X0.here hx rfl (hb hby d1_44) rfl ?_
            show Steps p.tables e below (s₁.setTop (mkF m 46 #[.val (.long qa), .second, .val (.long qp), .second, .val (.long (qa &&& (9223372036854775807 : Int64))), .second, .val (.long (qp &&& (9223372036854775807 : Int64))), .second, .val (.int (((qp.toUInt64 >>> ((62 : Int32) &&& 0x3f).toInt64.toUInt64).toInt64).toInt32))] [(.int (((qp.toUInt64 >>> ((62 : Int32) &&& 0x3f).toInt64.toUInt64).toInt64).toInt32))])) _
            refine XS.iconst X0.here hx rfl (hb hby d1_46) ?_
            show Steps p.tables e below (s₁.setTop (mkF m 47 #[.val (.long qa), .second, .val (.long qp), .second, .val (.long (qa &&& (9223372036854775807 : Int64))), .second, .val (.long (qp &&& (9223372036854775807 : Int64))), .second, .val (.int (((qp.toUInt64 >>> ((62 : Int32) &&& 0x3f).toInt64.toUInt64).toInt64).toInt32))] [(.int (1 : Int32)), (.int (((qp.toUInt64 >>> ((62 : Int32) &&& 0x3f).toInt64.toUInt64).toInt64).toInt32))])) _
            refine XS.icmpYes X0.here hx rfl (pc0 := 47) (pc' := 78) rfl (hb hby d1_47) rfl (feq hc8).2 (by decide) (by decide) ?_
            show Steps p.tables e below (s₁.setTop (mkF m 78 #[.val (.long qa), .second, .val (.long qp), .second, .val (.long (qa &&& (9223372036854775807 : Int64))), .second, .val (.long (qp &&& (9223372036854775807 : Int64))), .second, .val (.int (((qp.toUInt64 >>> ((62 : Int32) &&& 0x3f).toInt64.toUInt64).toInt64).toInt32))] [])) _
            refine XS.iload X0.here hx rfl (hb hby d1_78) rfl ?_
            show Steps p.tables e below (s₁.setTop (mkF m 80 #[.val (.long qa), .second, .val (.long qp), .second, .val (.long (qa &&& (9223372036854775807 : Int64))), .second, .val (.long (qp &&& (9223372036854775807 : Int64))), .second, .val (.int (((qp.toUInt64 >>> ((62 : Int32) &&& 0x3f).toInt64.toUInt64).toInt64).toInt32))] [(.int (((qp.toUInt64 >>> ((62 : Int32) &&& 0x3f).toInt64.toUInt64).toInt64).toInt32))])) _
            refine XS.iconst X0.here hx rfl (hb hby d1_80) ?_
            show Steps p.tables e below (s₁.setTop (mkF m 81 #[.val (.long qa), .second, .val (.long qp), .second, .val (.long (qa &&& (9223372036854775807 : Int64))), .second, .val (.long (qp &&& (9223372036854775807 : Int64))), .second, .val (.int (((qp.toUInt64 >>> ((62 : Int32) &&& 0x3f).toInt64.toUInt64).toInt64).toInt32))] [(.int (2 : Int32)), (.int (((qp.toUInt64 >>> ((62 : Int32) &&& 0x3f).toInt64.toUInt64).toInt64).toInt32))])) _
            refine XS.icmpYes X0.here hx rfl (pc0 := 81) (pc' := 124) rfl (hb hby d1_81) rfl (feq hc15).2 (by decide) (by decide) ?_
            show Steps p.tables e below (s₁.setTop (mkF m 124 #[.val (.long qa), .second, .val (.long qp), .second, .val (.long (qa &&& (9223372036854775807 : Int64))), .second, .val (.long (qp &&& (9223372036854775807 : Int64))), .second, .val (.int (((qp.toUInt64 >>> ((62 : Int32) &&& 0x3f).toInt64.toUInt64).toInt64).toInt32))] [])) _
            refine XS.lload X0.here hx rfl (hb hby d1_124) rfl ?_
            show Steps p.tables e below (s₁.setTop (mkF m 126 #[.val (.long qa), .second, .val (.long qp), .second, .val (.long (qa &&& (9223372036854775807 : Int64))), .second, .val (.long (qp &&& (9223372036854775807 : Int64))), .second, .val (.int (((qp.toUInt64 >>> ((62 : Int32) &&& 0x3f).toInt64.toUInt64).toInt64).toInt32))] [(.long (qa &&& (9223372036854775807 : Int64)))])) _
            refine Jvm.Stand.ldc2J X0 hx hown (mvT hZ (hw _ (List.mem_of_getElem? (i := 4) rfl))) rfl (hb hby d1_126) ?_
            show Steps p.tables e below (s₁.setTop (mkF m 129 #[.val (.long qa), .second, .val (.long qp), .second, .val (.long (qa &&& (9223372036854775807 : Int64))), .second, .val (.long (qp &&& (9223372036854775807 : Int64))), .second, .val (.int (((qp.toUInt64 >>> ((62 : Int32) &&& 0x3f).toInt64.toUInt64).toInt64).toInt32))] [(.long (9223372036854775807 : Int64)), (.long (qa &&& (9223372036854775807 : Int64)))])) _
            refine XS.lcmp X0.here hx rfl (hb hby d1_129) rfl ?_
            show Steps p.tables e below (s₁.setTop (mkF m 130 #[.val (.long qa), .second, .val (.long qp), .second, .val (.long (qa &&& (9223372036854775807 : Int64))), .second, .val (.long (qp &&& (9223372036854775807 : Int64))), .second, .val (.int (((qp.toUInt64 >>> ((62 : Int32) &&& 0x3f).toInt64.toUInt64).toInt64).toInt32))] [(.int (lcmpW (qa &&& (9223372036854775807 : Int64)) (9223372036854775807 : Int64)))])) _
            refine XS.ifNo X0.here hx rfl (hb hby d1_130) rfl ((if0 _ _).trans (teq hc24).2) ?_
            show Steps p.tables e below (s₁.setTop (mkF m 133 #[.val (.long qa), .second, .val (.long qp), .second, .val (.long (qa &&& (9223372036854775807 : Int64))), .second, .val (.long (qp &&& (9223372036854775807 : Int64))), .second, .val (.int (((qp.toUInt64 >>> ((62 : Int32) &&& 0x3f).toInt64.toUInt64).toInt64).toInt32))] [])) _
            refine XS.iconst X0.here hx rfl (hb hby d1_133) ?_
            show Steps p.tables e below (s₁.setTop (mkF m 134 #[.val (.long qa), .second, .val (.long qp), .second, .val (.long (qa &&& (9223372036854775807 : Int64))), .second, .val (.long (qp &&& (9223372036854775807 : Int64))), .second, .val (.int (((qp.toUInt64 >>> ((62 : Int32) &&& 0x3f).toInt64.toUInt64).toInt64).toInt32))] [(.int (3 : Int32))])) _
            refine st25 _ ?_
            show Steps p.tables e below (T25.setTop (mkF m 136 #[.val (.long qa), .second, .val (.long qp), .second, .val (.long (qa &&& (9223372036854775807 : Int64))), .second, .val (.long (qp &&& (9223372036854775807 : Int64))), .second, .val (.int (((qp.toUInt64 >>> ((62 : Int32) &&& 0x3f).toInt64.toUInt64).toInt64).toInt32))] [(.ref b25)])) _
            refine XS.dup X25.here hx rfl (hb hby d1_136) rfl rfl ?_
            show Steps p.tables e below (T25.setTop (mkF m 137 #[.val (.long qa), .second, .val (.long qp), .second, .val (.long (qa &&& (9223372036854775807 : Int64))), .second, .val (.long (qp &&& (9223372036854775807 : Int64))), .second, .val (.int (((qp.toUInt64 >>> ((62 : Int32) &&& 0x3f).toInt64.toUInt64).toInt64).toInt32))] [(.ref b25), (.ref b25)])) _
            refine XS.iconst X25.here hx rfl (hb hby d1_137) ?_
            show Steps p.tables e below (T25.setTop (mkF m 138 #[.val (.long qa), .second, .val (.long qp), .second, .val (.long (qa &&& (9223372036854775807 : Int64))), .second, .val (.long (qp &&& (9223372036854775807 : Int64))), .second, .val (.int (((qp.toUInt64 >>> ((62 : Int32) &&& 0x3f).toInt64.toUInt64).toInt64).toInt32))] [(.int (0 : Int32)), (.ref b25), (.ref b25)])) _
            refine XS.lload X25.here hx rfl (hb hby d1_138) rfl ?_
            show Steps p.tables e below (T25.setTop (mkF m 140 #[.val (.long qa), .second, .val (.long qp), .second, .val (.long (qa &&& (9223372036854775807 : Int64))), .second, .val (.long (qp &&& (9223372036854775807 : Int64))), .second, .val (.int (((qp.toUInt64 >>> ((62 : Int32) &&& 0x3f).toInt64.toUInt64).toInt64).toInt32))] [(.long (qa &&& (9223372036854775807 : Int64))), (.int (0 : Int32)), (.ref b25), (.ref b25)])) _
            refine st26 _ ?_
            show Steps p.tables e below (T26.setTop (mkF m 141 #[.val (.long qa), .second, .val (.long qp), .second, .val (.long (qa &&& (9223372036854775807 : Int64))), .second, .val (.long (qp &&& (9223372036854775807 : Int64))), .second, .val (.int (((qp.toUInt64 >>> ((62 : Int32) &&& 0x3f).toInt64.toUInt64).toInt64).toInt32))] [(.ref b25)])) _
            refine XS.dup X26.here hx rfl (hb hby d1_141) rfl rfl ?_
            show Steps p.tables e below (T26.setTop (mkF m 142 #[.val (.long qa), .second, .val (.long qp), .second, .val (.long (qa &&& (9223372036854775807 : Int64))), .second, .val (.long (qp &&& (9223372036854775807 : Int64))), .second, .val (.int (((qp.toUInt64 >>> ((62 : Int32) &&& 0x3f).toInt64.toUInt64).toInt64).toInt32))] [(.ref b25), (.ref b25)])) _
            refine XS.iconst X26.here hx rfl (hb hby d1_142) ?_
            show Steps p.tables e below (T26.setTop (mkF m 143 #[.val (.long qa), .second, .val (.long qp), .second, .val (.long (qa &&& (9223372036854775807 : Int64))), .second, .val (.long (qp &&& (9223372036854775807 : Int64))), .second, .val (.int (((qp.toUInt64 >>> ((62 : Int32) &&& 0x3f).toInt64.toUInt64).toInt64).toInt32))] [(.int (1 : Int32)), (.ref b25), (.ref b25)])) _
            refine XS.lload X26.here hx rfl (hb hby d1_143) rfl ?_
            show Steps p.tables e below (T26.setTop (mkF m 145 #[.val (.long qa), .second, .val (.long qp), .second, .val (.long (qa &&& (9223372036854775807 : Int64))), .second, .val (.long (qp &&& (9223372036854775807 : Int64))), .second, .val (.int (((qp.toUInt64 >>> ((62 : Int32) &&& 0x3f).toInt64.toUInt64).toInt64).toInt32))] [(.long (qa &&& (9223372036854775807 : Int64))), (.int (1 : Int32)), (.ref b25), (.ref b25)])) _
            refine st27 _ ?_
            show Steps p.tables e below (T27.setTop (mkF m 146 #[.val (.long qa), .second, .val (.long qp), .second, .val (.long (qa &&& (9223372036854775807 : Int64))), .second, .val (.long (qp &&& (9223372036854775807 : Int64))), .second, .val (.int (((qp.toUInt64 >>> ((62 : Int32) &&& 0x3f).toInt64.toUInt64).toInt64).toInt32))] [(.ref b25)])) _
            refine XS.dup X27.here hx rfl (hb hby d1_146) rfl rfl ?_
            show Steps p.tables e below (T27.setTop (mkF m 147 #[.val (.long qa), .second, .val (.long qp), .second, .val (.long (qa &&& (9223372036854775807 : Int64))), .second, .val (.long (qp &&& (9223372036854775807 : Int64))), .second, .val (.int (((qp.toUInt64 >>> ((62 : Int32) &&& 0x3f).toInt64.toUInt64).toInt64).toInt32))] [(.ref b25), (.ref b25)])) _
            refine XS.iconst X27.here hx rfl (hb hby d1_147) ?_
            show Steps p.tables e below (T27.setTop (mkF m 148 #[.val (.long qa), .second, .val (.long qp), .second, .val (.long (qa &&& (9223372036854775807 : Int64))), .second, .val (.long (qp &&& (9223372036854775807 : Int64))), .second, .val (.int (((qp.toUInt64 >>> ((62 : Int32) &&& 0x3f).toInt64.toUInt64).toInt64).toInt32))] [(.int (2 : Int32)), (.ref b25), (.ref b25)])) _
            refine XS.lconst X27.here hx rfl (hb hby d1_148) ?_
            show Steps p.tables e below (T27.setTop (mkF m 149 #[.val (.long qa), .second, .val (.long qp), .second, .val (.long (qa &&& (9223372036854775807 : Int64))), .second, .val (.long (qp &&& (9223372036854775807 : Int64))), .second, .val (.int (((qp.toUInt64 >>> ((62 : Int32) &&& 0x3f).toInt64.toUInt64).toInt64).toInt32))] [(.long (1 : Int64)), (.int (2 : Int32)), (.ref b25), (.ref b25)])) _
            refine st28 _ ?_
            show Steps p.tables e below (T28.setTop (mkF m 150 #[.val (.long qa), .second, .val (.long qp), .second, .val (.long (qa &&& (9223372036854775807 : Int64))), .second, .val (.long (qp &&& (9223372036854775807 : Int64))), .second, .val (.int (((qp.toUInt64 >>> ((62 : Int32) &&& 0x3f).toInt64.toUInt64).toInt64).toInt32))] [(.ref b25)])) _
            jvm_step X28.here [X28.here.top, hx, (hb hby d1_150), X28.method', Bd.returns, Value.isRef, FieldType.isReference]
            first | (intro acts; rw [hr _ acts rfl rfl rfl]) | rw [hr _ _ rfl rfl rfl]
            exact Steps.refl _
          · show Q1 Z qa qp h0 n0 _ T28.heap _
            rw [e28]
            exact ⟨b25, (own_upd (own_upd (own_upd (fun _ => 0) 0 (qa &&& (9223372036854775807 : Int64))) 1 (qa &&& (9223372036854775807 : Int64))) 2 (1 : Int64)), rfl, N28, K28, sz_b25, ge_b25, V28, (own_good_of rfl rfl rfl (own_Hs (own_u _)))⟩
        · obtain ⟨T29, h29, X29, e29, E29, A29, st29⟩ := JA.make X0 hx hZ (hw _ (List.mem_of_getElem? (i := 5) rfl)) e0 (g := (mkF m 152 #[.val (.long qa), .second, .val (.long qp), .second, .val (.long (qa &&& (9223372036854775807 : Int64))), .second, .val (.long (qp &&& (9223372036854775807 : Int64))), .second, .val (.int (((qp.toUInt64 >>> ((62 : Int32) &&& 0x3f).toInt64.toUInt64).toInt64).toInt32))] [(.int (3 : Int32))])) rfl (hb hby d1_152) rfl 3 (by decide) (by decide) (by decide) (by decide) (by decide)
          obtain ⟨b29, g29⟩ : ∃ z, z = h0.size := ⟨_, rfl⟩
          rw [← g29] at A29 st29
          have ge_b29 : n0 ≤ b29 := Nat.le_trans Z0 (Nat.le_of_eq g29.symm)
          have sz_b29 : h0.size ≤ b29 := Nat.le_trans (Keep.refl h0 []).1 (Nat.le_of_eq g29.symm)
          have Z29 : n0 ≤ h29.size := Nat.le_trans Z0 E29.1
          have K29 : Keep h0 h29 [] := (Keep.refl h0 []).ext E29
          obtain ⟨T30, h30, X30, e30, W30, V30, st30⟩ := JA.store X29 hx hZ e29 A29 0 (by decide) (by decide) (by decide) (x := (qa &&& (9223372036854775807 : Int64))) (g := (mkF m 158 #[.val (.long qa), .second, .val (.long qp), .second, .val (.long (qa &&& (9223372036854775807 : Int64))), .second, .val (.long (qp &&& (9223372036854775807 : Int64))), .second, .val (.int (((qp.toUInt64 >>> ((62 : Int32) &&& 0x3f).toInt64.toUInt64).toInt64).toInt32))] [(.long (qa &&& (9223372036854775807 : Int64))), (.int (0 : Int32)), (.ref b29), (.ref b29)])) rfl rfl (hb hby d1_158)
          have N30 := Fr.snoc X30 N0 ge_b29
          have Z30 : n0 ≤ h30.size := Nat.le_trans Z29 (Keep.of_wr W30).1
          have K30 : Keep h0 h30 [] := K29.wr W30 (Or.inr sz_b29)
          obtain ⟨T31, h31, X31, e31, W31, V31, st31⟩ := JA.store X30 hx hZ e30 V30 1 (by decide) (by decide) (by decide) (x := ((qa &&& (9223372036854775807 : Int64)) + (1 : Int64))) (g := (mkF m 165 #[.val (.long qa), .second, .val (.long qp), .second, .val (.long (qa &&& (9223372036854775807 : Int64))), .second, .val (.long (qp &&& (9223372036854775807 : Int64))), .second, .val (.int (((qp.toUInt64 >>> ((62 : Int32) &&& 0x3f).toInt64.toUInt64).toInt64).toInt32))] [(.long ((qa &&& (9223372036854775807 : Int64)) + (1 : Int64))), (.int (1 : Int32)), (.ref b29), (.ref b29)])) rfl rfl (hb hby d1_165)
          have N31 := Fr.snoc X31 N30 ge_b29
          have Z31 : n0 ≤ h31.size := Nat.le_trans Z30 (Keep.of_wr W31).1
          have K31 : Keep h0 h31 [] := K30.wr W31 (Or.inr sz_b29)
          obtain ⟨T32, h32, X32, e32, W32, V32, st32⟩ := JA.store X31 hx hZ e31 V31 2 (by decide) (by decide) (by decide) (x := (0 : Int64)) (g := (mkF m 169 #[.val (.long qa), .second, .val (.long qp), .second, .val (.long (qa &&& (9223372036854775807 : Int64))), .second, .val (.long (qp &&& (9223372036854775807 : Int64))), .second, .val (.int (((qp.toUInt64 >>> ((62 : Int32) &&& 0x3f).toInt64.toUInt64).toInt64).toInt32))] [(.long (0 : Int64)), (.int (2 : Int32)), (.ref b29), (.ref b29)])) rfl rfl (hb hby d1_169)
          have N32 := Fr.snoc X32 N31 ge_b29
          have Z32 : n0 ≤ h32.size := Nat.le_trans Z31 (Keep.of_wr W32).1
          have K32 : Keep h0 h32 [] := K31.wr W32 (Or.inr sz_b29)
          obtain ⟨fs, hr, hrun, hended, hW, hsame⟩ := X32.leave (v := some (.ref b29)) (fun h => by rw [Bd.returns] at h; cases h)
          refine ⟨_, _, pre0 _ ?_, hrun, hended, _, _, rfl, ?_, ⟨_, rfl⟩, hW, hsame.mono (by decide) (by decide)⟩
          · show Steps p.tables e below (s₁.setTop (mkF m 0 #[.val (.long qa), .second, .val (.long qp), .second, .unset, .unset, .unset, .unset, .unset] [])) _
            refine XS.lloadN X0.here hx rfl (hb hby d1_0) rfl ?_
            show Steps p.tables e below (s₁.setTop (mkF m 1 #[.val (.long qa), .second, .val (.long qp), .second, .unset, .unset, .unset, .unset, .unset] [(.long qa)])) _
            refine Jvm.Stand.ldc2J X0 hx hown (mvT hZ (hw _ (List.mem_of_getElem? (i := 4) rfl))) rfl (hb hby d1_1) ?_
            show Steps p.tables e below (s₁.setTop (mkF m 4 #[.val (.long qa), .second, .val (.long qp), .second, .unset, .unset, .unset, .unset, .unset] [(.long (9223372036854775807 : Int64)), (.long qa)])) _
            refine XS.land X0.here hx rfl (hb hby d1_4) rfl ?_
            show Steps p.tables e below (s₁.setTop (mkF m 5 #[.val (.long qa), .second, .val (.long qp), .second, .unset, .unset, .unset, .unset, .unset] [(.long (qa &&& (9223372036854775807 : Int64)))])) _
            refine XS.lstore X0.here hx rfl (hb hby d1_5) rfl (l' := #[.val (.long qa), .second, .val (.long qp), .second, .val (.long (qa &&& (9223372036854775807 : Int64))), .second, .unset, .unset, .unset]) rfl ?_
            show Steps p.tables e below (s₁.setTop (mkF m 7 #[.val (.long qa), .second, .val (.long qp), .second, .val (.long (qa &&& (9223372036854775807 : Int64))), .second, .unset, .unset, .unset] [])) _
            refine XS.lloadN X0.here hx rfl (hb hby d1_7) rfl ?_
            show Steps p.tables e below (s₁.setTop (mkF m 8 #[.val (.long qa), .second, .val (.long qp), .second, .val (.long (qa &&& (9223372036854775807 : Int64))), .second, .unset, .unset, .unset] [(.long qp)])) _
            refine Jvm.Stand.ldc2J X0 hx hown (mvT hZ (hw _ (List.mem_of_getElem? (i := 4) rfl))) rfl (hb hby d1_8) ?_
            show Steps p.tables e below (s₁.setTop (mkF m 11 #[.val (.long qa), .second, .val (.long qp), .second, .val (.long (qa &&& (9223372036854775807 : Int64))), .second, .unset, .unset, .unset] [(.long (9223372036854775807 : Int64)), (.long qp)])) _
            refine XS.land X0.here hx rfl (hb hby d1_11) rfl ?_
            show Steps p.tables e below (s₁.setTop (mkF m 12 #[.val (.long qa), .second, .val (.long qp), .second, .val (.long (qa &&& (9223372036854775807 : Int64))), .second, .unset, .unset, .unset] [(.long (qp &&& (9223372036854775807 : Int64)))])) _
            refine XS.lstore X0.here hx rfl (hb hby d1_12) rfl (l' := #[.val (.long qa), .second, .val (.long qp), .second, .val (.long (qa &&& (9223372036854775807 : Int64))), .second, .val (.long (qp &&& (9223372036854775807 : Int64))), .second, .unset]) rfl ?_
            show Steps p.tables e below (s₁.setTop (mkF m 14 #[.val (.long qa), .second, .val (.long qp), .second, .val (.long (qa &&& (9223372036854775807 : Int64))), .second, .val (.long (qp &&& (9223372036854775807 : Int64))), .second, .unset] [])) _
            refine XS.lloadN X0.here hx rfl (hb hby d1_14) rfl ?_
            show Steps p.tables e below (s₁.setTop (mkF m 15 #[.val (.long qa), .second, .val (.long qp), .second, .val (.long (qa &&& (9223372036854775807 : Int64))), .second, .val (.long (qp &&& (9223372036854775807 : Int64))), .second, .unset] [(.long qp)])) _
            refine XS.bipush X0.here hx rfl (hb hby d1_15) ?_
            show Steps p.tables e below (s₁.setTop (mkF m 17 #[.val (.long qa), .second, .val (.long qp), .second, .val (.long (qa &&& (9223372036854775807 : Int64))), .second, .val (.long (qp &&& (9223372036854775807 : Int64))), .second, .unset] [(.int (62 : Int32)), (.long qp)])) _
            refine XS.lushr X0.here hx rfl (hb hby d1_17) rfl ?_
            show Steps p.tables e below (s₁.setTop (mkF m 18 #[.val (.long qa), .second, .val (.long qp), .second, .val (.long (qa &&& (9223372036854775807 : Int64))), .second, .val (.long (qp &&& (9223372036854775807 : Int64))), .second, .unset] [(.long ((qp.toUInt64 >>> ((62 : Int32) &&& 0x3f).toInt64.toUInt64).toInt64))])) _
            refine XS.l2i X0.here hx rfl (hb hby d1_18) rfl ?_
            show Steps p.tables e below (s₁.setTop (mkF m 19 #[.val (.long qa), .second, .val (.long qp), .second, .val (.long (qa &&& (9223372036854775807 : Int64))), .second, .val (.long (qp &&& (9223372036854775807 : Int64))), .second, .unset] [(.int (((qp.toUInt64 >>> ((62 : Int32) &&& 0x3f).toInt64.toUInt64).toInt64).toInt32))])) _
            refine XS.istore X0.here hx rfl (hb hby d1_19) rfl (l' := #[.val (.long qa), .second, .val (.long qp), .second, .val (.long (qa &&& (9223372036854775807 : Int64))), .second, .val (.long (qp &&& (9223372036854775807 : Int64))), .second, .val (.int (((qp.toUInt64 >>> ((62 : Int32) &&& 0x3f).toInt64.toUInt64).toInt64).toInt32))]) rfl ?_
            show Steps p.tables e below (s₁.setTop (mkF m 21 #[.val (.long qa), .second, .val (.long qp), .second, .val (.long (qa &&& (9223372036854775807 : Int64))), .second, .val (.long (qp &&& (9223372036854775807 : Int64))), .second, .val (.int (((qp.toUInt64 >>> ((62 : Int32) &&& 0x3f).toInt64.toUInt64).toInt64).toInt32))] [])) _
            refine XS.iload X0.here hx rfl (hb hby d1_21) rfl ?_
            show Steps p.tables e below (s₁.setTop (mkF m 23 #[.val (.long qa), .second, .val (.long qp), .second, .val (.long (qa &&& (9223372036854775807 : Int64))), .second, .val (.long (qp &&& (9223372036854775807 : Int64))), .second, .val (.int (((qp.toUInt64 >>> ((62 : Int32) &&& 0x3f).toInt64.toUInt64).toInt64).toInt32))] [(.int (((qp.toUInt64 >>> ((62 : Int32) &&& 0x3f).toInt64.toUInt64).toInt64).toInt32))])) _
            refine XS.ifYes X0.here hx rfl (pc0 := 23) (pc' := 44) rfl (hb hby d1_23) rfl ((if0 _ _).trans (feq hc3).2) (by decide) (by decide) ?_
            show Steps p.tables e below (s₁.setTop (mkF m 44 #[.val (.long qa), .second, .val (.long qp), .second, .val (.long (qa &&& (9223372036854775807 : Int64))), .second, .val (.long (qp &&& (9223372036854775807 : Int64))), .second, .val (.int (((qp.toUInt64 >>> ((62 : Int32) &&& 0x3f).toInt64.toUInt64).toInt64).toInt32))] [])) _
            refine XS.iload X0.here hx rfl (hb hby d1_44) rfl ?_
            show Steps p.tables e below (s₁.setTop (mkF m 46 #[.val (.long qa), .second, .val (.long qp), .second, .val (.long (qa &&& (9223372036854775807 : Int64))), .second, .val (.long (qp &&& (9223372036854775807 : Int64))), .second, .val (.int (((qp.toUInt64 >>> ((62 : Int32) &&& 0x3f).toInt64.toUInt64).toInt64).toInt32))] [(.int (((qp.toUInt64 >>> ((62 : Int32) &&& 0x3f).toInt64.toUInt64).toInt64).toInt32))])) _
            refine XS.iconst X0.here hx rfl (hb hby d1_46) ?_
            show Steps p.tables e below (s₁.setTop (mkF m 47 #[.val (.long qa), .second, .val (.long qp), .second, .val (.long (qa &&& (9223372036854775807 : Int64))), .second, .val (.long (qp &&& (9223372036854775807 : Int64))), .second, .val (.int (((qp.toUInt64 >>> ((62 : Int32) &&& 0x3f).toInt64.toUInt64).toInt64).toInt32))] [(.int (1 : Int32)), (.int (((qp.toUInt64 >>> ((62 : Int32) &&& 0x3f).toInt64.toUInt64).toInt64).toInt32))])) _
            refine XS.icmpYes X0.here hx rfl (pc0 := 47) (pc' := 78) rfl (hb hby d1_47) rfl (feq hc8).2 (by decide) (by decide) ?_
            show Steps p.tables e below (s₁.setTop (mkF m 78 #[.val (.long qa), .second, .val (.long qp), .second, .val (.long (qa &&& (9223372036854775807 : Int64))), .second, .val (.long (qp &&& (9223372036854775807 : Int64))), .second, .val (.int (((qp.toUInt64 >>> ((62 : Int32) &&& 0x3f).toInt64.toUInt64).toInt64).toInt32))] [])) _
            refine XS.iload X0.here hx rfl (hb hby d1_78) rfl ?_
            show Steps p.tables e below (s₁.setTop (mkF m 80 #[.val (.long qa), .second, .val (.long qp), .second, .val (.long (qa &&& (9223372036854775807 : Int64))), .second, .val (.long (qp &&& (9223372036854775807 : Int64))), .second, .val (.int (((qp.toUInt64 >>> ((62 : Int32) &&& 0x3f).toInt64.toUInt64).toInt64).toInt32))] [(.int (((qp.toUInt64 >>> ((62 : Int32) &&& 0x3f).toInt64.toUInt64).toInt64).toInt32))])) _
            refine XS.iconst X0.here hx rfl (hb hby d1_80) ?_
            show Steps p.tables e below (s₁.setTop (mkF m 81 #[.val (.long qa), .second, .val (.long qp), .second, .val (.long (qa &&& (9223372036854775807 : Int64))), .second, .val (.long (qp &&& (9223372036854775807 : Int64))), .second, .val (.int (((qp.toUInt64 >>> ((62 : Int32) &&& 0x3f).toInt64.toUInt64).toInt64).toInt32))] [(.int (2 : Int32)), (.int (((qp.toUInt64 >>> ((62 : Int32) &&& 0x3f).toInt64.toUInt64).toInt64).toInt32))])) _
            refine XS.icmpYes X0.here hx rfl (pc0 := 81) (pc' := 124) rfl (hb hby d1_81) rfl (feq hc15).2 (by decide) (by decide) ?_
            show Steps p.tables e below (s₁.setTop (mkF m 124 #[.val (.long qa), .second, .val (.long qp), .second, .val (.long (qa &&& (9223372036854775807 : Int64))), .second, .val (.long (qp &&& (9223372036854775807 : Int64))), .second, .val (.int (((qp.toUInt64 >>> ((62 : Int32) &&& 0x3f).toInt64.toUInt64).toInt64).toInt32))] [])) _
            refine XS.lload X0.here hx rfl (hb hby d1_124) rfl ?_
            show Steps p.tables e below (s₁.setTop (mkF m 126 #[.val (.long qa), .second, .val (.long qp), .second, .val (.long (qa &&& (9223372036854775807 : Int64))), .second, .val (.long (qp &&& (9223372036854775807 : Int64))), .second, .val (.int (((qp.toUInt64 >>> ((62 : Int32) &&& 0x3f).toInt64.toUInt64).toInt64).toInt32))] [(.long (qa &&& (9223372036854775807 : Int64)))])) _
            refine Jvm.Stand.ldc2J X0 hx hown (mvT hZ (hw _ (List.mem_of_getElem? (i := 4) rfl))) rfl (hb hby d1_126) ?_
            show Steps p.tables e below (s₁.setTop (mkF m 129 #[.val (.long qa), .second, .val (.long qp), .second, .val (.long (qa &&& (9223372036854775807 : Int64))), .second, .val (.long (qp &&& (9223372036854775807 : Int64))), .second, .val (.int (((qp.toUInt64 >>> ((62 : Int32) &&& 0x3f).toInt64.toUInt64).toInt64).toInt32))] [(.long (9223372036854775807 : Int64)), (.long (qa &&& (9223372036854775807 : Int64)))])) _
            refine XS.lcmp X0.here hx rfl (hb hby d1_129) rfl ?_
            show Steps p.tables e below (s₁.setTop (mkF m 130 #[.val (.long qa), .second, .val (.long qp), .second, .val (.long (qa &&& (9223372036854775807 : Int64))), .second, .val (.long (qp &&& (9223372036854775807 : Int64))), .second, .val (.int (((qp.toUInt64 >>> ((62 : Int32) &&& 0x3f).toInt64.toUInt64).toInt64).toInt32))] [(.int (lcmpW (qa &&& (9223372036854775807 : Int64)) (9223372036854775807 : Int64)))])) _
            refine XS.ifYes X0.here hx rfl (pc0 := 130) (pc' := 151) rfl (hb hby d1_130) rfl ((if0 _ _).trans (feq hc24).2) (by decide) (by decide) ?_
            show Steps p.tables e below (s₁.setTop (mkF m 151 #[.val (.long qa), .second, .val (.long qp), .second, .val (.long (qa &&& (9223372036854775807 : Int64))), .second, .val (.long (qp &&& (9223372036854775807 : Int64))), .second, .val (.int (((qp.toUInt64 >>> ((62 : Int32) &&& 0x3f).toInt64.toUInt64).toInt64).toInt32))] [])) _
            refine XS.iconst X0.here hx rfl (hb hby d1_151) ?_
            show Steps p.tables e below (s₁.setTop (mkF m 152 #[.val (.long qa), .second, .val (.long qp), .second, .val (.long (qa &&& (9223372036854775807 : Int64))), .second, .val (.long (qp &&& (9223372036854775807 : Int64))), .second, .val (.int (((qp.toUInt64 >>> ((62 : Int32) &&& 0x3f).toInt64.toUInt64).toInt64).toInt32))] [(.int (3 : Int32))])) _
            refine st29 _ ?_
            show Steps p.tables e below (T29.setTop (mkF m 154 #[.val (.long qa), .second, .val (.long qp), .second, .val (.long (qa &&& (9223372036854775807 : Int64))), .second, .val (.long (qp &&& (9223372036854775807 : Int64))), .second, .val (.int (((qp.toUInt64 >>> ((62 : Int32) &&& 0x3f).toInt64.toUInt64).toInt64).toInt32))] [(.ref b29)])) _
            refine XS.dup X29.here hx rfl (hb hby d1_154) rfl rfl ?_
            show Steps p.tables e below (T29.setTop (mkF m 155 #[.val (.long qa), .second, .val (.long qp), .second, .val (.long (qa &&& (9223372036854775807 : Int64))), .second, .val (.long (qp &&& (9223372036854775807 : Int64))), .second, .val (.int (((qp.toUInt64 >>> ((62 : Int32) &&& 0x3f).toInt64.toUInt64).toInt64).toInt32))] [(.ref b29), (.ref b29)])) _
            refine XS.iconst X29.here hx rfl (hb hby d1_155) ?_
            show Steps p.tables e below (T29.setTop (mkF m 156 #[.val (.long qa), .second, .val (.long qp), .second, .val (.long (qa &&& (9223372036854775807 : Int64))), .second, .val (.long (qp &&& (9223372036854775807 : Int64))), .second, .val (.int (((qp.toUInt64 >>> ((62 : Int32) &&& 0x3f).toInt64.toUInt64).toInt64).toInt32))] [(.int (0 : Int32)), (.ref b29), (.ref b29)])) _
            refine XS.lload X29.here hx rfl (hb hby d1_156) rfl ?_
            show Steps p.tables e below (T29.setTop (mkF m 158 #[.val (.long qa), .second, .val (.long qp), .second, .val (.long (qa &&& (9223372036854775807 : Int64))), .second, .val (.long (qp &&& (9223372036854775807 : Int64))), .second, .val (.int (((qp.toUInt64 >>> ((62 : Int32) &&& 0x3f).toInt64.toUInt64).toInt64).toInt32))] [(.long (qa &&& (9223372036854775807 : Int64))), (.int (0 : Int32)), (.ref b29), (.ref b29)])) _
            refine st30 _ ?_
            show Steps p.tables e below (T30.setTop (mkF m 159 #[.val (.long qa), .second, .val (.long qp), .second, .val (.long (qa &&& (9223372036854775807 : Int64))), .second, .val (.long (qp &&& (9223372036854775807 : Int64))), .second, .val (.int (((qp.toUInt64 >>> ((62 : Int32) &&& 0x3f).toInt64.toUInt64).toInt64).toInt32))] [(.ref b29)])) _
            refine XS.dup X30.here hx rfl (hb hby d1_159) rfl rfl ?_
            show Steps p.tables e below (T30.setTop (mkF m 160 #[.val (.long qa), .second, .val (.long qp), .second, .val (.long (qa &&& (9223372036854775807 : Int64))), .second, .val (.long (qp &&& (9223372036854775807 : Int64))), .second, .val (.int (((qp.toUInt64 >>> ((62 : Int32) &&& 0x3f).toInt64.toUInt64).toInt64).toInt32))] [(.ref b29), (.ref b29)])) _
            refine XS.iconst X30.here hx rfl (hb hby d1_160) ?_
            show Steps p.tables e below (T30.setTop (mkF m 161 #[.val (.long qa), .second, .val (.long qp), .second, .val (.long (qa &&& (9223372036854775807 : Int64))), .second, .val (.long (qp &&& (9223372036854775807 : Int64))), .second, .val (.int (((qp.toUInt64 >>> ((62 : Int32) &&& 0x3f).toInt64.toUInt64).toInt64).toInt32))] [(.int (1 : Int32)), (.ref b29), (.ref b29)])) _
            refine XS.lload X30.here hx rfl (hb hby d1_161) rfl ?_
            show Steps p.tables e below (T30.setTop (mkF m 163 #[.val (.long qa), .second, .val (.long qp), .second, .val (.long (qa &&& (9223372036854775807 : Int64))), .second, .val (.long (qp &&& (9223372036854775807 : Int64))), .second, .val (.int (((qp.toUInt64 >>> ((62 : Int32) &&& 0x3f).toInt64.toUInt64).toInt64).toInt32))] [(.long (qa &&& (9223372036854775807 : Int64))), (.int (1 : Int32)), (.ref b29), (.ref b29)])) _
            refine XS.lconst X30.here hx rfl (hb hby d1_163) ?_
            show Steps p.tables e below (T30.setTop (mkF m 164 #[.val (.long qa), .second, .val (.long qp), .second, .val (.long (qa &&& (9223372036854775807 : Int64))), .second, .val (.long (qp &&& (9223372036854775807 : Int64))), .second, .val (.int (((qp.toUInt64 >>> ((62 : Int32) &&& 0x3f).toInt64.toUInt64).toInt64).toInt32))] [(.long (1 : Int64)), (.long (qa &&& (9223372036854775807 : Int64))), (.int (1 : Int32)), (.ref b29), (.ref b29)])) _
            refine XS.ladd X30.here hx rfl (hb hby d1_164) rfl ?_
            show Steps p.tables e below (T30.setTop (mkF m 165 #[.val (.long qa), .second, .val (.long qp), .second, .val (.long (qa &&& (9223372036854775807 : Int64))), .second, .val (.long (qp &&& (9223372036854775807 : Int64))), .second, .val (.int (((qp.toUInt64 >>> ((62 : Int32) &&& 0x3f).toInt64.toUInt64).toInt64).toInt32))] [(.long ((qa &&& (9223372036854775807 : Int64)) + (1 : Int64))), (.int (1 : Int32)), (.ref b29), (.ref b29)])) _
            refine st31 _ ?_
            show Steps p.tables e below (T31.setTop (mkF m 166 #[.val (.long qa), .second, .val (.long qp), .second, .val (.long (qa &&& (9223372036854775807 : Int64))), .second, .val (.long (qp &&& (9223372036854775807 : Int64))), .second, .val (.int (((qp.toUInt64 >>> ((62 : Int32) &&& 0x3f).toInt64.toUInt64).toInt64).toInt32))] [(.ref b29)])) _
            refine XS.dup X31.here hx rfl (hb hby d1_166) rfl rfl ?_
            show Steps p.tables e below (T31.setTop (mkF m 167 #[.val (.long qa), .second, .val (.long qp), .second, .val (.long (qa &&& (9223372036854775807 : Int64))), .second, .val (.long (qp &&& (9223372036854775807 : Int64))), .second, .val (.int (((qp.toUInt64 >>> ((62 : Int32) &&& 0x3f).toInt64.toUInt64).toInt64).toInt32))] [(.ref b29), (.ref b29)])) _
            refine XS.iconst X31.here hx rfl (hb hby d1_167) ?_
            show Steps p.tables e below (T31.setTop (mkF m 168 #[.val (.long qa), .second, .val (.long qp), .second, .val (.long (qa &&& (9223372036854775807 : Int64))), .second, .val (.long (qp &&& (9223372036854775807 : Int64))), .second, .val (.int (((qp.toUInt64 >>> ((62 : Int32) &&& 0x3f).toInt64.toUInt64).toInt64).toInt32))] [(.int (2 : Int32)), (.ref b29), (.ref b29)])) _
            refine XS.lconst X31.here hx rfl (hb hby d1_168) ?_
            show Steps p.tables e below (T31.setTop (mkF m 169 #[.val (.long qa), .second, .val (.long qp), .second, .val (.long (qa &&& (9223372036854775807 : Int64))), .second, .val (.long (qp &&& (9223372036854775807 : Int64))), .second, .val (.int (((qp.toUInt64 >>> ((62 : Int32) &&& 0x3f).toInt64.toUInt64).toInt64).toInt32))] [(.long (0 : Int64)), (.int (2 : Int32)), (.ref b29), (.ref b29)])) _
            refine st32 _ ?_
            show Steps p.tables e below (T32.setTop (mkF m 170 #[.val (.long qa), .second, .val (.long qp), .second, .val (.long (qa &&& (9223372036854775807 : Int64))), .second, .val (.long (qp &&& (9223372036854775807 : Int64))), .second, .val (.int (((qp.toUInt64 >>> ((62 : Int32) &&& 0x3f).toInt64.toUInt64).toInt64).toInt32))] [(.ref b29)])) _
            jvm_step X32.here [X32.here.top, hx, (hb hby d1_170), X32.method', Bd.returns, Value.isRef, FieldType.isReference]
            first | (intro acts; rw [hr _ acts rfl rfl rfl]) | rw [hr _ _ rfl rfl rfl]
            exact Steps.refl _
          · show Q1 Z qa qp h0 n0 _ T32.heap _
            rw [e32]
            exact ⟨b29, (own_upd (own_upd (own_upd (fun _ => 0) 0 (qa &&& (9223372036854775807 : Int64))) 1 ((qa &&& (9223372036854775807 : Int64)) + (1 : Int64))) 2 (0 : Int64)), rfl, N32, K32, sz_b29, ge_b29, V32, (own_good_of rfl rfl rfl (own_Hn (own_u _) hc24))⟩

theorem d5_0 : decode jdk_30_method_1_code 0 = .ok (.aload_n 0, 1) := by decide +kernel
theorem d5_1 : decode jdk_30_method_1_code 1 = .ok (.invokespecial 1, 3) := by decide +kernel
theorem d5_4 : decode jdk_30_method_1_code 4 = .ok (.return_, 1) := by decide +kernel
theorem pn_java_lang_Record : plainName "java/lang/Record" = true := by first | (simp [plainName, overriddenIn]; done) | decide +kernel
theorem ef_5 (m : MethodId) (aa : Addr) : entryFrame m #[(.ref aa)] 1 = mkF m 0 #[.val (.ref aa)] [] := by first | (simp [entryFrame, mkF, argsToLocals, Value.category]; done) | rfl
def Q5 (Z : State) (aa : Addr) (h0 : Heap) (n0 : Nat) (v : Option Value) (h : Heap) (L : List Loc) : Prop := v = none ∧ Fr n0 L ∧ h = h0
set_option maxRecDepth 65536 in
set_option maxHeartbeats 40000000 in
theorem rm5 (l : Launch) (Z : State) (a0 : Array Value) (hw : ∀ d ∈ tables_1, d.before a0 Z = true) (ws : List Jvm.Cond) (aa : Addr) (h0 : Heap) (n0 : Nat) (Z0 : n0 ≤ h0.size) :
    MetFree l (⟨"java/lang/Record", "<init>", "()V"⟩ : MethodName) (head1 (Jvm.Cond.code (⟨"java/lang/Record", "<init>", "()V"⟩ : MethodName) jdk_30_method_1_code 1 none :: ws) ({ frames := 1, cells := 0, slots := 0, locals := 12 } : Room)) (fun a U => a = #[(.ref aa)] ∧ Z.Warmed39 U.vm ∧ U.heap = h0) (fun _ _ _ _ _ => True) (fun _ U o U' => ∃ v L, o = .returned v ∧ Q5 Z aa h0 n0 v U'.heap L ∧ FrameEnd U o U' L ({ frames := 1, cells := 0, slots := 0, locals := 12 } : Room).cells ({ frames := 1, cells := 0, slots := 0, locals := 12 } : Room).slots) := by
  refine MetFree.of_bodySF (plainFor_of_name pn_java_lang_Record) hisR ?_
  intro p e s m args below meth c s₁ Bd hml0 hP hK
  obtain ⟨rfl, hZ, hh⟩ := hP
  have hx := Bd.exec
  have hby := Bd.bytes
  have hml : c.maxLocals = 1 := hml0
  have hown : s.vm.findClass "java/lang/Record" = some m.cls := findClass_of_methodNamed Bd.named
  have hnm := (name_of_methodNamed Bd.named Bd.method).1
  have X0 : Stand p l e ({ frames := 1, cells := 0, slots := 0, locals := 12 } : Room) s m #[(.ref aa)] below meth c s₁ [] 0 0 := Stand.of_body Bd
  have e0 : s₁.heap = h0 := by rw [← hh, Bd.state]; rfl
  have N0 := Fr.nil n0
  have pre0 : ∀ t, Steps p.tables e below (s₁.setTop (mkF m 0 #[.val (.ref aa)] [])) t → Steps p.tables e below (s₁.setTop (entryFrame m #[(.ref aa)] 1)) t := fun t k => castTop (ef_5 m aa) k
  obtain ⟨T33, X33, e33, st33⟩ := initO X0 hx hZ hown (hw _ (List.mem_of_getElem? (i := 24) rfl)) (hw _ (List.mem_of_getElem? (i := 25) rfl)) (hw _ (List.mem_of_getElem? (i := 26) rfl)) e0 (g := (mkF m 1 #[.val (.ref aa)] [(.ref aa)])) rfl (by rw [hml]; rfl) rfl (hb hby d5_1) (by decide) (W := 0) (by show 2 * 0 + _ ≤ _; exact Nat.le_of_eq rfl) (by decide)
  obtain ⟨fs, hr, hrun, hended, hW, hsame⟩ := X33.leave (v := none) (fun _ => rfl)
  refine ⟨_, _, pre0 _ ?_, hrun, hended, _, _, rfl, ?_, ⟨_, rfl⟩, hW, hsame.mono (by decide) (by decide)⟩
  · show Steps p.tables e below (s₁.setTop (mkF m 0 #[.val (.ref aa)] [])) _
    refine XS.aloadN X0.here hx rfl (hb hby d5_0) rfl rfl ?_
    show Steps p.tables e below (s₁.setTop (mkF m 1 #[.val (.ref aa)] [(.ref aa)])) _
    refine st33 _ ?_
    show Steps p.tables e below (T33.setTop (mkF m 4 #[.val (.ref aa)] [])) _
    exact X33.returnOut hx Bd.returns (hb hby d5_4) hr
  · show Q5 Z aa h0 n0 _ T33.heap _
    rw [e33]
    exact ⟨rfl, N0, rfl⟩

theorem d4_0 : decode prog_280_method_1_code 0 = .ok (.aload_n 0, 1) := by decide +kernel
theorem d4_1 : decode prog_280_method_1_code 1 = .ok (.invokespecial 1, 3) := by decide +kernel
theorem pd_83957 : parseMethodDescriptor "()V" = some ⟨[], none⟩ := by decide +kernel
theorem d4_4 : decode prog_280_method_1_code 4 = .ok (.lload_n 1, 1) := by decide +kernel
theorem d4_5 : decode prog_280_method_1_code 5 = .ok (.lconst 0, 1) := by decide +kernel
theorem d4_6 : decode prog_280_method_1_code 6 = .ok (.lcmp, 1) := by decide +kernel
theorem d4_7 : decode prog_280_method_1_code 7 = .ok (.ifCond .lt 16, 3) := by decide +kernel
theorem d4_10 : decode prog_280_method_1_code 10 = .ok (.lload_n 3, 1) := by decide +kernel
theorem d4_11 : decode prog_280_method_1_code 11 = .ok (.lconst 0, 1) := by decide +kernel
theorem d4_12 : decode prog_280_method_1_code 12 = .ok (.lcmp, 1) := by decide +kernel
theorem d4_13 : decode prog_280_method_1_code 13 = .ok (.ifCond .lt 10, 3) := by decide +kernel
theorem d4_16 : decode prog_280_method_1_code 16 = .ok (.lload 5, 2) := by decide +kernel
theorem d4_18 : decode prog_280_method_1_code 18 = .ok (.lconst 0, 1) := by decide +kernel
theorem d4_19 : decode prog_280_method_1_code 19 = .ok (.lcmp, 1) := by decide +kernel
theorem d4_20 : decode prog_280_method_1_code 20 = .ok (.ifCond .ge 23, 3) := by decide +kernel
theorem d4_43 : decode prog_280_method_1_code 43 = .ok (.aload_n 0, 1) := by decide +kernel
theorem d4_44 : decode prog_280_method_1_code 44 = .ok (.lload_n 1, 1) := by decide +kernel
theorem d4_45 : decode prog_280_method_1_code 45 = .ok (.putfield 22, 3) := by decide +kernel
theorem d4_48 : decode prog_280_method_1_code 48 = .ok (.aload_n 0, 1) := by decide +kernel
theorem d4_49 : decode prog_280_method_1_code 49 = .ok (.lload_n 3, 1) := by decide +kernel
theorem d4_50 : decode prog_280_method_1_code 50 = .ok (.putfield 26, 3) := by decide +kernel
theorem d4_53 : decode prog_280_method_1_code 53 = .ok (.aload_n 0, 1) := by decide +kernel
theorem d4_54 : decode prog_280_method_1_code 54 = .ok (.lload 5, 2) := by decide +kernel
theorem d4_56 : decode prog_280_method_1_code 56 = .ok (.putfield 29, 3) := by decide +kernel
theorem d4_59 : decode prog_280_method_1_code 59 = .ok (.return_, 1) := by decide +kernel
theorem pn_com_example_berthline_berthline_model_Resources : plainName "com/example/berthline/berthline/model/Resources" = true := by first | (simp [plainName, overriddenIn]; done) | decide +kernel
theorem ef_4 (m : MethodId) (aa : Addr) (qc : Int64) (qm : Int64) (qd : Int64) : entryFrame m #[(.ref aa), (.long qc), (.long qm), (.long qd)] 7 = mkF m 0 #[.val (.ref aa), .val (.long qc), .second, .val (.long qm), .second, .val (.long qd), .second] [] := by first | (simp [entryFrame, mkF, argsToLocals, Value.category]; done) | rfl
def Q4 (Z : State) (aa : Addr) (qc : Int64) (qm : Int64) (qd : Int64) (h0 : Heap) (n0 : Nat) (v : Option Value) (h : Heap) (L : List Loc) : Prop := v = none ∧ Fr n0 L ∧ Keep h0 h [aa] ∧ Exa Z h aa "com/example/berthline/berthline/model/Resources" ∧ Fld Z h aa "com/example/berthline/berthline/model/Resources" "cores" "J" (.long qc) ∧ Fld Z h aa "com/example/berthline/berthline/model/Resources" "memory" "J" (.long qm) ∧ Fld Z h aa "com/example/berthline/berthline/model/Resources" "disk" "J" (.long qd)
set_option maxRecDepth 65536 in
set_option maxHeartbeats 40000000 in
theorem rm4 (l : Launch) (Z : State) (a0 : Array Value) (hw : ∀ d ∈ tables_1, d.before a0 Z = true) (ws : List Jvm.Cond) (aa : Addr) (qc : Int64) (qm : Int64) (qd : Int64) (h0 : Heap) (n0 : Nat) (Z0 : n0 ≤ h0.size) (E_a : Exa Z h0 aa "com/example/berthline/berthline/model/Resources") (F_c : Fld Z h0 aa "com/example/berthline/berthline/model/Resources" "cores" "J" (.long (0 : Int64))) (F_m : Fld Z h0 aa "com/example/berthline/berthline/model/Resources" "memory" "J" (.long (0 : Int64))) (F_d : Fld Z h0 aa "com/example/berthline/berthline/model/Resources" "disk" "J" (.long (0 : Int64))) (g_a : n0 ≤ aa) (h_c : 0 ≤ qc.toInt) (h_m : 0 ≤ qm.toInt) (h_d : 0 ≤ qd.toInt) :
    MetFree l (⟨"com/example/berthline/berthline/model/Resources", "<init>", "(JJJ)V"⟩ : MethodName) (head1 (Jvm.Cond.code (⟨"com/example/berthline/berthline/model/Resources", "<init>", "(JJJ)V"⟩ : MethodName) prog_280_method_1_code 7 none :: ws) ({ frames := 2, cells := 0, slots := 0, locals := 24 } : Room)) (fun a U => a = #[(.ref aa), (.long qc), (.long qm), (.long qd)] ∧ Z.Warmed39 U.vm ∧ U.heap = h0) (fun _ _ _ _ _ => True) (fun _ U o U' => ∃ v L, o = .returned v ∧ Q4 Z aa qc qm qd h0 n0 v U'.heap L ∧ FrameEnd U o U' L ({ frames := 2, cells := 0, slots := 0, locals := 24 } : Room).cells ({ frames := 2, cells := 0, slots := 0, locals := 24 } : Room).slots) := by
  refine MetFree.of_bodySF (plainFor_of_name pn_com_example_berthline_berthline_model_Resources) hisR ?_
  intro p e s m args below meth c s₁ Bd hml0 hP hK
  obtain ⟨rfl, hZ, hh⟩ := hP
  have hx := Bd.exec
  have hby := Bd.bytes
  have hml : c.maxLocals = 7 := hml0
  have hown : s.vm.findClass "com/example/berthline/berthline/model/Resources" = some m.cls := findClass_of_methodNamed Bd.named
  have hnm := (name_of_methodNamed Bd.named Bd.method).1
  have X0 : Stand p l e ({ frames := 2, cells := 0, slots := 0, locals := 24 } : Room) s m #[(.ref aa), (.long qc), (.long qm), (.long qd)] below meth c s₁ [] 0 0 := Stand.of_body Bd
  have e0 : s₁.heap = h0 := by rw [← hh, Bd.state]; rfl
  have N0 := Fr.nil n0
  have pre0 : ∀ t, Steps p.tables e below (s₁.setTop (mkF m 0 #[.val (.ref aa), .val (.long qc), .second, .val (.long qm), .second, .val (.long qd), .second] [])) t → Steps p.tables e below (s₁.setTop (entryFrame m #[(.ref aa), (.long qc), (.long qm), (.long qd)] 7)) t := fun t k => castTop (ef_4 m aa qc qm qd) k
  obtain ⟨_, _, ⟨T34, L34, k34, n34⟩, -, X34, ⟨Lc34, hQ34, l34, y34, z34⟩, st34⟩ := X0.specialBack hx (y := (⟨"java/lang/Record", "<init>", "()V"⟩ : MethodName)) rfl hown (mvT hZ (hw _ (List.mem_of_getElem? (i := 19) rfl))) (mvT hZ (hw _ (List.mem_of_getElem? (i := 20) rfl))) (mvT hZ (hw _ (List.mem_of_getElem? (i := 23) rfl))) (by decide) (backOf (W := 0) (rm5 l Z a0 hw [] aa h0 n0 Z0 ) hZ (hw _ (List.mem_of_getElem? (i := 23) rfl)) (hw _ (List.mem_of_getElem? (i := 22) rfl)) (by decide) (by decide)) (g := (mkF m 1 #[.val (.ref aa), .val (.long qc), .second, .val (.long qm), .second, .val (.long qd), .second] [(.ref aa)])) rfl (by rw [hml]; rfl) (Steps.refl _) (a := aa) (argsL := []) (rest := []) (lenOf pd_83957 rfl) rfl (by show 2 * 0 + _ ≤ _; exact Nat.le_of_eq rfl) (hb hby d4_1) (fun _ _ => ⟨rfl, e0, (by decide : 0 + 0 ≤ _), (by decide : 0 + 0 ≤ _)⟩)
  dsimp only [Pt.U, Pt.locs, Pt.cells, Pt.slots] at X34 l34 y34 z34 st34 hQ34
  subst l34 y34 z34
  obtain ⟨rfl, N34q, K34c⟩ := hQ34
  have N34 := Fr.app N0 N34q
  obtain ⟨T35, h35, X35, e35, W35, st35⟩ := putF X34 hx hZ hown (host := "") (Or.inl (hw _ (List.mem_of_getElem? (i := 27) rfl))) Via.refl K34c F_c E_a (Or.inr ⟨(hw _ (List.mem_of_getElem? (i := 28) rfl)), rfl, hnm⟩) (hw _ (List.mem_of_getElem? (i := 14) rfl)) (ty := .long) (by decide) rfl rfl (g := (mkF m 45 #[.val (.ref aa), .val (.long qc), .second, .val (.long qm), .second, .val (.long qd), .second] [(.long qc), (.ref aa)])) rfl rfl (hb hby d4_45)
  have Fw35 : Fld Z h35 aa "com/example/berthline/berthline/model/Resources" "cores" "J" (.long qc) := Fld.same W35 F_c
  have E_36 := E_a.wr W35
  have F_37 := F_m.other W35 (Or.inr (slot_ne (Or.inr (hw _ (List.mem_of_getElem? (i := 30) rfl))) (Or.inr (hw _ (List.mem_of_getElem? (i := 28) rfl))) (by decide) (t := .long) (t' := .long) (by decide) (by decide)))
  have F_38 := F_d.other W35 (Or.inr (slot_ne (Or.inr (hw _ (List.mem_of_getElem? (i := 32) rfl))) (Or.inr (hw _ (List.mem_of_getElem? (i := 28) rfl))) (by decide) (t := .long) (t' := .long) (by decide) (by decide)))
  have N35 := Fr.snoc X35 N34 g_a
  have Z35 : n0 ≤ h35.size := Nat.le_trans Z0 (Keep.of_wr W35).1
  have K35 : Keep h0 h35 [aa] := (Keep.refl h0 [aa]).wr W35 (Or.inl (List.mem_of_getElem? (i := 0) rfl))
  obtain ⟨T39, h39, X39, e39, W39, st39⟩ := putF X35 hx hZ hown (host := "") (Or.inl (hw _ (List.mem_of_getElem? (i := 29) rfl))) Via.refl e35 F_37 E_36 (Or.inr ⟨(hw _ (List.mem_of_getElem? (i := 30) rfl)), rfl, hnm⟩) (hw _ (List.mem_of_getElem? (i := 14) rfl)) (ty := .long) (by decide) rfl rfl (g := (mkF m 50 #[.val (.ref aa), .val (.long qc), .second, .val (.long qm), .second, .val (.long qd), .second] [(.long qm), (.ref aa)])) rfl rfl (hb hby d4_50)
  have Fw39 : Fld Z h39 aa "com/example/berthline/berthline/model/Resources" "memory" "J" (.long qm) := Fld.same W39 F_37
  have E_40 := E_36.wr W39
  have F_41 := F_38.other W39 (Or.inr (slot_ne (Or.inr (hw _ (List.mem_of_getElem? (i := 32) rfl))) (Or.inr (hw _ (List.mem_of_getElem? (i := 30) rfl))) (by decide) (t := .long) (t' := .long) (by decide) (by decide)))
  have F_42 := Fw35.other W39 (Or.inr (slot_ne (Or.inr (hw _ (List.mem_of_getElem? (i := 28) rfl))) (Or.inr (hw _ (List.mem_of_getElem? (i := 30) rfl))) (by decide) (t := .long) (t' := .long) (by decide) (by decide)))
  have N39 := Fr.snoc X39 N35 g_a
  have Z39 : n0 ≤ h39.size := Nat.le_trans Z35 (Keep.of_wr W39).1
  have K39 : Keep h0 h39 [aa] := K35.wr W39 (Or.inl (List.mem_of_getElem? (i := 0) rfl))
  obtain ⟨T43, h43, X43, e43, W43, st43⟩ := putF X39 hx hZ hown (host := "") (Or.inl (hw _ (List.mem_of_getElem? (i := 31) rfl))) Via.refl e39 F_41 E_40 (Or.inr ⟨(hw _ (List.mem_of_getElem? (i := 32) rfl)), rfl, hnm⟩) (hw _ (List.mem_of_getElem? (i := 14) rfl)) (ty := .long) (by decide) rfl rfl (g := (mkF m 56 #[.val (.ref aa), .val (.long qc), .second, .val (.long qm), .second, .val (.long qd), .second] [(.long qd), (.ref aa)])) rfl rfl (hb hby d4_56)
  have Fw43 : Fld Z h43 aa "com/example/berthline/berthline/model/Resources" "disk" "J" (.long qd) := Fld.same W43 F_41
  have E_44 := E_40.wr W43
  have F_45 := F_42.other W43 (Or.inr (slot_ne (Or.inr (hw _ (List.mem_of_getElem? (i := 28) rfl))) (Or.inr (hw _ (List.mem_of_getElem? (i := 32) rfl))) (by decide) (t := .long) (t' := .long) (by decide) (by decide)))
  have F_46 := Fw39.other W43 (Or.inr (slot_ne (Or.inr (hw _ (List.mem_of_getElem? (i := 30) rfl))) (Or.inr (hw _ (List.mem_of_getElem? (i := 32) rfl))) (by decide) (t := .long) (t' := .long) (by decide) (by decide)))
  have N43 := Fr.snoc X43 N39 g_a
  have Z43 : n0 ≤ h43.size := Nat.le_trans Z39 (Keep.of_wr W43).1
  have K43 : Keep h0 h43 [aa] := K39.wr W43 (Or.inl (List.mem_of_getElem? (i := 0) rfl))
  obtain ⟨fs, hr, hrun, hended, hW, hsame⟩ := X43.leave (v := none) (fun _ => rfl)
  refine ⟨_, _, pre0 _ ?_, hrun, hended, _, _, rfl, ?_, ⟨_, rfl⟩, hW, hsame.mono (by decide) (by decide)⟩
  · show Steps p.tables e below (s₁.setTop (mkF m 0 #[.val (.ref aa), .val (.long qc), .second, .val (.long qm), .second, .val (.long qd), .second] [])) _
    refine XS.aloadN X0.here hx rfl (hb hby d4_0) rfl rfl ?_
    show Steps p.tables e below (s₁.setTop (mkF m 1 #[.val (.ref aa), .val (.long qc), .second, .val (.long qm), .second, .val (.long qd), .second] [(.ref aa)])) _
    refine st34.trans ?_
    show Steps p.tables e below (T34.setTop (mkF m 4 #[.val (.ref aa), .val (.long qc), .second, .val (.long qm), .second, .val (.long qd), .second] [])) _
    refine XS.lloadN X34.here hx rfl (hb hby d4_4) rfl ?_
    show Steps p.tables e below (T34.setTop (mkF m 5 #[.val (.ref aa), .val (.long qc), .second, .val (.long qm), .second, .val (.long qd), .second] [(.long qc)])) _
    refine XS.lconst X34.here hx rfl (hb hby d4_5) ?_
    show Steps p.tables e below (T34.setTop (mkF m 6 #[.val (.ref aa), .val (.long qc), .second, .val (.long qm), .second, .val (.long qd), .second] [(.long (0 : Int64)), (.long qc)])) _
    refine XS.lcmp X34.here hx rfl (hb hby d4_6) rfl ?_
    show Steps p.tables e below (T34.setTop (mkF m 7 #[.val (.ref aa), .val (.long qc), .second, .val (.long qm), .second, .val (.long qd), .second] [(.int (lcmpW qc (0 : Int64)))])) _
    refine XS.ifNo X34.here hx rfl (hb hby d4_7) rfl ((if0 _ _).trans (flt (own_pos h_c)).1) ?_
    show Steps p.tables e below (T34.setTop (mkF m 10 #[.val (.ref aa), .val (.long qc), .second, .val (.long qm), .second, .val (.long qd), .second] [])) _
    refine XS.lloadN X34.here hx rfl (hb hby d4_10) rfl ?_
    show Steps p.tables e below (T34.setTop (mkF m 11 #[.val (.ref aa), .val (.long qc), .second, .val (.long qm), .second, .val (.long qd), .second] [(.long qm)])) _
    refine XS.lconst X34.here hx rfl (hb hby d4_11) ?_
    show Steps p.tables e below (T34.setTop (mkF m 12 #[.val (.ref aa), .val (.long qc), .second, .val (.long qm), .second, .val (.long qd), .second] [(.long (0 : Int64)), (.long qm)])) _
    refine XS.lcmp X34.here hx rfl (hb hby d4_12) rfl ?_
    show Steps p.tables e below (T34.setTop (mkF m 13 #[.val (.ref aa), .val (.long qc), .second, .val (.long qm), .second, .val (.long qd), .second] [(.int (lcmpW qm (0 : Int64)))])) _
    refine XS.ifNo X34.here hx rfl (hb hby d4_13) rfl ((if0 _ _).trans (flt (own_pos h_m)).1) ?_
    show Steps p.tables e below (T34.setTop (mkF m 16 #[.val (.ref aa), .val (.long qc), .second, .val (.long qm), .second, .val (.long qd), .second] [])) _
    refine XS.lload X34.here hx rfl (hb hby d4_16) rfl ?_
    show Steps p.tables e below (T34.setTop (mkF m 18 #[.val (.ref aa), .val (.long qc), .second, .val (.long qm), .second, .val (.long qd), .second] [(.long qd)])) _
    refine XS.lconst X34.here hx rfl (hb hby d4_18) ?_
    show Steps p.tables e below (T34.setTop (mkF m 19 #[.val (.ref aa), .val (.long qc), .second, .val (.long qm), .second, .val (.long qd), .second] [(.long (0 : Int64)), (.long qd)])) _
    refine XS.lcmp X34.here hx rfl (hb hby d4_19) rfl ?_
    show Steps p.tables e below (T34.setTop (mkF m 20 #[.val (.ref aa), .val (.long qc), .second, .val (.long qm), .second, .val (.long qd), .second] [(.int (lcmpW qd (0 : Int64)))])) _
    refine XS.ifYes X34.here hx rfl (pc0 := 20) (pc' := 43) rfl (hb hby d4_20) rfl ((if0 _ _).trans (flt (own_pos h_d)).2.1) (by decide) (by decide) ?_
    show Steps p.tables e below (T34.setTop (mkF m 43 #[.val (.ref aa), .val (.long qc), .second, .val (.long qm), .second, .val (.long qd), .second] [])) _
    refine XS.aloadN X34.here hx rfl (hb hby d4_43) rfl rfl ?_
    show Steps p.tables e below (T34.setTop (mkF m 44 #[.val (.ref aa), .val (.long qc), .second, .val (.long qm), .second, .val (.long qd), .second] [(.ref aa)])) _
    refine XS.lloadN X34.here hx rfl (hb hby d4_44) rfl ?_
    show Steps p.tables e below (T34.setTop (mkF m 45 #[.val (.ref aa), .val (.long qc), .second, .val (.long qm), .second, .val (.long qd), .second] [(.long qc), (.ref aa)])) _
    refine st35 _ ?_
    show Steps p.tables e below (T35.setTop (mkF m 48 #[.val (.ref aa), .val (.long qc), .second, .val (.long qm), .second, .val (.long qd), .second] [])) _
    refine XS.aloadN X35.here hx rfl (hb hby d4_48) rfl rfl ?_
    show Steps p.tables e below (T35.setTop (mkF m 49 #[.val (.ref aa), .val (.long qc), .second, .val (.long qm), .second, .val (.long qd), .second] [(.ref aa)])) _
    refine XS.lloadN X35.here hx rfl (hb hby d4_49) rfl ?_
    show Steps p.tables e below (T35.setTop (mkF m 50 #[.val (.ref aa), .val (.long qc), .second, .val (.long qm), .second, .val (.long qd), .second] [(.long qm), (.ref aa)])) _
    refine st39 _ ?_
    show Steps p.tables e below (T39.setTop (mkF m 53 #[.val (.ref aa), .val (.long qc), .second, .val (.long qm), .second, .val (.long qd), .second] [])) _
    refine XS.aloadN X39.here hx rfl (hb hby d4_53) rfl rfl ?_
    show Steps p.tables e below (T39.setTop (mkF m 54 #[.val (.ref aa), .val (.long qc), .second, .val (.long qm), .second, .val (.long qd), .second] [(.ref aa)])) _
    refine XS.lload X39.here hx rfl (hb hby d4_54) rfl ?_
    show Steps p.tables e below (T39.setTop (mkF m 56 #[.val (.ref aa), .val (.long qc), .second, .val (.long qm), .second, .val (.long qd), .second] [(.long qd), (.ref aa)])) _
    refine st43 _ ?_
    show Steps p.tables e below (T43.setTop (mkF m 59 #[.val (.ref aa), .val (.long qc), .second, .val (.long qm), .second, .val (.long qd), .second] [])) _
    exact X43.returnOut hx Bd.returns (hb hby d4_59) hr
  · show Q4 Z aa qc qm qd h0 n0 _ T43.heap _
    rw [e43]
    exact ⟨rfl, N43, K43, E_44, F_45, F_46, Fw43⟩

theorem d6_0 : decode prog_280_method_4_code 0 = .ok (.aload_n 1, 1) := by decide +kernel
theorem d6_1 : decode prog_280_method_4_code 1 = .ok (.getfield 22, 3) := by decide +kernel
theorem d6_4 : decode prog_280_method_4_code 4 = .ok (.aload_n 0, 1) := by decide +kernel
theorem d6_5 : decode prog_280_method_4_code 5 = .ok (.getfield 22, 3) := by decide +kernel
theorem d6_8 : decode prog_280_method_4_code 8 = .ok (.lcmp, 1) := by decide +kernel
theorem d6_9 : decode prog_280_method_4_code 9 = .ok (.ifCond .gt 31, 3) := by decide +kernel
theorem d6_40 : decode prog_280_method_4_code 40 = .ok (.iconst 0, 1) := by decide +kernel
theorem d6_41 : decode prog_280_method_4_code 41 = .ok (.ireturn, 1) := by decide +kernel
theorem d6_12 : decode prog_280_method_4_code 12 = .ok (.aload_n 1, 1) := by decide +kernel
theorem d6_13 : decode prog_280_method_4_code 13 = .ok (.getfield 26, 3) := by decide +kernel
theorem d6_16 : decode prog_280_method_4_code 16 = .ok (.aload_n 0, 1) := by decide +kernel
theorem d6_17 : decode prog_280_method_4_code 17 = .ok (.getfield 26, 3) := by decide +kernel
theorem d6_20 : decode prog_280_method_4_code 20 = .ok (.lcmp, 1) := by decide +kernel
theorem d6_21 : decode prog_280_method_4_code 21 = .ok (.ifCond .gt 19, 3) := by decide +kernel
theorem d6_24 : decode prog_280_method_4_code 24 = .ok (.aload_n 1, 1) := by decide +kernel
theorem d6_25 : decode prog_280_method_4_code 25 = .ok (.getfield 29, 3) := by decide +kernel
theorem d6_28 : decode prog_280_method_4_code 28 = .ok (.aload_n 0, 1) := by decide +kernel
theorem d6_29 : decode prog_280_method_4_code 29 = .ok (.getfield 29, 3) := by decide +kernel
theorem d6_32 : decode prog_280_method_4_code 32 = .ok (.lcmp, 1) := by decide +kernel
theorem d6_33 : decode prog_280_method_4_code 33 = .ok (.ifCond .gt 7, 3) := by decide +kernel
theorem d6_36 : decode prog_280_method_4_code 36 = .ok (.iconst 1, 1) := by decide +kernel
theorem d6_37 : decode prog_280_method_4_code 37 = .ok (.goto 4, 3) := by decide +kernel
theorem ef_6 (m : MethodId) (aa : Addr) (ab : Addr) : entryFrame m #[(.ref aa), (.ref ab)] 2 = mkF m 0 #[.val (.ref aa), .val (.ref ab)] [] := by first | (simp [entryFrame, mkF, argsToLocals, Value.category]; done) | rfl
def Q6 (Z : State) (aa : Addr) (ab : Addr) (c1 : Int64) (m1 : Int64) (d1 : Int64) (c2 : Int64) (m2 : Int64) (d2 : Int64) (h0 : Heap) (n0 : Nat) (v : Option Value) (h : Heap) (L : List Loc) : Prop := v = some (.int (own_holds c1 m1 d1 c2 m2 d2)) ∧ Fr n0 L ∧ h = h0
set_option maxRecDepth 65536 in
set_option maxHeartbeats 40000000 in
theorem rm6 (l : Launch) (Z : State) (a0 : Array Value) (hw : ∀ d ∈ tables_1, d.before a0 Z = true) (ws : List Jvm.Cond) (aa : Addr) (ab : Addr) (c1 : Int64) (m1 : Int64) (d1 : Int64) (c2 : Int64) (m2 : Int64) (d2 : Int64) (h0 : Heap) (n0 : Nat) (Z0 : n0 ≤ h0.size) (F_c1 : Fld Z h0 aa "com/example/berthline/berthline/model/Resources" "cores" "J" (.long c1)) (F_m1 : Fld Z h0 aa "com/example/berthline/berthline/model/Resources" "memory" "J" (.long m1)) (F_d1 : Fld Z h0 aa "com/example/berthline/berthline/model/Resources" "disk" "J" (.long d1)) (F_c2 : Fld Z h0 ab "com/example/berthline/berthline/model/Resources" "cores" "J" (.long c2)) (F_m2 : Fld Z h0 ab "com/example/berthline/berthline/model/Resources" "memory" "J" (.long m2)) (F_d2 : Fld Z h0 ab "com/example/berthline/berthline/model/Resources" "disk" "J" (.long d2)) :
    MetFree l (⟨"com/example/berthline/berthline/model/Resources", "holds", "(Lcom/example/berthline/berthline/model/Resources;)Z"⟩ : MethodName) (head1 (Jvm.Cond.code (⟨"com/example/berthline/berthline/model/Resources", "holds", "(Lcom/example/berthline/berthline/model/Resources;)Z"⟩ : MethodName) prog_280_method_4_code 2 (some .boolean) :: ws) ({ frames := 0, cells := 0, slots := 0, locals := 0 } : Room)) (fun a U => a = #[(.ref aa), (.ref ab)] ∧ Z.Warmed39 U.vm ∧ U.heap = h0) (fun _ _ _ _ _ => True) (fun _ U o U' => ∃ v L, o = .returned v ∧ Q6 Z aa ab c1 m1 d1 c2 m2 d2 h0 n0 v U'.heap L ∧ FrameEnd U o U' L ({ frames := 0, cells := 0, slots := 0, locals := 0 } : Room).cells ({ frames := 0, cells := 0, slots := 0, locals := 0 } : Room).slots) := by
  refine MetFree.of_bodySF (plainFor_of_name pn_com_example_berthline_berthline_model_Resources) hisR ?_
  intro p e s m args below meth c s₁ Bd hml0 hP hK
  obtain ⟨rfl, hZ, hh⟩ := hP
  have hx := Bd.exec
  have hby := Bd.bytes
  have hml : c.maxLocals = 2 := hml0
  have hown : s.vm.findClass "com/example/berthline/berthline/model/Resources" = some m.cls := findClass_of_methodNamed Bd.named
  have hnm := (name_of_methodNamed Bd.named Bd.method).1
  have X0 : Stand p l e ({ frames := 0, cells := 0, slots := 0, locals := 0 } : Room) s m #[(.ref aa), (.ref ab)] below meth c s₁ [] 0 0 := Stand.of_body Bd
  have e0 : s₁.heap = h0 := by rw [← hh, Bd.state]; rfl
  have N0 := Fr.nil n0
  have pre0 : ∀ t, Steps p.tables e below (s₁.setTop (mkF m 0 #[.val (.ref aa), .val (.ref ab)] [])) t → Steps p.tables e below (s₁.setTop (entryFrame m #[(.ref aa), (.ref ab)] 2)) t := fun t k => castTop (ef_6 m aa ab) k
  obtain ⟨T47, X47, e47, st47⟩ := getF X0 hx hZ hown (host := "") (Or.inl (hw _ (List.mem_of_getElem? (i := 27) rfl))) Via.refl e0 F_c2 (g := (mkF m 1 #[.val (.ref aa), .val (.ref ab)] [(.ref ab)])) rfl rfl (hb hby d6_1)
  obtain ⟨T48, X48, e48, st48⟩ := getF X47 hx hZ hown (host := "") (Or.inl (hw _ (List.mem_of_getElem? (i := 27) rfl))) Via.refl e47 F_c1 (g := (mkF m 5 #[.val (.ref aa), .val (.ref ab)] [(.ref aa), (.long c2)])) rfl rfl (hb hby d6_5)
  by_cases hc49 : (0 : Int32) < (lcmpW c2 c1)
  · obtain ⟨fs, hr, hrun, hended, hW, hsame⟩ := X48.leave (v := some (.int (0 : Int32))) (fun h => by rw [Bd.returns] at h; cases h)
    refine ⟨_, _, pre0 _ ?_, hrun, hended, _, _, rfl, ?_, ⟨_, rfl⟩, hW, hsame.mono (by decide) (by decide)⟩
    · show Steps p.tables e below (s₁.setTop (mkF m 0 #[.val (.ref aa), .val (.ref ab)] [])) _
      refine XS.aloadN X0.here hx rfl (hb hby d6_0) rfl rfl ?_
      show Steps p.tables e below (s₁.setTop (mkF m 1 #[.val (.ref aa), .val (.ref ab)] [(.ref ab)])) _
      refine st47 _ ?_
      show Steps p.tables e below (T47.setTop (mkF m 4 #[.val (.ref aa), .val (.ref ab)] [(.long c2)])) _
      refine XS.aloadN X47.here hx rfl (hb hby d6_4) rfl rfl ?_
      show Steps p.tables e below (T47.setTop (mkF m 5 #[.val (.ref aa), .val (.ref ab)] [(.ref aa), (.long c2)])) _
      refine st48 _ ?_
      show Steps p.tables e below (T48.setTop (mkF m 8 #[.val (.ref aa), .val (.ref ab)] [(.long c1), (.long c2)])) _
      refine XS.lcmp X48.here hx rfl (hb hby d6_8) rfl ?_
      show Steps p.tables e below (T48.setTop (mkF m 9 #[.val (.ref aa), .val (.ref ab)] [(.int (lcmpW c2 c1))])) _
      refine XS.ifYes X48.here hx rfl (pc0 := 9) (pc' := 40) rfl (hb hby d6_9) rfl ((if0 _ _).trans (tlt hc49).2.2.1) (by decide) (by decide) ?_
      show Steps p.tables e below (T48.setTop (mkF m 40 #[.val (.ref aa), .val (.ref ab)] [])) _
      refine XS.iconst X48.here hx rfl (hb hby d6_40) ?_
      show Steps p.tables e below (T48.setTop (mkF m 41 #[.val (.ref aa), .val (.ref ab)] [(.int (0 : Int32))])) _
      exact retN X48 hx (t := .boolean) Bd.returns (by simp) (hb hby d6_41) hr
    · show Q6 Z aa ab c1 m1 d1 c2 m2 d2 h0 n0 _ T48.heap _
      rw [e48]
      exact ⟨(congrArg some (congrArg Value.int (by simp [own_holds, hc49]))), N0, rfl⟩
  · obtain ⟨T50, X50, e50, st50⟩ := getF X48 hx hZ hown (host := "") (Or.inl (hw _ (List.mem_of_getElem? (i := 29) rfl))) Via.refl e48 F_m2 (g := (mkF m 13 #[.val (.ref aa), .val (.ref ab)] [(.ref ab)])) rfl rfl (hb hby d6_13)
    obtain ⟨T51, X51, e51, st51⟩ := getF X50 hx hZ hown (host := "") (Or.inl (hw _ (List.mem_of_getElem? (i := 29) rfl))) Via.refl e50 F_m1 (g := (mkF m 17 #[.val (.ref aa), .val (.ref ab)] [(.ref aa), (.long m2)])) rfl rfl (hb hby d6_17)
    by_cases hc52 : (0 : Int32) < (lcmpW m2 m1)
    · obtain ⟨fs, hr, hrun, hended, hW, hsame⟩ := X51.leave (v := some (.int (0 : Int32))) (fun h => by rw [Bd.returns] at h; cases h)
      refine ⟨_, _, pre0 _ ?_, hrun, hended, _, _, rfl, ?_, ⟨_, rfl⟩, hW, hsame.mono (by decide) (by decide)⟩
      · show Steps p.tables e below (s₁.setTop (mkF m 0 #[.val (.ref aa), .val (.ref ab)] [])) _
        refine XS.aloadN X0.here hx rfl (hb hby d6_0) rfl rfl ?_
        show Steps p.tables e below (s₁.setTop (mkF m 1 #[.val (.ref aa), .val (.ref ab)] [(.ref ab)])) _
        refine st47 _ ?_
        show Steps p.tables e below (T47.setTop (mkF m 4 #[.val (.ref aa), .val (.ref ab)] [(.long c2)])) _
        refine XS.aloadN X47.here hx rfl (hb hby d6_4) rfl rfl ?_
        show Steps p.tables e below (T47.setTop (mkF m 5 #[.val (.ref aa), .val (.ref ab)] [(.ref aa), (.long c2)])) _
        refine st48 _ ?_
        show Steps p.tables e below (T48.setTop (mkF m 8 #[.val (.ref aa), .val (.ref ab)] [(.long c1), (.long c2)])) _
        refine XS.lcmp X48.here hx rfl (hb hby d6_8) rfl ?_
        show Steps p.tables e below (T48.setTop (mkF m 9 #[.val (.ref aa), .val (.ref ab)] [(.int (lcmpW c2 c1))])) _
        refine XS.ifNo X48.here hx rfl (hb hby d6_9) rfl ((if0 _ _).trans (flt hc49).2.2.1) ?_
        show Steps p.tables e below (T48.setTop (mkF m 12 #[.val (.ref aa), .val (.ref ab)] [])) _
        refine XS.aloadN X48.here hx rfl (hb hby d6_12) rfl rfl ?_
        show Steps p.tables e below (T48.setTop (mkF m 13 #[.val (.ref aa), .val (.ref ab)] [(.ref ab)])) _
        refine st50 _ ?_
        show Steps p.tables e below (T50.setTop (mkF m 16 #[.val (.ref aa), .val (.ref ab)] [(.long m2)])) _
        refine XS.aloadN X50.here hx rfl (hb hby d6_16) rfl rfl ?_
        show Steps p.tables e below (T50.setTop (mkF m 17 #[.val (.ref aa), .val (.ref ab)] [(.ref aa), (.long m2)])) _
        refine st51 _ ?_
        show Steps p.tables e below (T51.setTop (mkF m 20 #[.val (.ref aa), .val (.ref ab)] [(.long m1), (.long m2)])) _
        refine XS.lcmp X51.here hx rfl (hb hby d6_20) rfl ?_
        show Steps p.tables e below (T51.setTop (mkF m 21 #[.val (.ref aa), .val (.ref ab)] [(.int (lcmpW m2 m1))])) _
        refine XS.ifYes X51.here hx rfl (pc0 := 21) (pc' := 40) rfl (hb hby d6_21) rfl ((if0 _ _).trans (tlt hc52).2.2.1) (by decide) (by decide) ?_
        show Steps p.tables e below (T51.setTop (mkF m 40 #[.val (.ref aa), .val (.ref ab)] [])) _
        refine XS.iconst X51.here hx rfl (hb hby d6_40) ?_
        show Steps p.tables e below (T51.setTop (mkF m 41 #[.val (.ref aa), .val (.ref ab)] [(.int (0 : Int32))])) _
        exact retN X51 hx (t := .boolean) Bd.returns (by simp) (hb hby d6_41) hr
      · show Q6 Z aa ab c1 m1 d1 c2 m2 d2 h0 n0 _ T51.heap _
        rw [e51]
        exact ⟨(congrArg some (congrArg Value.int (by simp [own_holds, hc49, hc52]))), N0, rfl⟩
    · obtain ⟨T53, X53, e53, st53⟩ := getF X51 hx hZ hown (host := "") (Or.inl (hw _ (List.mem_of_getElem? (i := 31) rfl))) Via.refl e51 F_d2 (g := (mkF m 25 #[.val (.ref aa), .val (.ref ab)] [(.ref ab)])) rfl rfl (hb hby d6_25)
      obtain ⟨T54, X54, e54, st54⟩ := getF X53 hx hZ hown (host := "") (Or.inl (hw _ (List.mem_of_getElem? (i := 31) rfl))) Via.refl e53 F_d1 (g := (mkF m 29 #[.val (.ref aa), .val (.ref ab)] [(.ref aa), (.long d2)])) rfl rfl (hb hby d6_29)
      by_cases hc55 : (0 : Int32) < (lcmpW d2 d1)
      · obtain ⟨fs, hr, hrun, hended, hW, hsame⟩ := X54.leave (v := some (.int (0 : Int32))) (fun h => by rw [Bd.returns] at h; cases h)
        refine ⟨_, _, pre0 _ ?_, hrun, hended, _, _, rfl, ?_, ⟨_, rfl⟩, hW, hsame.mono (by decide) (by decide)⟩
        · show Steps p.tables e below (s₁.setTop (mkF m 0 #[.val (.ref aa), .val (.ref ab)] [])) _
          refine XS.aloadN X0.here hx rfl (hb hby d6_0) rfl rfl ?_
          show Steps p.tables e below (s₁.setTop (mkF m 1 #[.val (.ref aa), .val (.ref ab)] [(.ref ab)])) _
          refine st47 _ ?_
          show Steps p.tables e below (T47.setTop (mkF m 4 #[.val (.ref aa), .val (.ref ab)] [(.long c2)])) _
          refine XS.aloadN X47.here hx rfl (hb hby d6_4) rfl rfl ?_
          show Steps p.tables e below (T47.setTop (mkF m 5 #[.val (.ref aa), .val (.ref ab)] [(.ref aa), (.long c2)])) _
          refine st48 _ ?_
          show Steps p.tables e below (T48.setTop (mkF m 8 #[.val (.ref aa), .val (.ref ab)] [(.long c1), (.long c2)])) _
          refine XS.lcmp X48.here hx rfl (hb hby d6_8) rfl ?_
          show Steps p.tables e below (T48.setTop (mkF m 9 #[.val (.ref aa), .val (.ref ab)] [(.int (lcmpW c2 c1))])) _
          refine XS.ifNo X48.here hx rfl (hb hby d6_9) rfl ((if0 _ _).trans (flt hc49).2.2.1) ?_
          show Steps p.tables e below (T48.setTop (mkF m 12 #[.val (.ref aa), .val (.ref ab)] [])) _
          refine XS.aloadN X48.here hx rfl (hb hby d6_12) rfl rfl ?_
          show Steps p.tables e below (T48.setTop (mkF m 13 #[.val (.ref aa), .val (.ref ab)] [(.ref ab)])) _
          refine st50 _ ?_
          show Steps p.tables e below (T50.setTop (mkF m 16 #[.val (.ref aa), .val (.ref ab)] [(.long m2)])) _
          refine XS.aloadN X50.here hx rfl (hb hby d6_16) rfl rfl ?_
          show Steps p.tables e below (T50.setTop (mkF m 17 #[.val (.ref aa), .val (.ref ab)] [(.ref aa), (.long m2)])) _
          refine st51 _ ?_
          show Steps p.tables e below (T51.setTop (mkF m 20 #[.val (.ref aa), .val (.ref ab)] [(.long m1), (.long m2)])) _
          refine XS.lcmp X51.here hx rfl (hb hby d6_20) rfl ?_
          show Steps p.tables e below (T51.setTop (mkF m 21 #[.val (.ref aa), .val (.ref ab)] [(.int (lcmpW m2 m1))])) _
          refine XS.ifNo X51.here hx rfl (hb hby d6_21) rfl ((if0 _ _).trans (flt hc52).2.2.1) ?_
          show Steps p.tables e below (T51.setTop (mkF m 24 #[.val (.ref aa), .val (.ref ab)] [])) _
          refine XS.aloadN X51.here hx rfl (hb hby d6_24) rfl rfl ?_
          show Steps p.tables e below (T51.setTop (mkF m 25 #[.val (.ref aa), .val (.ref ab)] [(.ref ab)])) _
          refine st53 _ ?_
          show Steps p.tables e below (T53.setTop (mkF m 28 #[.val (.ref aa), .val (.ref ab)] [(.long d2)])) _
          refine XS.aloadN X53.here hx rfl (hb hby d6_28) rfl rfl ?_
          show Steps p.tables e below (T53.setTop (mkF m 29 #[.val (.ref aa), .val (.ref ab)] [(.ref aa), (.long d2)])) _
          refine st54 _ ?_
          show Steps p.tables e below (T54.setTop (mkF m 32 #[.val (.ref aa), .val (.ref ab)] [(.long d1), (.long d2)])) _
          refine XS.lcmp X54.here hx rfl (hb hby d6_32) rfl ?_
          show Steps p.tables e below (T54.setTop (mkF m 33 #[.val (.ref aa), .val (.ref ab)] [(.int (lcmpW d2 d1))])) _
          refine XS.ifYes X54.here hx rfl (pc0 := 33) (pc' := 40) rfl (hb hby d6_33) rfl ((if0 _ _).trans (tlt hc55).2.2.1) (by decide) (by decide) ?_
          show Steps p.tables e below (T54.setTop (mkF m 40 #[.val (.ref aa), .val (.ref ab)] [])) _
          refine XS.iconst X54.here hx rfl (hb hby d6_40) ?_
          show Steps p.tables e below (T54.setTop (mkF m 41 #[.val (.ref aa), .val (.ref ab)] [(.int (0 : Int32))])) _
          exact retN X54 hx (t := .boolean) Bd.returns (by simp) (hb hby d6_41) hr
        · show Q6 Z aa ab c1 m1 d1 c2 m2 d2 h0 n0 _ T54.heap _
          rw [e54]
          exact ⟨(congrArg some (congrArg Value.int (by simp [own_holds, hc49, hc52, hc55]))), N0, rfl⟩
      · obtain ⟨fs, hr, hrun, hended, hW, hsame⟩ := X54.leave (v := some (.int (1 : Int32))) (fun h => by rw [Bd.returns] at h; cases h)
        refine ⟨_, _, pre0 _ ?_, hrun, hended, _, _, rfl, ?_, ⟨_, rfl⟩, hW, hsame.mono (by decide) (by decide)⟩
        · show Steps p.tables e below (s₁.setTop (mkF m 0 #[.val (.ref aa), .val (.ref ab)] [])) _
          refine XS.aloadN X0.here hx rfl (hb hby d6_0) rfl rfl ?_
          show Steps p.tables e below (s₁.setTop (mkF m 1 #[.val (.ref aa), .val (.ref ab)] [(.ref ab)])) _
          refine st47 _ ?_
          show Steps p.tables e below (T47.setTop (mkF m 4 #[.val (.ref aa), .val (.ref ab)] [(.long c2)])) _
          refine XS.aloadN X47.here hx rfl (hb hby d6_4) rfl rfl ?_
          show Steps p.tables e below (T47.setTop (mkF m 5 #[.val (.ref aa), .val (.ref ab)] [(.ref aa), (.long c2)])) _
          refine st48 _ ?_
          show Steps p.tables e below (T48.setTop (mkF m 8 #[.val (.ref aa), .val (.ref ab)] [(.long c1), (.long c2)])) _
          refine XS.lcmp X48.here hx rfl (hb hby d6_8) rfl ?_
          show Steps p.tables e below (T48.setTop (mkF m 9 #[.val (.ref aa), .val (.ref ab)] [(.int (lcmpW c2 c1))])) _
          refine XS.ifNo X48.here hx rfl (hb hby d6_9) rfl ((if0 _ _).trans (flt hc49).2.2.1) ?_
          show Steps p.tables e below (T48.setTop (mkF m 12 #[.val (.ref aa), .val (.ref ab)] [])) _
          refine XS.aloadN X48.here hx rfl (hb hby d6_12) rfl rfl ?_
          show Steps p.tables e below (T48.setTop (mkF m 13 #[.val (.ref aa), .val (.ref ab)] [(.ref ab)])) _
          refine st50 _ ?_
          show Steps p.tables e below (T50.setTop (mkF m 16 #[.val (.ref aa), .val (.ref ab)] [(.long m2)])) _
          refine XS.aloadN X50.here hx rfl (hb hby d6_16) rfl rfl ?_
          show Steps p.tables e below (T50.setTop (mkF m 17 #[.val (.ref aa), .val (.ref ab)] [(.ref aa), (.long m2)])) _
          refine st51 _ ?_
          show Steps p.tables e below (T51.setTop (mkF m 20 #[.val (.ref aa), .val (.ref ab)] [(.long m1), (.long m2)])) _
          refine XS.lcmp X51.here hx rfl (hb hby d6_20) rfl ?_
          show Steps p.tables e below (T51.setTop (mkF m 21 #[.val (.ref aa), .val (.ref ab)] [(.int (lcmpW m2 m1))])) _
          refine XS.ifNo X51.here hx rfl (hb hby d6_21) rfl ((if0 _ _).trans (flt hc52).2.2.1) ?_
          show Steps p.tables e below (T51.setTop (mkF m 24 #[.val (.ref aa), .val (.ref ab)] [])) _
          refine XS.aloadN X51.here hx rfl (hb hby d6_24) rfl rfl ?_
          show Steps p.tables e below (T51.setTop (mkF m 25 #[.val (.ref aa), .val (.ref ab)] [(.ref ab)])) _
          refine st53 _ ?_
          show Steps p.tables e below (T53.setTop (mkF m 28 #[.val (.ref aa), .val (.ref ab)] [(.long d2)])) _
          refine XS.aloadN X53.here hx rfl (hb hby d6_28) rfl rfl ?_
          show Steps p.tables e below (T53.setTop (mkF m 29 #[.val (.ref aa), .val (.ref ab)] [(.ref aa), (.long d2)])) _
          refine st54 _ ?_
          show Steps p.tables e below (T54.setTop (mkF m 32 #[.val (.ref aa), .val (.ref ab)] [(.long d1), (.long d2)])) _
          refine XS.lcmp X54.here hx rfl (hb hby d6_32) rfl ?_
          show Steps p.tables e below (T54.setTop (mkF m 33 #[.val (.ref aa), .val (.ref ab)] [(.int (lcmpW d2 d1))])) _
          refine XS.ifNo X54.here hx rfl (hb hby d6_33) rfl ((if0 _ _).trans (flt hc55).2.2.1) ?_
          show Steps p.tables e below (T54.setTop (mkF m 36 #[.val (.ref aa), .val (.ref ab)] [])) _
          refine XS.iconst X54.here hx rfl (hb hby d6_36) ?_
          show Steps p.tables e below (T54.setTop (mkF m 37 #[.val (.ref aa), .val (.ref ab)] [(.int (1 : Int32))])) _
          refine XS.goto X54.here hx rfl (pc0 := 37) (pc' := 41) rfl (hb hby d6_37) (by decide) (by decide) ?_
          show Steps p.tables e below (T54.setTop (mkF m 41 #[.val (.ref aa), .val (.ref ab)] [(.int (1 : Int32))])) _
          exact retN X54 hx (t := .boolean) Bd.returns (by simp) (hb hby d6_41) hr
        · show Q6 Z aa ab c1 m1 d1 c2 m2 d2 h0 n0 _ T54.heap _
          rw [e54]
          exact ⟨(congrArg some (congrArg Value.int (by simp [own_holds, hc49, hc52, hc55]))), N0, rfl⟩

theorem pd_885855 : parseMethodDescriptor "(JJ)[J" = some ⟨[.long, .long], some (.array .long)⟩ := by decide +kernel
theorem pd_241823 : parseMethodDescriptor "(JJJ)V" = some ⟨[.long, .long, .long], none⟩ := by decide +kernel
theorem pd_543751 : parseMethodDescriptor "(Lcom/example/berthline/berthline/model/Resources;)Z" = some ⟨[(.object "com/example/berthline/berthline/model/Resources")], some .boolean⟩ := by decide +kernel
theorem ef_0 (m : MethodId) (q0 : Int64) (q1 : Int64) (q2 : Int64) (q3 : Int64) (q4 : Int64) (q5 : Int64) : entryFrame m #[(.long q0), (.long q1), (.long q2), (.long q3), (.long q4), (.long q5)] maxLocals = mkF m 0 #[.val (.long q0), .second, .val (.long q1), .second, .val (.long q2), .second, .val (.long q3), .second, .val (.long q4), .second, .val (.long q5), .second, .unset, .unset, .unset, .unset, .unset, .unset] [] := by first | (simp [entryFrame, mkF, argsToLocals, Value.category, maxLocals]; done) | rfl
def Q0 (Z : State) (q0 : Int64) (q1 : Int64) (q2 : Int64) (q3 : Int64) (q4 : Int64) (q5 : Int64) (h0 : Heap) (n0 : Nat) (v : Option Value) (h : Heap) (L : List Loc) : Prop := v = some (.int 1) ∧ Fr n0 L
set_option maxRecDepth 65536 in
set_option maxHeartbeats 40000000 in
theorem rm0 (l : Launch) (Z : State) (a0 : Array Value) (hw : ∀ d ∈ tables_1, d.before a0 Z = true) (ws : List Jvm.Cond) (q0 : Int64) (q1 : Int64) (q2 : Int64) (q3 : Int64) (q4 : Int64) (q5 : Int64) (h0 : Heap) (n0 : Nat) (Z0 : n0 ≤ h0.size) :
    MetFree l x (head1 (Jvm.Cond.code x code maxLocals ret :: ws) room_1) (fun a U => a = #[(.long q0), (.long q1), (.long q2), (.long q3), (.long q4), (.long q5)] ∧ Z.Warmed39 U.vm ∧ U.heap = h0) (fun _ _ _ _ _ => True) (fun _ U o U' => ∃ v L, o = .returned v ∧ Q0 Z q0 q1 q2 q3 q4 q5 h0 n0 v U'.heap L ∧ FrameEnd U o U' L room_1.cells room_1.slots) := by
  refine MetFree.of_bodySF (plainFor_of_name pn_com_example_berthline_berthline_model_ResourcesHoldsPinLaw) hisR ?_
  intro p e s m args below meth c s₁ Bd hml0 hP hK
  obtain ⟨rfl, hZ, hh⟩ := hP
  have hx := Bd.exec
  have hby := Bd.bytes
  have hml : c.maxLocals = 18 := hml0
  have hown : s.vm.findClass "com/example/berthline/berthline/model/ResourcesHoldsPinLaw" = some m.cls := findClass_of_methodNamed Bd.named
  have hnm := (name_of_methodNamed Bd.named Bd.method).1
  have X0 : Stand p l e room_1 s m #[(.long q0), (.long q1), (.long q2), (.long q3), (.long q4), (.long q5)] below meth c s₁ [] 0 0 := Stand.of_body Bd
  have e0 : s₁.heap = h0 := by rw [← hh, Bd.state]; rfl
  have N0 := Fr.nil n0
  have pre0 : ∀ t, Steps p.tables e below (s₁.setTop (mkF m 0 #[.val (.long q0), .second, .val (.long q1), .second, .val (.long q2), .second, .val (.long q3), .second, .val (.long q4), .second, .val (.long q5), .second, .unset, .unset, .unset, .unset, .unset, .unset] [])) t → Steps p.tables e below (s₁.setTop (entryFrame m #[(.long q0), (.long q1), (.long q2), (.long q3), (.long q4), (.long q5)] maxLocals)) t := fun t k => castTop (ef_0 m q0 q1 q2 q3 q4 q5) k
  obtain ⟨_, _, ⟨T56, L56, k56, n56⟩, -, X56, ⟨Lc56, hQ56, l56, y56, z56⟩, st56⟩ := Jvm.LawKit.callS X0 hx (y := (⟨"com/example/berthline/berthline/model/ResourcesHoldsPinLaw", "pick", "(JJ)[J"⟩ : MethodName)) hown (mvT hZ (hw _ (List.mem_of_getElem? (i := 0) rfl))) (mvT hZ (hw _ (List.mem_of_getElem? (i := 1) rfl))) (mvT hZ (hw _ (List.mem_of_getElem? (i := 2) rfl))) (mvT hZ (hw _ (List.mem_of_getElem? (i := 3) rfl))) (by decide) (backOf (W := 0) (rm1 l Z a0 hw [] q0 q1 h0 n0 Z0 ) hZ (hw _ (List.mem_of_getElem? (i := 3) rfl)) (hw _ (List.mem_of_getElem? (i := 2) rfl)) (by decide) (by decide)) (g := (mkF m 2 #[.val (.long q0), .second, .val (.long q1), .second, .val (.long q2), .second, .val (.long q3), .second, .val (.long q4), .second, .val (.long q5), .second, .unset, .unset, .unset, .unset, .unset, .unset] [(.long q1), (.long q0)])) rfl (by rw [hml]; rfl) (argsL := [(.long q0), (.long q1)]) (rest := []) (lenOf pd_885855 rfl) rfl (by show 2 * 0 + _ ≤ _; exact Nat.le_of_eq rfl) (hb hby at_2) (fun _ _ => ⟨rfl, e0, (by decide : 0 + 1 ≤ _), (by decide : 0 + 3 ≤ _)⟩)
  dsimp only [Pt.U, Pt.locs, Pt.cells, Pt.slots] at X56 l56 y56 z56 st56 hQ56
  subst l56 y56 z56
  obtain ⟨bb_56, ff_56, rfl, N56q, K56c, G56_0, G56_1, G56_2, G56_3⟩ := hQ56
  have N56 := Fr.app N0 N56q
  have Z56 : n0 ≤ T56.heap.size := Nat.le_trans Z0 K56c.1
  obtain ⟨_, _, ⟨T57, L57, k57, n57⟩, -, X57, ⟨Lc57, hQ57, l57, y57, z57⟩, st57⟩ := Jvm.LawKit.callS X56 hx (y := (⟨"com/example/berthline/berthline/model/ResourcesHoldsPinLaw", "pick", "(JJ)[J"⟩ : MethodName)) hown (mvT hZ (hw _ (List.mem_of_getElem? (i := 0) rfl))) (mvT hZ (hw _ (List.mem_of_getElem? (i := 1) rfl))) (mvT hZ (hw _ (List.mem_of_getElem? (i := 2) rfl))) (mvT hZ (hw _ (List.mem_of_getElem? (i := 3) rfl))) (by decide) (backOf (W := 0) (rm1 l Z a0 hw [] q2 q3 T56.heap n0 Z56 ) hZ (hw _ (List.mem_of_getElem? (i := 3) rfl)) (hw _ (List.mem_of_getElem? (i := 2) rfl)) (by decide) (by decide)) (g := (mkF m 11 #[.val (.long q0), .second, .val (.long q1), .second, .val (.long q2), .second, .val (.long q3), .second, .val (.long q4), .second, .val (.long q5), .second, .val (.ref bb_56), .unset, .unset, .unset, .unset, .unset] [(.long q3), (.long q2)])) rfl (by rw [hml]; rfl) (argsL := [(.long q2), (.long q3)]) (rest := []) (lenOf pd_885855 rfl) rfl (by show 2 * 0 + _ ≤ _; exact Nat.le_of_eq rfl) (hb hby at_11) (fun _ _ => ⟨rfl, rfl, (by decide : 1 + 1 ≤ _), (by decide : 3 + 3 ≤ _)⟩)
  dsimp only [Pt.U, Pt.locs, Pt.cells, Pt.slots] at X57 l57 y57 z57 st57 hQ57
  subst l57 y57 z57
  obtain ⟨bb_57, ff_57, rfl, N57q, K57c, G57_0, G57_1, G57_2, G57_3⟩ := hQ57
  have N57 := Fr.app N56 N57q
  have ne_58 : bb_56 ≠ bb_57 := Nat.ne_of_lt (Nat.lt_of_lt_of_le G56_2.lt G57_0)
  have V_59 := G56_2.keep K57c nin0
  have Z57 : n0 ≤ T57.heap.size := Nat.le_trans Z56 K57c.1
  obtain ⟨_, _, ⟨T60, L60, k60, n60⟩, -, X60, ⟨Lc60, hQ60, l60, y60, z60⟩, st60⟩ := Jvm.LawKit.callS X57 hx (y := (⟨"com/example/berthline/berthline/model/ResourcesHoldsPinLaw", "pick", "(JJ)[J"⟩ : MethodName)) hown (mvT hZ (hw _ (List.mem_of_getElem? (i := 0) rfl))) (mvT hZ (hw _ (List.mem_of_getElem? (i := 1) rfl))) (mvT hZ (hw _ (List.mem_of_getElem? (i := 2) rfl))) (mvT hZ (hw _ (List.mem_of_getElem? (i := 3) rfl))) (by decide) (backOf (W := 0) (rm1 l Z a0 hw [] q4 q5 T57.heap n0 Z57 ) hZ (hw _ (List.mem_of_getElem? (i := 3) rfl)) (hw _ (List.mem_of_getElem? (i := 2) rfl)) (by decide) (by decide)) (g := (mkF m 20 #[.val (.long q0), .second, .val (.long q1), .second, .val (.long q2), .second, .val (.long q3), .second, .val (.long q4), .second, .val (.long q5), .second, .val (.ref bb_56), .val (.ref bb_57), .unset, .unset, .unset, .unset] [(.long q5), (.long q4)])) rfl (by rw [hml]; rfl) (argsL := [(.long q4), (.long q5)]) (rest := []) (lenOf pd_885855 rfl) rfl (by show 2 * 0 + _ ≤ _; exact Nat.le_of_eq rfl) (hb hby at_20) (fun _ _ => ⟨rfl, rfl, (by decide : 2 + 1 ≤ _), (by decide : 6 + 3 ≤ _)⟩)
  dsimp only [Pt.U, Pt.locs, Pt.cells, Pt.slots] at X60 l60 y60 z60 st60 hQ60
  subst l60 y60 z60
  obtain ⟨bb_60, ff_60, rfl, N60q, K60c, G60_0, G60_1, G60_2, G60_3⟩ := hQ60
  have N60 := Fr.app N57 N60q
  have ne_61 : bb_56 ≠ bb_60 := Nat.ne_of_lt (Nat.lt_of_lt_of_le V_59.lt G60_0)
  have ne_62 : bb_57 ≠ bb_60 := Nat.ne_of_lt (Nat.lt_of_lt_of_le G57_2.lt G60_0)
  have V_63 := V_59.keep K60c nin0
  have V_64 := G57_2.keep K60c nin0
  have Z60 : n0 ≤ T60.heap.size := Nat.le_trans Z57 K60c.1
  obtain ⟨T65, h65, X65, e65, E65, A65, D65, -, st65⟩ := newO X60 hx hZ hown (hw _ (List.mem_of_getElem? (i := 13) rfl)) (hw _ (List.mem_of_getElem? (i := 14) rfl)) (hw _ (List.mem_of_getElem? (i := 15) rfl)) rfl (g := (mkF m 25 #[.val (.long q0), .second, .val (.long q1), .second, .val (.long q2), .second, .val (.long q3), .second, .val (.long q4), .second, .val (.long q5), .second, .val (.ref bb_56), .val (.ref bb_57), .val (.ref bb_60), .unset, .unset, .unset] [])) rfl (hb hby at_25) (by decide) (by decide)
  obtain ⟨b65, g65⟩ : ∃ z, z = T60.heap.size := ⟨_, rfl⟩
  rw [← g65] at A65 D65 st65
  have ne_66 : bb_56 ≠ b65 := Nat.ne_of_lt (Nat.lt_of_lt_of_le V_63.lt (Nat.le_of_eq g65.symm))
  have ne_67 : bb_57 ≠ b65 := Nat.ne_of_lt (Nat.lt_of_lt_of_le V_64.lt (Nat.le_of_eq g65.symm))
  have ne_68 : bb_60 ≠ b65 := Nat.ne_of_lt (Nat.lt_of_lt_of_le G60_2.lt (Nat.le_of_eq g65.symm))
  have V_69 := V_63.ext E65
  have V_70 := V_64.ext E65
  have V_71 := G60_2.ext E65
  have ge_b65 : n0 ≤ b65 := Nat.le_trans Z60 (Nat.le_of_eq g65.symm)
  have Z65 : n0 ≤ h65.size := Nat.le_trans Z60 E65.1
  have F_72 : Fld Z h65 b65 "com/example/berthline/berthline/model/Resources" "cores" "J" (.long (0 : Int64)) := D65 (Or.inr (hw _ (List.mem_of_getElem? (i := 28) rfl))) (ty := .long) (by decide)
  have F_73 : Fld Z h65 b65 "com/example/berthline/berthline/model/Resources" "memory" "J" (.long (0 : Int64)) := D65 (Or.inr (hw _ (List.mem_of_getElem? (i := 30) rfl))) (ty := .long) (by decide)
  have F_74 : Fld Z h65 b65 "com/example/berthline/berthline/model/Resources" "disk" "J" (.long (0 : Int64)) := D65 (Or.inr (hw _ (List.mem_of_getElem? (i := 32) rfl))) (ty := .long) (by decide)
  obtain ⟨_, _, ⟨T75, L75, k75, n75⟩, -, X75, ⟨Lc75, hQ75, l75, y75, z75⟩, st75⟩ := X65.specialBack hx (y := (⟨"com/example/berthline/berthline/model/Resources", "<init>", "(JJJ)V"⟩ : MethodName)) rfl hown (mvT hZ (hw _ (List.mem_of_getElem? (i := 16) rfl))) (mvT hZ (hw _ (List.mem_of_getElem? (i := 17) rfl))) (mvT hZ (hw _ (List.mem_of_getElem? (i := 18) rfl))) (by decide) (backOf (W := 1) (rm4 l Z a0 hw [] b65 (ff_56 0) (ff_57 0) (ff_60 0) h65 n0 Z65 A65 F_72 F_73 F_74 ge_b65 G56_3.1 G57_3.1 G60_3.1) hZ (hw _ (List.mem_of_getElem? (i := 18) rfl)) (hw _ (List.mem_of_getElem? (i := 15) rfl)) (by decide) (by decide)) (g := (mkF m 41 #[.val (.long q0), .second, .val (.long q1), .second, .val (.long q2), .second, .val (.long q3), .second, .val (.long q4), .second, .val (.long q5), .second, .val (.ref bb_56), .val (.ref bb_57), .val (.ref bb_60), .unset, .unset, .unset] [(.long (ff_60 0)), (.long (ff_57 0)), (.long (ff_56 0)), (.ref b65), (.ref b65)])) rfl (by rw [hml]; rfl) (Steps.refl _) (a := b65) (argsL := [(.long (ff_56 0)), (.long (ff_57 0)), (.long (ff_60 0))]) (rest := [(.ref b65)]) (lenOf pd_241823 rfl) rfl (by show 2 * 0 + _ ≤ _; exact Nat.le_of_eq rfl) (hb hby at_41) (fun _ _ => ⟨rfl, e65, (by decide : 4 + 0 ≤ _), (by decide : 12 + 0 ≤ _)⟩)
  dsimp only [Pt.U, Pt.locs, Pt.cells, Pt.slots] at X75 l75 y75 z75 st75 hQ75
  subst l75 y75 z75
  obtain ⟨rfl, N75q, K75c, G75_0, G75_1, G75_2, G75_3⟩ := hQ75
  have N75 := Fr.app N60 N75q
  have V_76 := V_69.keep K75c (ninS ne_66 nin0)
  have V_77 := V_70.keep K75c (ninS ne_67 nin0)
  have V_78 := V_71.keep K75c (ninS ne_68 nin0)
  have E_79 := A65.keep K75c
  have Z75 : n0 ≤ T75.heap.size := Nat.le_trans Z65 K75c.1
  obtain ⟨T80, h80, X80, e80, E80, A80, D80, -, st80⟩ := newO X75 hx hZ hown (hw _ (List.mem_of_getElem? (i := 13) rfl)) (hw _ (List.mem_of_getElem? (i := 14) rfl)) (hw _ (List.mem_of_getElem? (i := 15) rfl)) rfl (g := (mkF m 46 #[.val (.long q0), .second, .val (.long q1), .second, .val (.long q2), .second, .val (.long q3), .second, .val (.long q4), .second, .val (.long q5), .second, .val (.ref bb_56), .val (.ref bb_57), .val (.ref bb_60), .val (.ref b65), .unset, .unset] [])) rfl (hb hby at_46) (by decide) (by decide)
  obtain ⟨b80, g80⟩ : ∃ z, z = T75.heap.size := ⟨_, rfl⟩
  rw [← g80] at A80 D80 st80
  have ne_81 : bb_56 ≠ b80 := Nat.ne_of_lt (Nat.lt_of_lt_of_le V_76.lt (Nat.le_of_eq g80.symm))
  have ne_82 : bb_57 ≠ b80 := Nat.ne_of_lt (Nat.lt_of_lt_of_le V_77.lt (Nat.le_of_eq g80.symm))
  have ne_83 : bb_60 ≠ b80 := Nat.ne_of_lt (Nat.lt_of_lt_of_le V_78.lt (Nat.le_of_eq g80.symm))
  have ne_84 : b65 ≠ b80 := Nat.ne_of_lt (Nat.lt_of_lt_of_le E_79.lt (Nat.le_of_eq g80.symm))
  have V_85 := V_76.ext E80
  have V_86 := V_77.ext E80
  have V_87 := V_78.ext E80
  have E_88 := E_79.ext E80
  have E_89 := G75_0.ext E80
  have F_90 := G75_1.ext E80
  have F_91 := G75_2.ext E80
  have F_92 := G75_3.ext E80
  have ge_b80 : n0 ≤ b80 := Nat.le_trans Z75 (Nat.le_of_eq g80.symm)
  have Z80 : n0 ≤ h80.size := Nat.le_trans Z75 E80.1
  have F_93 : Fld Z h80 b80 "com/example/berthline/berthline/model/Resources" "cores" "J" (.long (0 : Int64)) := D80 (Or.inr (hw _ (List.mem_of_getElem? (i := 28) rfl))) (ty := .long) (by decide)
  have F_94 : Fld Z h80 b80 "com/example/berthline/berthline/model/Resources" "memory" "J" (.long (0 : Int64)) := D80 (Or.inr (hw _ (List.mem_of_getElem? (i := 30) rfl))) (ty := .long) (by decide)
  have F_95 : Fld Z h80 b80 "com/example/berthline/berthline/model/Resources" "disk" "J" (.long (0 : Int64)) := D80 (Or.inr (hw _ (List.mem_of_getElem? (i := 32) rfl))) (ty := .long) (by decide)
  obtain ⟨_, _, ⟨T96, L96, k96, n96⟩, -, X96, ⟨Lc96, hQ96, l96, y96, z96⟩, st96⟩ := X80.specialBack hx (y := (⟨"com/example/berthline/berthline/model/Resources", "<init>", "(JJJ)V"⟩ : MethodName)) rfl hown (mvT hZ (hw _ (List.mem_of_getElem? (i := 16) rfl))) (mvT hZ (hw _ (List.mem_of_getElem? (i := 17) rfl))) (mvT hZ (hw _ (List.mem_of_getElem? (i := 18) rfl))) (by decide) (backOf (W := 1) (rm4 l Z a0 hw [] b80 (ff_56 1) (ff_57 1) (ff_60 1) h80 n0 Z80 A80 F_93 F_94 F_95 ge_b80 G56_3.2.1 G57_3.2.1 G60_3.2.1) hZ (hw _ (List.mem_of_getElem? (i := 18) rfl)) (hw _ (List.mem_of_getElem? (i := 15) rfl)) (by decide) (by decide)) (g := (mkF m 62 #[.val (.long q0), .second, .val (.long q1), .second, .val (.long q2), .second, .val (.long q3), .second, .val (.long q4), .second, .val (.long q5), .second, .val (.ref bb_56), .val (.ref bb_57), .val (.ref bb_60), .val (.ref b65), .unset, .unset] [(.long (ff_60 1)), (.long (ff_57 1)), (.long (ff_56 1)), (.ref b80), (.ref b80)])) rfl (by rw [hml]; rfl) (Steps.refl _) (a := b80) (argsL := [(.long (ff_56 1)), (.long (ff_57 1)), (.long (ff_60 1))]) (rest := [(.ref b80)]) (lenOf pd_241823 rfl) rfl (by show 2 * 0 + _ ≤ _; exact Nat.le_of_eq rfl) (hb hby at_62) (fun _ _ => ⟨rfl, e80, (by decide : 5 + 0 ≤ _), (by decide : 15 + 0 ≤ _)⟩)
  dsimp only [Pt.U, Pt.locs, Pt.cells, Pt.slots] at X96 l96 y96 z96 st96 hQ96
  subst l96 y96 z96
  obtain ⟨rfl, N96q, K96c, G96_0, G96_1, G96_2, G96_3⟩ := hQ96
  have N96 := Fr.app N75 N96q
  have V_97 := V_85.keep K96c (ninS ne_81 nin0)
  have V_98 := V_86.keep K96c (ninS ne_82 nin0)
  have V_99 := V_87.keep K96c (ninS ne_83 nin0)
  have E_100 := E_88.keep K96c
  have E_101 := E_89.keep K96c
  have F_102 := F_90.keep K96c (ninS ne_84 nin0)
  have F_103 := F_91.keep K96c (ninS ne_84 nin0)
  have F_104 := F_92.keep K96c (ninS ne_84 nin0)
  have E_105 := A80.keep K96c
  have Z96 : n0 ≤ T96.heap.size := Nat.le_trans Z80 K96c.1
  have jn111 : ∀ t, Steps p.tables e below (T96.setTop (mkF m 99 #[.val (.long q0), .second, .val (.long q1), .second, .val (.long q2), .second, .val (.long q3), .second, .val (.long q4), .second, .val (.long q5), .second, .val (.ref bb_56), .val (.ref bb_57), .val (.ref bb_60), .val (.ref b65), .val (.ref b80), .unset] [(.int (if (lcmpW (ff_56 2) (1 : Int64)) = (0 : Int32) then (if (lcmpW (ff_57 2) (1 : Int64)) = (0 : Int32) then (if (lcmpW (ff_60 2) (1 : Int64)) = (0 : Int32) then (1 : Int32) else (0 : Int32)) else (0 : Int32)) else (0 : Int32)))])) t → Steps p.tables e below (T96.setTop (mkF m 73 #[.val (.long q0), .second, .val (.long q1), .second, .val (.long q2), .second, .val (.long q3), .second, .val (.long q4), .second, .val (.long q5), .second, .val (.ref bb_56), .val (.ref bb_57), .val (.ref bb_60), .val (.ref b65), .val (.ref b80), .unset] [(.int (lcmpW (ff_56 2) (1 : Int64)))])) t := by
    intro t kt
    by_cases hc106 : (lcmpW (ff_56 2) (1 : Int64)) = (0 : Int32)
    · simp only [if_pos hc106] at kt
      show Steps p.tables e below (T96.setTop (mkF m 73 #[.val (.long q0), .second, .val (.long q1), .second, .val (.long q2), .second, .val (.long q3), .second, .val (.long q4), .second, .val (.long q5), .second, .val (.ref bb_56), .val (.ref bb_57), .val (.ref bb_60), .val (.ref b65), .val (.ref b80), .unset] [(.int (lcmpW (ff_56 2) (1 : Int64)))])) _
      have jn110 : ∀ t, Steps p.tables e below (T96.setTop (mkF m 99 #[.val (.long q0), .second, .val (.long q1), .second, .val (.long q2), .second, .val (.long q3), .second, .val (.long q4), .second, .val (.long q5), .second, .val (.ref bb_56), .val (.ref bb_57), .val (.ref bb_60), .val (.ref b65), .val (.ref b80), .unset] [(.int (if (lcmpW (ff_57 2) (1 : Int64)) = (0 : Int32) then (if (lcmpW (ff_60 2) (1 : Int64)) = (0 : Int32) then (1 : Int32) else (0 : Int32)) else (0 : Int32)))])) t → Steps p.tables e below (T96.setTop (mkF m 82 #[.val (.long q0), .second, .val (.long q1), .second, .val (.long q2), .second, .val (.long q3), .second, .val (.long q4), .second, .val (.long q5), .second, .val (.ref bb_56), .val (.ref bb_57), .val (.ref bb_60), .val (.ref b65), .val (.ref b80), .unset] [(.int (lcmpW (ff_57 2) (1 : Int64)))])) t := by
        intro t kt
        by_cases hc107 : (lcmpW (ff_57 2) (1 : Int64)) = (0 : Int32)
        · simp only [if_pos hc107] at kt
          show Steps p.tables e below (T96.setTop (mkF m 82 #[.val (.long q0), .second, .val (.long q1), .second, .val (.long q2), .second, .val (.long q3), .second, .val (.long q4), .second, .val (.long q5), .second, .val (.ref bb_56), .val (.ref bb_57), .val (.ref bb_60), .val (.ref b65), .val (.ref b80), .unset] [(.int (lcmpW (ff_57 2) (1 : Int64)))])) _
          have jn109 : ∀ t, Steps p.tables e below (T96.setTop (mkF m 99 #[.val (.long q0), .second, .val (.long q1), .second, .val (.long q2), .second, .val (.long q3), .second, .val (.long q4), .second, .val (.long q5), .second, .val (.ref bb_56), .val (.ref bb_57), .val (.ref bb_60), .val (.ref b65), .val (.ref b80), .unset] [(.int (if (lcmpW (ff_60 2) (1 : Int64)) = (0 : Int32) then (1 : Int32) else (0 : Int32)))])) t → Steps p.tables e below (T96.setTop (mkF m 91 #[.val (.long q0), .second, .val (.long q1), .second, .val (.long q2), .second, .val (.long q3), .second, .val (.long q4), .second, .val (.long q5), .second, .val (.ref bb_56), .val (.ref bb_57), .val (.ref bb_60), .val (.ref b65), .val (.ref b80), .unset] [(.int (lcmpW (ff_60 2) (1 : Int64)))])) t := by
            intro t kt
            by_cases hc108 : (lcmpW (ff_60 2) (1 : Int64)) = (0 : Int32)
            · simp only [if_pos hc108] at kt
              show Steps p.tables e below (T96.setTop (mkF m 91 #[.val (.long q0), .second, .val (.long q1), .second, .val (.long q2), .second, .val (.long q3), .second, .val (.long q4), .second, .val (.long q5), .second, .val (.ref bb_56), .val (.ref bb_57), .val (.ref bb_60), .val (.ref b65), .val (.ref b80), .unset] [(.int (lcmpW (ff_60 2) (1 : Int64)))])) _
              refine XS.ifNo X96.here hx rfl (hb hby at_91) rfl ((if0 _ _).trans (teq hc108).2) ?_
              show Steps p.tables e below (T96.setTop (mkF m 94 #[.val (.long q0), .second, .val (.long q1), .second, .val (.long q2), .second, .val (.long q3), .second, .val (.long q4), .second, .val (.long q5), .second, .val (.ref bb_56), .val (.ref bb_57), .val (.ref bb_60), .val (.ref b65), .val (.ref b80), .unset] [])) _
              refine XS.iconst X96.here hx rfl (hb hby at_94) ?_
              show Steps p.tables e below (T96.setTop (mkF m 95 #[.val (.long q0), .second, .val (.long q1), .second, .val (.long q2), .second, .val (.long q3), .second, .val (.long q4), .second, .val (.long q5), .second, .val (.ref bb_56), .val (.ref bb_57), .val (.ref bb_60), .val (.ref b65), .val (.ref b80), .unset] [(.int (1 : Int32))])) _
              refine XS.goto X96.here hx rfl (pc0 := 95) (pc' := 99) rfl (hb hby at_95) (by decide) (by decide) ?_
              exact kt
            · simp only [if_neg hc108] at kt
              show Steps p.tables e below (T96.setTop (mkF m 91 #[.val (.long q0), .second, .val (.long q1), .second, .val (.long q2), .second, .val (.long q3), .second, .val (.long q4), .second, .val (.long q5), .second, .val (.ref bb_56), .val (.ref bb_57), .val (.ref bb_60), .val (.ref b65), .val (.ref b80), .unset] [(.int (lcmpW (ff_60 2) (1 : Int64)))])) _
              refine XS.ifYes X96.here hx rfl (pc0 := 91) (pc' := 98) rfl (hb hby at_91) rfl ((if0 _ _).trans (feq hc108).2) (by decide) (by decide) ?_
              show Steps p.tables e below (T96.setTop (mkF m 98 #[.val (.long q0), .second, .val (.long q1), .second, .val (.long q2), .second, .val (.long q3), .second, .val (.long q4), .second, .val (.long q5), .second, .val (.ref bb_56), .val (.ref bb_57), .val (.ref bb_60), .val (.ref b65), .val (.ref b80), .unset] [])) _
              refine XS.iconst X96.here hx rfl (hb hby at_98) ?_
              exact kt
          refine XS.ifNo X96.here hx rfl (hb hby at_82) rfl ((if0 _ _).trans (teq hc107).2) ?_
          show Steps p.tables e below (T96.setTop (mkF m 85 #[.val (.long q0), .second, .val (.long q1), .second, .val (.long q2), .second, .val (.long q3), .second, .val (.long q4), .second, .val (.long q5), .second, .val (.ref bb_56), .val (.ref bb_57), .val (.ref bb_60), .val (.ref b65), .val (.ref b80), .unset] [])) _
          refine XS.aload X96.here hx rfl (hb hby at_85) rfl rfl ?_
          show Steps p.tables e below (T96.setTop (mkF m 87 #[.val (.long q0), .second, .val (.long q1), .second, .val (.long q2), .second, .val (.long q3), .second, .val (.long q4), .second, .val (.long q5), .second, .val (.ref bb_56), .val (.ref bb_57), .val (.ref bb_60), .val (.ref b65), .val (.ref b80), .unset] [(.ref bb_60)])) _
          refine XS.iconst X96.here hx rfl (hb hby at_87) ?_
          show Steps p.tables e below (T96.setTop (mkF m 88 #[.val (.long q0), .second, .val (.long q1), .second, .val (.long q2), .second, .val (.long q3), .second, .val (.long q4), .second, .val (.long q5), .second, .val (.ref bb_56), .val (.ref bb_57), .val (.ref bb_60), .val (.ref b65), .val (.ref b80), .unset] [(.int (2 : Int32)), (.ref bb_60)])) _
          refine JA.load X96 hx hZ rfl V_99 2 (by decide) (by decide) (by decide) (g := (mkF m 88 #[.val (.long q0), .second, .val (.long q1), .second, .val (.long q2), .second, .val (.long q3), .second, .val (.long q4), .second, .val (.long q5), .second, .val (.ref bb_56), .val (.ref bb_57), .val (.ref bb_60), .val (.ref b65), .val (.ref b80), .unset] [(.int (2 : Int32)), (.ref bb_60)])) rfl rfl (hb hby at_88) _ ?_
          show Steps p.tables e below (T96.setTop (mkF m 89 #[.val (.long q0), .second, .val (.long q1), .second, .val (.long q2), .second, .val (.long q3), .second, .val (.long q4), .second, .val (.long q5), .second, .val (.ref bb_56), .val (.ref bb_57), .val (.ref bb_60), .val (.ref b65), .val (.ref b80), .unset] [(.long (ff_60 2))])) _
          refine XS.lconst X96.here hx rfl (hb hby at_89) ?_
          show Steps p.tables e below (T96.setTop (mkF m 90 #[.val (.long q0), .second, .val (.long q1), .second, .val (.long q2), .second, .val (.long q3), .second, .val (.long q4), .second, .val (.long q5), .second, .val (.ref bb_56), .val (.ref bb_57), .val (.ref bb_60), .val (.ref b65), .val (.ref b80), .unset] [(.long (1 : Int64)), (.long (ff_60 2))])) _
          refine XS.lcmp X96.here hx rfl (hb hby at_90) rfl ?_
          show Steps p.tables e below (T96.setTop (mkF m 91 #[.val (.long q0), .second, .val (.long q1), .second, .val (.long q2), .second, .val (.long q3), .second, .val (.long q4), .second, .val (.long q5), .second, .val (.ref bb_56), .val (.ref bb_57), .val (.ref bb_60), .val (.ref b65), .val (.ref b80), .unset] [(.int (lcmpW (ff_60 2) (1 : Int64)))])) _
          refine jn109 _ ?_
          exact kt
        · simp only [if_neg hc107] at kt
          show Steps p.tables e below (T96.setTop (mkF m 82 #[.val (.long q0), .second, .val (.long q1), .second, .val (.long q2), .second, .val (.long q3), .second, .val (.long q4), .second, .val (.long q5), .second, .val (.ref bb_56), .val (.ref bb_57), .val (.ref bb_60), .val (.ref b65), .val (.ref b80), .unset] [(.int (lcmpW (ff_57 2) (1 : Int64)))])) _
          refine XS.ifYes X96.here hx rfl (pc0 := 82) (pc' := 98) rfl (hb hby at_82) rfl ((if0 _ _).trans (feq hc107).2) (by decide) (by decide) ?_
          show Steps p.tables e below (T96.setTop (mkF m 98 #[.val (.long q0), .second, .val (.long q1), .second, .val (.long q2), .second, .val (.long q3), .second, .val (.long q4), .second, .val (.long q5), .second, .val (.ref bb_56), .val (.ref bb_57), .val (.ref bb_60), .val (.ref b65), .val (.ref b80), .unset] [])) _
          refine XS.iconst X96.here hx rfl (hb hby at_98) ?_
          exact kt
      refine XS.ifNo X96.here hx rfl (hb hby at_73) rfl ((if0 _ _).trans (teq hc106).2) ?_
      show Steps p.tables e below (T96.setTop (mkF m 76 #[.val (.long q0), .second, .val (.long q1), .second, .val (.long q2), .second, .val (.long q3), .second, .val (.long q4), .second, .val (.long q5), .second, .val (.ref bb_56), .val (.ref bb_57), .val (.ref bb_60), .val (.ref b65), .val (.ref b80), .unset] [])) _
      refine XS.aload X96.here hx rfl (hb hby at_76) rfl rfl ?_
      show Steps p.tables e below (T96.setTop (mkF m 78 #[.val (.long q0), .second, .val (.long q1), .second, .val (.long q2), .second, .val (.long q3), .second, .val (.long q4), .second, .val (.long q5), .second, .val (.ref bb_56), .val (.ref bb_57), .val (.ref bb_60), .val (.ref b65), .val (.ref b80), .unset] [(.ref bb_57)])) _
      refine XS.iconst X96.here hx rfl (hb hby at_78) ?_
      show Steps p.tables e below (T96.setTop (mkF m 79 #[.val (.long q0), .second, .val (.long q1), .second, .val (.long q2), .second, .val (.long q3), .second, .val (.long q4), .second, .val (.long q5), .second, .val (.ref bb_56), .val (.ref bb_57), .val (.ref bb_60), .val (.ref b65), .val (.ref b80), .unset] [(.int (2 : Int32)), (.ref bb_57)])) _
      refine JA.load X96 hx hZ rfl V_98 2 (by decide) (by decide) (by decide) (g := (mkF m 79 #[.val (.long q0), .second, .val (.long q1), .second, .val (.long q2), .second, .val (.long q3), .second, .val (.long q4), .second, .val (.long q5), .second, .val (.ref bb_56), .val (.ref bb_57), .val (.ref bb_60), .val (.ref b65), .val (.ref b80), .unset] [(.int (2 : Int32)), (.ref bb_57)])) rfl rfl (hb hby at_79) _ ?_
      show Steps p.tables e below (T96.setTop (mkF m 80 #[.val (.long q0), .second, .val (.long q1), .second, .val (.long q2), .second, .val (.long q3), .second, .val (.long q4), .second, .val (.long q5), .second, .val (.ref bb_56), .val (.ref bb_57), .val (.ref bb_60), .val (.ref b65), .val (.ref b80), .unset] [(.long (ff_57 2))])) _
      refine XS.lconst X96.here hx rfl (hb hby at_80) ?_
      show Steps p.tables e below (T96.setTop (mkF m 81 #[.val (.long q0), .second, .val (.long q1), .second, .val (.long q2), .second, .val (.long q3), .second, .val (.long q4), .second, .val (.long q5), .second, .val (.ref bb_56), .val (.ref bb_57), .val (.ref bb_60), .val (.ref b65), .val (.ref b80), .unset] [(.long (1 : Int64)), (.long (ff_57 2))])) _
      refine XS.lcmp X96.here hx rfl (hb hby at_81) rfl ?_
      show Steps p.tables e below (T96.setTop (mkF m 82 #[.val (.long q0), .second, .val (.long q1), .second, .val (.long q2), .second, .val (.long q3), .second, .val (.long q4), .second, .val (.long q5), .second, .val (.ref bb_56), .val (.ref bb_57), .val (.ref bb_60), .val (.ref b65), .val (.ref b80), .unset] [(.int (lcmpW (ff_57 2) (1 : Int64)))])) _
      refine jn110 _ ?_
      exact kt
    · simp only [if_neg hc106] at kt
      show Steps p.tables e below (T96.setTop (mkF m 73 #[.val (.long q0), .second, .val (.long q1), .second, .val (.long q2), .second, .val (.long q3), .second, .val (.long q4), .second, .val (.long q5), .second, .val (.ref bb_56), .val (.ref bb_57), .val (.ref bb_60), .val (.ref b65), .val (.ref b80), .unset] [(.int (lcmpW (ff_56 2) (1 : Int64)))])) _
      refine XS.ifYes X96.here hx rfl (pc0 := 73) (pc' := 98) rfl (hb hby at_73) rfl ((if0 _ _).trans (feq hc106).2) (by decide) (by decide) ?_
      show Steps p.tables e below (T96.setTop (mkF m 98 #[.val (.long q0), .second, .val (.long q1), .second, .val (.long q2), .second, .val (.long q3), .second, .val (.long q4), .second, .val (.long q5), .second, .val (.ref bb_56), .val (.ref bb_57), .val (.ref bb_60), .val (.ref b65), .val (.ref b80), .unset] [])) _
      refine XS.iconst X96.here hx rfl (hb hby at_98) ?_
      exact kt
  obtain ⟨cq112, kq112, q112a, q112b, q112c⟩ := isOf hZ rfl E_101
  obtain ⟨_, _, ⟨T112, L112, k112, n112⟩, -, X112, ⟨Lc112, hQ112, l112, y112, z112⟩, st112⟩ := X96.virtualBack hx (y := (⟨"com/example/berthline/berthline/model/Resources", "holds", "(Lcom/example/berthline/berthline/model/Resources;)Z"⟩ : MethodName)) (z := (⟨"com/example/berthline/berthline/model/Resources", "holds", "(Lcom/example/berthline/berthline/model/Resources;)Z"⟩ : MethodName)) hown (mvT hZ (hw _ (List.mem_of_getElem? (i := 33) rfl))) (mvT hZ (hw _ (List.mem_of_getElem? (i := 34) rfl))) (notFace_of_selects (args := #[]) (mvT hZ (hw _ (List.mem_of_getElem? (i := 36) rfl)))) (mvT hZ (hw _ (List.mem_of_getElem? (i := 36) rfl))) (mvT hZ (hw _ (List.mem_of_getElem? (i := 35) rfl))) (by decide) (backOf (W := 0) (rm6 l Z a0 hw [] b65 b80 (ff_56 0) (ff_57 0) (ff_60 0) (ff_56 1) (ff_57 1) (ff_60 1) T96.heap n0 Z96 F_102 F_103 F_104 G96_1 G96_2 G96_3) hZ (hw _ (List.mem_of_getElem? (i := 37) rfl)) (hw _ (List.mem_of_getElem? (i := 15) rfl)) (by decide) (by decide)) q112a q112c (g := (mkF m 105 #[.val (.long q0), .second, .val (.long q1), .second, .val (.long q2), .second, .val (.long q3), .second, .val (.long q4), .second, .val (.long q5), .second, .val (.ref bb_56), .val (.ref bb_57), .val (.ref bb_60), .val (.ref b65), .val (.ref b80), .val (.int (if (lcmpW (ff_56 2) (1 : Int64)) = (0 : Int32) then (if (lcmpW (ff_57 2) (1 : Int64)) = (0 : Int32) then (if (lcmpW (ff_60 2) (1 : Int64)) = (0 : Int32) then (1 : Int32) else (0 : Int32)) else (0 : Int32)) else (0 : Int32)))] [(.ref b80), (.ref b65)])) rfl (by rw [hml]; rfl) (Steps.refl _) (argsL := [(.ref b80)]) (rest := []) (lenOf pd_543751 rfl) rfl (by show 2 * 0 + _ ≤ _; exact Nat.le_of_eq rfl) (hb hby at_105) (fun _ _ => ⟨rfl, rfl, (by decide : 5 + 0 ≤ _), (by decide : 15 + 0 ≤ _)⟩)
  dsimp only [Pt.U, Pt.locs, Pt.cells, Pt.slots] at X112 l112 y112 z112 st112 hQ112
  subst l112 y112 z112
  obtain ⟨rfl, N112q, K112c⟩ := hQ112
  have N112 := Fr.app N96 N112q
  obtain ⟨fs, hr, hrun, hended, hW, hsame⟩ := X112.leave (v := some (.int (1 : Int32))) (fun h => by rw [Bd.returns] at h; cases h)
  refine ⟨_, _, pre0 _ ?_, hrun, hended, _, _, rfl, ?_, ⟨_, rfl⟩, hW, hsame.mono (by decide) (by decide)⟩
  · show Steps p.tables e below (s₁.setTop (mkF m 0 #[.val (.long q0), .second, .val (.long q1), .second, .val (.long q2), .second, .val (.long q3), .second, .val (.long q4), .second, .val (.long q5), .second, .unset, .unset, .unset, .unset, .unset, .unset] [])) _
    refine XS.lloadN X0.here hx rfl (hb hby at_0) rfl ?_
    show Steps p.tables e below (s₁.setTop (mkF m 1 #[.val (.long q0), .second, .val (.long q1), .second, .val (.long q2), .second, .val (.long q3), .second, .val (.long q4), .second, .val (.long q5), .second, .unset, .unset, .unset, .unset, .unset, .unset] [(.long q0)])) _
    refine XS.lloadN X0.here hx rfl (hb hby at_1) rfl ?_
    show Steps p.tables e below (s₁.setTop (mkF m 2 #[.val (.long q0), .second, .val (.long q1), .second, .val (.long q2), .second, .val (.long q3), .second, .val (.long q4), .second, .val (.long q5), .second, .unset, .unset, .unset, .unset, .unset, .unset] [(.long q1), (.long q0)])) _
    refine st56 _ ?_
    show Steps p.tables e below (T56.setTop (mkF m 5 #[.val (.long q0), .second, .val (.long q1), .second, .val (.long q2), .second, .val (.long q3), .second, .val (.long q4), .second, .val (.long q5), .second, .unset, .unset, .unset, .unset, .unset, .unset] [(.ref bb_56)])) _
    refine XS.astore X56.here hx rfl (hb hby at_5) rfl rfl (l' := #[.val (.long q0), .second, .val (.long q1), .second, .val (.long q2), .second, .val (.long q3), .second, .val (.long q4), .second, .val (.long q5), .second, .val (.ref bb_56), .unset, .unset, .unset, .unset, .unset]) rfl ?_
    show Steps p.tables e below (T56.setTop (mkF m 7 #[.val (.long q0), .second, .val (.long q1), .second, .val (.long q2), .second, .val (.long q3), .second, .val (.long q4), .second, .val (.long q5), .second, .val (.ref bb_56), .unset, .unset, .unset, .unset, .unset] [])) _
    refine XS.lload X56.here hx rfl (hb hby at_7) rfl ?_
    show Steps p.tables e below (T56.setTop (mkF m 9 #[.val (.long q0), .second, .val (.long q1), .second, .val (.long q2), .second, .val (.long q3), .second, .val (.long q4), .second, .val (.long q5), .second, .val (.ref bb_56), .unset, .unset, .unset, .unset, .unset] [(.long q2)])) _
    refine XS.lload X56.here hx rfl (hb hby at_9) rfl ?_
    show Steps p.tables e below (T56.setTop (mkF m 11 #[.val (.long q0), .second, .val (.long q1), .second, .val (.long q2), .second, .val (.long q3), .second, .val (.long q4), .second, .val (.long q5), .second, .val (.ref bb_56), .unset, .unset, .unset, .unset, .unset] [(.long q3), (.long q2)])) _
    refine st57 _ ?_
    show Steps p.tables e below (T57.setTop (mkF m 14 #[.val (.long q0), .second, .val (.long q1), .second, .val (.long q2), .second, .val (.long q3), .second, .val (.long q4), .second, .val (.long q5), .second, .val (.ref bb_56), .unset, .unset, .unset, .unset, .unset] [(.ref bb_57)])) _
    refine XS.astore X57.here hx rfl (hb hby at_14) rfl rfl (l' := #[.val (.long q0), .second, .val (.long q1), .second, .val (.long q2), .second, .val (.long q3), .second, .val (.long q4), .second, .val (.long q5), .second, .val (.ref bb_56), .val (.ref bb_57), .unset, .unset, .unset, .unset]) rfl ?_
    show Steps p.tables e below (T57.setTop (mkF m 16 #[.val (.long q0), .second, .val (.long q1), .second, .val (.long q2), .second, .val (.long q3), .second, .val (.long q4), .second, .val (.long q5), .second, .val (.ref bb_56), .val (.ref bb_57), .unset, .unset, .unset, .unset] [])) _
    refine XS.lload X57.here hx rfl (hb hby at_16) rfl ?_
    show Steps p.tables e below (T57.setTop (mkF m 18 #[.val (.long q0), .second, .val (.long q1), .second, .val (.long q2), .second, .val (.long q3), .second, .val (.long q4), .second, .val (.long q5), .second, .val (.ref bb_56), .val (.ref bb_57), .unset, .unset, .unset, .unset] [(.long q4)])) _
    refine XS.lload X57.here hx rfl (hb hby at_18) rfl ?_
    show Steps p.tables e below (T57.setTop (mkF m 20 #[.val (.long q0), .second, .val (.long q1), .second, .val (.long q2), .second, .val (.long q3), .second, .val (.long q4), .second, .val (.long q5), .second, .val (.ref bb_56), .val (.ref bb_57), .unset, .unset, .unset, .unset] [(.long q5), (.long q4)])) _
    refine st60 _ ?_
    show Steps p.tables e below (T60.setTop (mkF m 23 #[.val (.long q0), .second, .val (.long q1), .second, .val (.long q2), .second, .val (.long q3), .second, .val (.long q4), .second, .val (.long q5), .second, .val (.ref bb_56), .val (.ref bb_57), .unset, .unset, .unset, .unset] [(.ref bb_60)])) _
    refine XS.astore X60.here hx rfl (hb hby at_23) rfl rfl (l' := #[.val (.long q0), .second, .val (.long q1), .second, .val (.long q2), .second, .val (.long q3), .second, .val (.long q4), .second, .val (.long q5), .second, .val (.ref bb_56), .val (.ref bb_57), .val (.ref bb_60), .unset, .unset, .unset]) rfl ?_
    show Steps p.tables e below (T60.setTop (mkF m 25 #[.val (.long q0), .second, .val (.long q1), .second, .val (.long q2), .second, .val (.long q3), .second, .val (.long q4), .second, .val (.long q5), .second, .val (.ref bb_56), .val (.ref bb_57), .val (.ref bb_60), .unset, .unset, .unset] [])) _
    refine st65 _ ?_
    show Steps p.tables e below (T65.setTop (mkF m 28 #[.val (.long q0), .second, .val (.long q1), .second, .val (.long q2), .second, .val (.long q3), .second, .val (.long q4), .second, .val (.long q5), .second, .val (.ref bb_56), .val (.ref bb_57), .val (.ref bb_60), .unset, .unset, .unset] [(.ref b65)])) _
    refine XS.dup X65.here hx rfl (hb hby at_28) rfl rfl ?_
    show Steps p.tables e below (T65.setTop (mkF m 29 #[.val (.long q0), .second, .val (.long q1), .second, .val (.long q2), .second, .val (.long q3), .second, .val (.long q4), .second, .val (.long q5), .second, .val (.ref bb_56), .val (.ref bb_57), .val (.ref bb_60), .unset, .unset, .unset] [(.ref b65), (.ref b65)])) _
    refine XS.aload X65.here hx rfl (hb hby at_29) rfl rfl ?_
    show Steps p.tables e below (T65.setTop (mkF m 31 #[.val (.long q0), .second, .val (.long q1), .second, .val (.long q2), .second, .val (.long q3), .second, .val (.long q4), .second, .val (.long q5), .second, .val (.ref bb_56), .val (.ref bb_57), .val (.ref bb_60), .unset, .unset, .unset] [(.ref bb_56), (.ref b65), (.ref b65)])) _
    refine XS.iconst X65.here hx rfl (hb hby at_31) ?_
    show Steps p.tables e below (T65.setTop (mkF m 32 #[.val (.long q0), .second, .val (.long q1), .second, .val (.long q2), .second, .val (.long q3), .second, .val (.long q4), .second, .val (.long q5), .second, .val (.ref bb_56), .val (.ref bb_57), .val (.ref bb_60), .unset, .unset, .unset] [(.int (0 : Int32)), (.ref bb_56), (.ref b65), (.ref b65)])) _
    refine JA.load X65 hx hZ e65 V_69 0 (by decide) (by decide) (by decide) (g := (mkF m 32 #[.val (.long q0), .second, .val (.long q1), .second, .val (.long q2), .second, .val (.long q3), .second, .val (.long q4), .second, .val (.long q5), .second, .val (.ref bb_56), .val (.ref bb_57), .val (.ref bb_60), .unset, .unset, .unset] [(.int (0 : Int32)), (.ref bb_56), (.ref b65), (.ref b65)])) rfl rfl (hb hby at_32) _ ?_
    show Steps p.tables e below (T65.setTop (mkF m 33 #[.val (.long q0), .second, .val (.long q1), .second, .val (.long q2), .second, .val (.long q3), .second, .val (.long q4), .second, .val (.long q5), .second, .val (.ref bb_56), .val (.ref bb_57), .val (.ref bb_60), .unset, .unset, .unset] [(.long (ff_56 0)), (.ref b65), (.ref b65)])) _
    refine XS.aload X65.here hx rfl (hb hby at_33) rfl rfl ?_
    show Steps p.tables e below (T65.setTop (mkF m 35 #[.val (.long q0), .second, .val (.long q1), .second, .val (.long q2), .second, .val (.long q3), .second, .val (.long q4), .second, .val (.long q5), .second, .val (.ref bb_56), .val (.ref bb_57), .val (.ref bb_60), .unset, .unset, .unset] [(.ref bb_57), (.long (ff_56 0)), (.ref b65), (.ref b65)])) _
    refine XS.iconst X65.here hx rfl (hb hby at_35) ?_
    show Steps p.tables e below (T65.setTop (mkF m 36 #[.val (.long q0), .second, .val (.long q1), .second, .val (.long q2), .second, .val (.long q3), .second, .val (.long q4), .second, .val (.long q5), .second, .val (.ref bb_56), .val (.ref bb_57), .val (.ref bb_60), .unset, .unset, .unset] [(.int (0 : Int32)), (.ref bb_57), (.long (ff_56 0)), (.ref b65), (.ref b65)])) _
    refine JA.load X65 hx hZ e65 V_70 0 (by decide) (by decide) (by decide) (g := (mkF m 36 #[.val (.long q0), .second, .val (.long q1), .second, .val (.long q2), .second, .val (.long q3), .second, .val (.long q4), .second, .val (.long q5), .second, .val (.ref bb_56), .val (.ref bb_57), .val (.ref bb_60), .unset, .unset, .unset] [(.int (0 : Int32)), (.ref bb_57), (.long (ff_56 0)), (.ref b65), (.ref b65)])) rfl rfl (hb hby at_36) _ ?_
    show Steps p.tables e below (T65.setTop (mkF m 37 #[.val (.long q0), .second, .val (.long q1), .second, .val (.long q2), .second, .val (.long q3), .second, .val (.long q4), .second, .val (.long q5), .second, .val (.ref bb_56), .val (.ref bb_57), .val (.ref bb_60), .unset, .unset, .unset] [(.long (ff_57 0)), (.long (ff_56 0)), (.ref b65), (.ref b65)])) _
    refine XS.aload X65.here hx rfl (hb hby at_37) rfl rfl ?_
    show Steps p.tables e below (T65.setTop (mkF m 39 #[.val (.long q0), .second, .val (.long q1), .second, .val (.long q2), .second, .val (.long q3), .second, .val (.long q4), .second, .val (.long q5), .second, .val (.ref bb_56), .val (.ref bb_57), .val (.ref bb_60), .unset, .unset, .unset] [(.ref bb_60), (.long (ff_57 0)), (.long (ff_56 0)), (.ref b65), (.ref b65)])) _
    refine XS.iconst X65.here hx rfl (hb hby at_39) ?_
    show Steps p.tables e below (T65.setTop (mkF m 40 #[.val (.long q0), .second, .val (.long q1), .second, .val (.long q2), .second, .val (.long q3), .second, .val (.long q4), .second, .val (.long q5), .second, .val (.ref bb_56), .val (.ref bb_57), .val (.ref bb_60), .unset, .unset, .unset] [(.int (0 : Int32)), (.ref bb_60), (.long (ff_57 0)), (.long (ff_56 0)), (.ref b65), (.ref b65)])) _
    refine JA.load X65 hx hZ e65 V_71 0 (by decide) (by decide) (by decide) (g := (mkF m 40 #[.val (.long q0), .second, .val (.long q1), .second, .val (.long q2), .second, .val (.long q3), .second, .val (.long q4), .second, .val (.long q5), .second, .val (.ref bb_56), .val (.ref bb_57), .val (.ref bb_60), .unset, .unset, .unset] [(.int (0 : Int32)), (.ref bb_60), (.long (ff_57 0)), (.long (ff_56 0)), (.ref b65), (.ref b65)])) rfl rfl (hb hby at_40) _ ?_
    show Steps p.tables e below (T65.setTop (mkF m 41 #[.val (.long q0), .second, .val (.long q1), .second, .val (.long q2), .second, .val (.long q3), .second, .val (.long q4), .second, .val (.long q5), .second, .val (.ref bb_56), .val (.ref bb_57), .val (.ref bb_60), .unset, .unset, .unset] [(.long (ff_60 0)), (.long (ff_57 0)), (.long (ff_56 0)), (.ref b65), (.ref b65)])) _
    refine st75.trans ?_
    show Steps p.tables e below (T75.setTop (mkF m 44 #[.val (.long q0), .second, .val (.long q1), .second, .val (.long q2), .second, .val (.long q3), .second, .val (.long q4), .second, .val (.long q5), .second, .val (.ref bb_56), .val (.ref bb_57), .val (.ref bb_60), .unset, .unset, .unset] [(.ref b65)])) _
    refine XS.astore X75.here hx rfl (hb hby at_44) rfl rfl (l' := #[.val (.long q0), .second, .val (.long q1), .second, .val (.long q2), .second, .val (.long q3), .second, .val (.long q4), .second, .val (.long q5), .second, .val (.ref bb_56), .val (.ref bb_57), .val (.ref bb_60), .val (.ref b65), .unset, .unset]) rfl ?_
    show Steps p.tables e below (T75.setTop (mkF m 46 #[.val (.long q0), .second, .val (.long q1), .second, .val (.long q2), .second, .val (.long q3), .second, .val (.long q4), .second, .val (.long q5), .second, .val (.ref bb_56), .val (.ref bb_57), .val (.ref bb_60), .val (.ref b65), .unset, .unset] [])) _
    refine st80 _ ?_
    show Steps p.tables e below (T80.setTop (mkF m 49 #[.val (.long q0), .second, .val (.long q1), .second, .val (.long q2), .second, .val (.long q3), .second, .val (.long q4), .second, .val (.long q5), .second, .val (.ref bb_56), .val (.ref bb_57), .val (.ref bb_60), .val (.ref b65), .unset, .unset] [(.ref b80)])) _
    refine XS.dup X80.here hx rfl (hb hby at_49) rfl rfl ?_
    show Steps p.tables e below (T80.setTop (mkF m 50 #[.val (.long q0), .second, .val (.long q1), .second, .val (.long q2), .second, .val (.long q3), .second, .val (.long q4), .second, .val (.long q5), .second, .val (.ref bb_56), .val (.ref bb_57), .val (.ref bb_60), .val (.ref b65), .unset, .unset] [(.ref b80), (.ref b80)])) _
    refine XS.aload X80.here hx rfl (hb hby at_50) rfl rfl ?_
    show Steps p.tables e below (T80.setTop (mkF m 52 #[.val (.long q0), .second, .val (.long q1), .second, .val (.long q2), .second, .val (.long q3), .second, .val (.long q4), .second, .val (.long q5), .second, .val (.ref bb_56), .val (.ref bb_57), .val (.ref bb_60), .val (.ref b65), .unset, .unset] [(.ref bb_56), (.ref b80), (.ref b80)])) _
    refine XS.iconst X80.here hx rfl (hb hby at_52) ?_
    show Steps p.tables e below (T80.setTop (mkF m 53 #[.val (.long q0), .second, .val (.long q1), .second, .val (.long q2), .second, .val (.long q3), .second, .val (.long q4), .second, .val (.long q5), .second, .val (.ref bb_56), .val (.ref bb_57), .val (.ref bb_60), .val (.ref b65), .unset, .unset] [(.int (1 : Int32)), (.ref bb_56), (.ref b80), (.ref b80)])) _
    refine JA.load X80 hx hZ e80 V_85 1 (by decide) (by decide) (by decide) (g := (mkF m 53 #[.val (.long q0), .second, .val (.long q1), .second, .val (.long q2), .second, .val (.long q3), .second, .val (.long q4), .second, .val (.long q5), .second, .val (.ref bb_56), .val (.ref bb_57), .val (.ref bb_60), .val (.ref b65), .unset, .unset] [(.int (1 : Int32)), (.ref bb_56), (.ref b80), (.ref b80)])) rfl rfl (hb hby at_53) _ ?_
    show Steps p.tables e below (T80.setTop (mkF m 54 #[.val (.long q0), .second, .val (.long q1), .second, .val (.long q2), .second, .val (.long q3), .second, .val (.long q4), .second, .val (.long q5), .second, .val (.ref bb_56), .val (.ref bb_57), .val (.ref bb_60), .val (.ref b65), .unset, .unset] [(.long (ff_56 1)), (.ref b80), (.ref b80)])) _
    refine XS.aload X80.here hx rfl (hb hby at_54) rfl rfl ?_
    show Steps p.tables e below (T80.setTop (mkF m 56 #[.val (.long q0), .second, .val (.long q1), .second, .val (.long q2), .second, .val (.long q3), .second, .val (.long q4), .second, .val (.long q5), .second, .val (.ref bb_56), .val (.ref bb_57), .val (.ref bb_60), .val (.ref b65), .unset, .unset] [(.ref bb_57), (.long (ff_56 1)), (.ref b80), (.ref b80)])) _
    refine XS.iconst X80.here hx rfl (hb hby at_56) ?_
    show Steps p.tables e below (T80.setTop (mkF m 57 #[.val (.long q0), .second, .val (.long q1), .second, .val (.long q2), .second, .val (.long q3), .second, .val (.long q4), .second, .val (.long q5), .second, .val (.ref bb_56), .val (.ref bb_57), .val (.ref bb_60), .val (.ref b65), .unset, .unset] [(.int (1 : Int32)), (.ref bb_57), (.long (ff_56 1)), (.ref b80), (.ref b80)])) _
    refine JA.load X80 hx hZ e80 V_86 1 (by decide) (by decide) (by decide) (g := (mkF m 57 #[.val (.long q0), .second, .val (.long q1), .second, .val (.long q2), .second, .val (.long q3), .second, .val (.long q4), .second, .val (.long q5), .second, .val (.ref bb_56), .val (.ref bb_57), .val (.ref bb_60), .val (.ref b65), .unset, .unset] [(.int (1 : Int32)), (.ref bb_57), (.long (ff_56 1)), (.ref b80), (.ref b80)])) rfl rfl (hb hby at_57) _ ?_
    show Steps p.tables e below (T80.setTop (mkF m 58 #[.val (.long q0), .second, .val (.long q1), .second, .val (.long q2), .second, .val (.long q3), .second, .val (.long q4), .second, .val (.long q5), .second, .val (.ref bb_56), .val (.ref bb_57), .val (.ref bb_60), .val (.ref b65), .unset, .unset] [(.long (ff_57 1)), (.long (ff_56 1)), (.ref b80), (.ref b80)])) _
    refine XS.aload X80.here hx rfl (hb hby at_58) rfl rfl ?_
    show Steps p.tables e below (T80.setTop (mkF m 60 #[.val (.long q0), .second, .val (.long q1), .second, .val (.long q2), .second, .val (.long q3), .second, .val (.long q4), .second, .val (.long q5), .second, .val (.ref bb_56), .val (.ref bb_57), .val (.ref bb_60), .val (.ref b65), .unset, .unset] [(.ref bb_60), (.long (ff_57 1)), (.long (ff_56 1)), (.ref b80), (.ref b80)])) _
    refine XS.iconst X80.here hx rfl (hb hby at_60) ?_
    show Steps p.tables e below (T80.setTop (mkF m 61 #[.val (.long q0), .second, .val (.long q1), .second, .val (.long q2), .second, .val (.long q3), .second, .val (.long q4), .second, .val (.long q5), .second, .val (.ref bb_56), .val (.ref bb_57), .val (.ref bb_60), .val (.ref b65), .unset, .unset] [(.int (1 : Int32)), (.ref bb_60), (.long (ff_57 1)), (.long (ff_56 1)), (.ref b80), (.ref b80)])) _
    refine JA.load X80 hx hZ e80 V_87 1 (by decide) (by decide) (by decide) (g := (mkF m 61 #[.val (.long q0), .second, .val (.long q1), .second, .val (.long q2), .second, .val (.long q3), .second, .val (.long q4), .second, .val (.long q5), .second, .val (.ref bb_56), .val (.ref bb_57), .val (.ref bb_60), .val (.ref b65), .unset, .unset] [(.int (1 : Int32)), (.ref bb_60), (.long (ff_57 1)), (.long (ff_56 1)), (.ref b80), (.ref b80)])) rfl rfl (hb hby at_61) _ ?_
    show Steps p.tables e below (T80.setTop (mkF m 62 #[.val (.long q0), .second, .val (.long q1), .second, .val (.long q2), .second, .val (.long q3), .second, .val (.long q4), .second, .val (.long q5), .second, .val (.ref bb_56), .val (.ref bb_57), .val (.ref bb_60), .val (.ref b65), .unset, .unset] [(.long (ff_60 1)), (.long (ff_57 1)), (.long (ff_56 1)), (.ref b80), (.ref b80)])) _
    refine st96.trans ?_
    show Steps p.tables e below (T96.setTop (mkF m 65 #[.val (.long q0), .second, .val (.long q1), .second, .val (.long q2), .second, .val (.long q3), .second, .val (.long q4), .second, .val (.long q5), .second, .val (.ref bb_56), .val (.ref bb_57), .val (.ref bb_60), .val (.ref b65), .unset, .unset] [(.ref b80)])) _
    refine XS.astore X96.here hx rfl (hb hby at_65) rfl rfl (l' := #[.val (.long q0), .second, .val (.long q1), .second, .val (.long q2), .second, .val (.long q3), .second, .val (.long q4), .second, .val (.long q5), .second, .val (.ref bb_56), .val (.ref bb_57), .val (.ref bb_60), .val (.ref b65), .val (.ref b80), .unset]) rfl ?_
    show Steps p.tables e below (T96.setTop (mkF m 67 #[.val (.long q0), .second, .val (.long q1), .second, .val (.long q2), .second, .val (.long q3), .second, .val (.long q4), .second, .val (.long q5), .second, .val (.ref bb_56), .val (.ref bb_57), .val (.ref bb_60), .val (.ref b65), .val (.ref b80), .unset] [])) _
    refine XS.aload X96.here hx rfl (hb hby at_67) rfl rfl ?_
    show Steps p.tables e below (T96.setTop (mkF m 69 #[.val (.long q0), .second, .val (.long q1), .second, .val (.long q2), .second, .val (.long q3), .second, .val (.long q4), .second, .val (.long q5), .second, .val (.ref bb_56), .val (.ref bb_57), .val (.ref bb_60), .val (.ref b65), .val (.ref b80), .unset] [(.ref bb_56)])) _
    refine XS.iconst X96.here hx rfl (hb hby at_69) ?_
    show Steps p.tables e below (T96.setTop (mkF m 70 #[.val (.long q0), .second, .val (.long q1), .second, .val (.long q2), .second, .val (.long q3), .second, .val (.long q4), .second, .val (.long q5), .second, .val (.ref bb_56), .val (.ref bb_57), .val (.ref bb_60), .val (.ref b65), .val (.ref b80), .unset] [(.int (2 : Int32)), (.ref bb_56)])) _
    refine JA.load X96 hx hZ rfl V_97 2 (by decide) (by decide) (by decide) (g := (mkF m 70 #[.val (.long q0), .second, .val (.long q1), .second, .val (.long q2), .second, .val (.long q3), .second, .val (.long q4), .second, .val (.long q5), .second, .val (.ref bb_56), .val (.ref bb_57), .val (.ref bb_60), .val (.ref b65), .val (.ref b80), .unset] [(.int (2 : Int32)), (.ref bb_56)])) rfl rfl (hb hby at_70) _ ?_
    show Steps p.tables e below (T96.setTop (mkF m 71 #[.val (.long q0), .second, .val (.long q1), .second, .val (.long q2), .second, .val (.long q3), .second, .val (.long q4), .second, .val (.long q5), .second, .val (.ref bb_56), .val (.ref bb_57), .val (.ref bb_60), .val (.ref b65), .val (.ref b80), .unset] [(.long (ff_56 2))])) _
    refine XS.lconst X96.here hx rfl (hb hby at_71) ?_
    show Steps p.tables e below (T96.setTop (mkF m 72 #[.val (.long q0), .second, .val (.long q1), .second, .val (.long q2), .second, .val (.long q3), .second, .val (.long q4), .second, .val (.long q5), .second, .val (.ref bb_56), .val (.ref bb_57), .val (.ref bb_60), .val (.ref b65), .val (.ref b80), .unset] [(.long (1 : Int64)), (.long (ff_56 2))])) _
    refine XS.lcmp X96.here hx rfl (hb hby at_72) rfl ?_
    show Steps p.tables e below (T96.setTop (mkF m 73 #[.val (.long q0), .second, .val (.long q1), .second, .val (.long q2), .second, .val (.long q3), .second, .val (.long q4), .second, .val (.long q5), .second, .val (.ref bb_56), .val (.ref bb_57), .val (.ref bb_60), .val (.ref b65), .val (.ref b80), .unset] [(.int (lcmpW (ff_56 2) (1 : Int64)))])) _
    refine jn111 _ ?_
    show Steps p.tables e below (T96.setTop (mkF m 99 #[.val (.long q0), .second, .val (.long q1), .second, .val (.long q2), .second, .val (.long q3), .second, .val (.long q4), .second, .val (.long q5), .second, .val (.ref bb_56), .val (.ref bb_57), .val (.ref bb_60), .val (.ref b65), .val (.ref b80), .unset] [(.int (if (lcmpW (ff_56 2) (1 : Int64)) = (0 : Int32) then (if (lcmpW (ff_57 2) (1 : Int64)) = (0 : Int32) then (if (lcmpW (ff_60 2) (1 : Int64)) = (0 : Int32) then (1 : Int32) else (0 : Int32)) else (0 : Int32)) else (0 : Int32)))])) _
    refine XS.istore X96.here hx rfl (hb hby at_99) rfl (l' := #[.val (.long q0), .second, .val (.long q1), .second, .val (.long q2), .second, .val (.long q3), .second, .val (.long q4), .second, .val (.long q5), .second, .val (.ref bb_56), .val (.ref bb_57), .val (.ref bb_60), .val (.ref b65), .val (.ref b80), .val (.int (if (lcmpW (ff_56 2) (1 : Int64)) = (0 : Int32) then (if (lcmpW (ff_57 2) (1 : Int64)) = (0 : Int32) then (if (lcmpW (ff_60 2) (1 : Int64)) = (0 : Int32) then (1 : Int32) else (0 : Int32)) else (0 : Int32)) else (0 : Int32)))]) rfl ?_
    show Steps p.tables e below (T96.setTop (mkF m 101 #[.val (.long q0), .second, .val (.long q1), .second, .val (.long q2), .second, .val (.long q3), .second, .val (.long q4), .second, .val (.long q5), .second, .val (.ref bb_56), .val (.ref bb_57), .val (.ref bb_60), .val (.ref b65), .val (.ref b80), .val (.int (if (lcmpW (ff_56 2) (1 : Int64)) = (0 : Int32) then (if (lcmpW (ff_57 2) (1 : Int64)) = (0 : Int32) then (if (lcmpW (ff_60 2) (1 : Int64)) = (0 : Int32) then (1 : Int32) else (0 : Int32)) else (0 : Int32)) else (0 : Int32)))] [])) _
    refine XS.aload X96.here hx rfl (hb hby at_101) rfl rfl ?_
    show Steps p.tables e below (T96.setTop (mkF m 103 #[.val (.long q0), .second, .val (.long q1), .second, .val (.long q2), .second, .val (.long q3), .second, .val (.long q4), .second, .val (.long q5), .second, .val (.ref bb_56), .val (.ref bb_57), .val (.ref bb_60), .val (.ref b65), .val (.ref b80), .val (.int (if (lcmpW (ff_56 2) (1 : Int64)) = (0 : Int32) then (if (lcmpW (ff_57 2) (1 : Int64)) = (0 : Int32) then (if (lcmpW (ff_60 2) (1 : Int64)) = (0 : Int32) then (1 : Int32) else (0 : Int32)) else (0 : Int32)) else (0 : Int32)))] [(.ref b65)])) _
    refine XS.aload X96.here hx rfl (hb hby at_103) rfl rfl ?_
    show Steps p.tables e below (T96.setTop (mkF m 105 #[.val (.long q0), .second, .val (.long q1), .second, .val (.long q2), .second, .val (.long q3), .second, .val (.long q4), .second, .val (.long q5), .second, .val (.ref bb_56), .val (.ref bb_57), .val (.ref bb_60), .val (.ref b65), .val (.ref b80), .val (.int (if (lcmpW (ff_56 2) (1 : Int64)) = (0 : Int32) then (if (lcmpW (ff_57 2) (1 : Int64)) = (0 : Int32) then (if (lcmpW (ff_60 2) (1 : Int64)) = (0 : Int32) then (1 : Int32) else (0 : Int32)) else (0 : Int32)) else (0 : Int32)))] [(.ref b80), (.ref b65)])) _
    refine st112.trans ?_
    show Steps p.tables e below (T112.setTop (mkF m 108 #[.val (.long q0), .second, .val (.long q1), .second, .val (.long q2), .second, .val (.long q3), .second, .val (.long q4), .second, .val (.long q5), .second, .val (.ref bb_56), .val (.ref bb_57), .val (.ref bb_60), .val (.ref b65), .val (.ref b80), .val (.int (if (lcmpW (ff_56 2) (1 : Int64)) = (0 : Int32) then (if (lcmpW (ff_57 2) (1 : Int64)) = (0 : Int32) then (if (lcmpW (ff_60 2) (1 : Int64)) = (0 : Int32) then (1 : Int32) else (0 : Int32)) else (0 : Int32)) else (0 : Int32)))] [(.int (own_holds (ff_56 0) (ff_57 0) (ff_60 0) (ff_56 1) (ff_57 1) (ff_60 1)))])) _
    refine XS.iload X112.here hx rfl (hb hby at_108) rfl ?_
    show Steps p.tables e below (T112.setTop (mkF m 110 #[.val (.long q0), .second, .val (.long q1), .second, .val (.long q2), .second, .val (.long q3), .second, .val (.long q4), .second, .val (.long q5), .second, .val (.ref bb_56), .val (.ref bb_57), .val (.ref bb_60), .val (.ref b65), .val (.ref b80), .val (.int (if (lcmpW (ff_56 2) (1 : Int64)) = (0 : Int32) then (if (lcmpW (ff_57 2) (1 : Int64)) = (0 : Int32) then (if (lcmpW (ff_60 2) (1 : Int64)) = (0 : Int32) then (1 : Int32) else (0 : Int32)) else (0 : Int32)) else (0 : Int32)))] [(.int (if (lcmpW (ff_56 2) (1 : Int64)) = (0 : Int32) then (if (lcmpW (ff_57 2) (1 : Int64)) = (0 : Int32) then (if (lcmpW (ff_60 2) (1 : Int64)) = (0 : Int32) then (1 : Int32) else (0 : Int32)) else (0 : Int32)) else (0 : Int32))), (.int (own_holds (ff_56 0) (ff_57 0) (ff_60 0) (ff_56 1) (ff_57 1) (ff_60 1)))])) _
    refine XS.icmpNo X112.here hx rfl (hb hby at_110) rfl (teq (own_fin G56_3 G57_3 G60_3)).2 ?_
    show Steps p.tables e below (T112.setTop (mkF m 113 #[.val (.long q0), .second, .val (.long q1), .second, .val (.long q2), .second, .val (.long q3), .second, .val (.long q4), .second, .val (.long q5), .second, .val (.ref bb_56), .val (.ref bb_57), .val (.ref bb_60), .val (.ref b65), .val (.ref b80), .val (.int (if (lcmpW (ff_56 2) (1 : Int64)) = (0 : Int32) then (if (lcmpW (ff_57 2) (1 : Int64)) = (0 : Int32) then (if (lcmpW (ff_60 2) (1 : Int64)) = (0 : Int32) then (1 : Int32) else (0 : Int32)) else (0 : Int32)) else (0 : Int32)))] [])) _
    refine XS.iconst X112.here hx rfl (hb hby at_113) ?_
    show Steps p.tables e below (T112.setTop (mkF m 114 #[.val (.long q0), .second, .val (.long q1), .second, .val (.long q2), .second, .val (.long q3), .second, .val (.long q4), .second, .val (.long q5), .second, .val (.ref bb_56), .val (.ref bb_57), .val (.ref bb_60), .val (.ref b65), .val (.ref b80), .val (.int (if (lcmpW (ff_56 2) (1 : Int64)) = (0 : Int32) then (if (lcmpW (ff_57 2) (1 : Int64)) = (0 : Int32) then (if (lcmpW (ff_60 2) (1 : Int64)) = (0 : Int32) then (1 : Int32) else (0 : Int32)) else (0 : Int32)) else (0 : Int32)))] [(.int (1 : Int32))])) _
    refine XS.goto X112.here hx rfl (pc0 := 114) (pc' := 118) rfl (hb hby at_114) (by decide) (by decide) ?_
    show Steps p.tables e below (T112.setTop (mkF m 118 #[.val (.long q0), .second, .val (.long q1), .second, .val (.long q2), .second, .val (.long q3), .second, .val (.long q4), .second, .val (.long q5), .second, .val (.ref bb_56), .val (.ref bb_57), .val (.ref bb_60), .val (.ref b65), .val (.ref b80), .val (.int (if (lcmpW (ff_56 2) (1 : Int64)) = (0 : Int32) then (if (lcmpW (ff_57 2) (1 : Int64)) = (0 : Int32) then (if (lcmpW (ff_60 2) (1 : Int64)) = (0 : Int32) then (1 : Int32) else (0 : Int32)) else (0 : Int32)) else (0 : Int32)))] [(.int (1 : Int32))])) _
    exact retN X112 hx (t := .boolean) Bd.returns (by simp) (hb hby at_118) hr
  · show Q0 Z q0 q1 q2 q3 q4 q5 h0 n0 _ T112.heap _
    rw [K112c]
    exact ⟨rfl, N112⟩

set_option maxRecDepth 65536 in
set_option maxHeartbeats 40000000 in
theorem comes_1 {Post : Tables → Env → Array Value → State → Outcome → State → Prop} (hpost : ∀ tb e args s v u, (limb_1_1.after args s (.returned v) u = true ∧ limb_1_2.after args s (.returned v) u = true ∧ True) → FrameEnd s (.returned v) u (Jvm.fieldLocs frame_1_writes args s ++ Jvm.arrayLocs frame_1_arrays args s ++ Jvm.staticLocs frame_1_statics s) 24 128 → Post tb e args s (.returned v) u) :
    ArmFor flags0 classFile x code maxLocals ret World_1 tables_1 room_1 Calls_1 rest_1 Pre_1 Post := by
  intro l hfl _ _ p e ha hc hk s m args below hf hA hF happ hP
  obtain ⟨hcalls, hrest, hpre⟩ := hP
  obtain ⟨-, -, -, hnamed, -, -, -, hat⟩ := (Spec.applies_iff hf).mp happ
  obtain ⟨hg, hn⟩ := and_e (Cond.before_iff.mp (show (Jvm.Cond.and given_1 narrow_1).before args s = true from hpre))
  obtain ⟨hcnt, hg0⟩ := and_e hg
  obtain ⟨ha0, hg1⟩ := and_e hg0
  obtain ⟨ha1, hg2⟩ := and_e hg1
  obtain ⟨ha2, hg3⟩ := and_e hg2
  obtain ⟨ha3, hg4⟩ := and_e hg3
  obtain ⟨ha4, hg5⟩ := and_e hg4
  obtain ⟨w0, w1, w2, w3, w4, w5, rfl⟩ : ∃ w0 w1 w2 w3 w4 w5 : Value, args = #[w0, w1, w2, w3, w4, w5] := by
    have hs : args.size = 6 := by simpa [Cond.value, given_1] using hcnt
    obtain ⟨L⟩ := args
    match L, hs with
    | [w0, w1, w2, w3, w4, w5], _ => exact ⟨w0, w1, w2, w3, w4, w5, rfl⟩
  have hw := fun d (hd : d ∈ tables_1) => atoms_spec (ws := Jvm.Cond.code x code maxLocals ret :: tables_1) hat d (List.mem_cons_of_mem _ hd)
  have hfit : Fit s := fun {y c} hc i hi => by
    obtain ⟨ha, rfl⟩ := Array.getElem?_eq_some_iff.mp hc
    have q := List.all_eq_true.mp ((Array.all_eq_true_iff_forall_mem.mp hF) _ (Array.getElem_mem ha)) i (List.mem_range.mpr hi)
    simpa [Array.getElem?_eq_getElem hi] using q
  obtain ⟨i0, ei0⟩ := isL_v ha0
  obtain rfl : w0 = (.long i0) := Option.some.inj ei0
  obtain ⟨i1, ei1⟩ := isL_v ha1
  obtain rfl : w1 = (.long i1) := Option.some.inj ei1
  obtain ⟨i2, ei2⟩ := isL_v ha2
  obtain rfl : w2 = (.long i2) := Option.some.inj ei2
  obtain ⟨i3, ei3⟩ := isL_v ha3
  obtain rfl : w3 = (.long i3) := Option.some.inj ei3
  obtain ⟨i4, ei4⟩ := isL_v ha4
  obtain rfl : w4 = (.long i4) := Option.some.inj ei4
  obtain ⟨i5, ei5⟩ := isL_v hg5
  obtain rfl : w5 = (.long i5) := Option.some.inj ei5
  obtain ⟨n, o, h1, h2, h3, _, L, rfl, ⟨rfl, N⟩, hq⟩ := rm0 l s _ hw tables_1 i0 i1 i2 i3 i4 i5 s.heap s.heap.size (Nat.le_refl _)  p e ha hc hk s m _ below hf ((Spec.applies_iff_loose hf).mp happ).1 ⟨rfl, State.Warmed39.refl s, rfl⟩ trivial
  refine ⟨n, _, h1, h2, h3, hpost _ _ _ _ _ _ ⟨Cond.after_iff.mpr rfl, Cond.after_iff.mpr (eq_i res_at (Term.int_eval (1)) rfl), trivial⟩ ⟨hq.1, hq.2.1, (hq.2.2.sift fun y hy => Or.inr (N y hy)).mono (by decide) (by decide)⟩⟩
theorem main_1_1 : Claimed_1_1 := comes_1 fun _ _ _ _ _ _ h hF => ⟨h.1, hF⟩
theorem main_1_2 : Claimed_1_2 := comes_1 fun _ _ _ _ _ _ h hF => ⟨h.2.1, hF⟩
end Jvm.Pilot.@@N@@
namespace Jvm.Pilot.@@N@@
open Jvm Jvm.ClassFile Sem Op Lib Jvm.Free Jvm.Stand Jvm.Pilot.@@N@@.Jvm.D
/-! MADE BY PROGRAM (witnessworld.py) out of the Statement's table words and the real class files: 13 classes; the members and pool entries that the words name. The judged class is class 1, her method 2. -/
namespace start1
open Jvm.ClassFile
def u (s : String) : CpInfo := .utf8 (stringToUtf16 s)
/-- a pool by its gaps: so many unusable entries, then the entry; so many at the end -/
def gap : Nat → List CpInfo → List CpInfo
  | 0, r => r
  | n + 1, r => .unusable :: gap n r
def poolList (es : List (Nat × CpInfo)) (last : Nat) : List CpInfo := es.foldr (fun e r => gap e.1 (e.2 :: r)) (gap last [])
def pool (es : List (Nat × CpInfo)) (last : Nat) : Array CpInfo := ⟨poolList es last⟩
def fileOf (pool : Array CpInfo) (this : Nat) (attrs : Array Attribute := #[]) (ms : Array MethodInfo := #[]) (fl : Nat := 33) (sup : Nat := 0) (ifs : Array Nat := #[]) (fds : Array FieldInfo := #[]) : ClassFile where
  minorVersion := 0
  majorVersion := 65
  constantPool := pool
  accessFlags := fl
  thisClass := this
  superClass := sup
  interfaces := ifs
  fields := fds
  methods := ms
  attributes := attrs
def plain (name : String) (sup : Option ClassId) : Class where
  name := name
  kind := .ordinary
  loader := none
  accessFlags := 33
  super := sup
  interfaces := #[]
  cf := none
  fields := #[]
  methods := #[]
  instanceTypes := #[]
  staticTypes := #[]
  resolved := #[]
  callSites := []
  init := .initialized
  statics := none
  mirror := none

def pool0 : Array CpInfo := pool [(5, u "<init>"), (0, u "()V"), (1, .class_ 10), (1, u "java/lang/Object")] 113

def k0c0 : Code := { maxStack := 0, maxLocals := 1, code := object_method_1_code, exceptionTable := #[], attributes := #[] }
def k0m0 : Method := { name := "<init>", desc := "()V", sig := { parameters := [], returnType := none }, accessFlags := 1, code := some k0c0 }
/-- java/lang/Object -/
def k0 : Class := { plain "java/lang/Object" none with
  accessFlags := 33
  interfaces := #[]
  cf := some (fileOf pool0 8 #[] #[{ accessFlags := 1, nameIndex := 5, descriptorIndex := 6, attributes := #[] }] 33 0 #[] #[])
  fields := #[]
  methods := #[k0m0]
  instanceTypes := #[]
  staticTypes := #[]
  resolved := Array.replicate 124 none
  statics := none }

def pool1 : Array CpInfo := pool [(2, .class_ 4), (1, u "java/lang/Object"), (0, u "<init>"), (0, u "()V"), (2, .long 9223372036854775807), (1, .methodref 12 13), (0, .class_ 14), (0, .nameAndType 15 16), (0, u "java/lang/Math"), (0, u "max"), (0, u "(JJ)J"), (0, .methodref 12 18), (0, .nameAndType 19 16), (0, u "min"), (0, .methodref 21 22), (0, .class_ 23), (0, .nameAndType 24 25), (0, u "com/example/berthline/berthline/model/ResourcesHoldsPinLaw"), (0, u "pick"), (0, u "(JJ)[J"), (0, .class_ 27), (0, u "com/example/berthline/berthline/model/Resources"), (0, .methodref 26 29), (0, .nameAndType 5 30), (0, u "(JJJ)V"), (0, .methodref 26 32), (0, .nameAndType 33 34), (0, u "holds"), (0, u "(Lcom/example/berthline/berthline/model/Resources;)Z"), (5, u "law"), (0, u "(JJJJJJ)Z")] 2

def k1m0 : Method := { name := "<init>", desc := "()V", sig := { parameters := [], returnType := none }, accessFlags := 1, code := none }
def k1c1 : Code := { maxStack := 7, maxLocals := 9, code := method_2_code, exceptionTable := #[], attributes := #[] }
def k1m1 : Method := { name := "pick", desc := "(JJ)[J", sig := { parameters := [.long, .long], returnType := some (.array .long) }, accessFlags := 10, code := some k1c1 }
def k1c2 : Code := { maxStack := 8, maxLocals := 18, code := code, exceptionTable := #[], attributes := #[] }
def k1m2 : Method := { name := "law", desc := "(JJJJJJ)Z", sig := { parameters := [.long, .long, .long, .long, .long, .long], returnType := some .boolean }, accessFlags := 9, code := some k1c2 }
/-- com/example/berthline/berthline/model/ResourcesHoldsPinLaw -/
def k1 : Class := { plain "com/example/berthline/berthline/model/ResourcesHoldsPinLaw" (some 0) with
  accessFlags := 49
  interfaces := #[]
  cf := some (fileOf pool1 21 #[] #[{ accessFlags := 1, nameIndex := 5, descriptorIndex := 6, attributes := #[] }, { accessFlags := 10, nameIndex := 24, descriptorIndex := 25, attributes := #[] }, { accessFlags := 9, nameIndex := 40, descriptorIndex := 41, attributes := #[] }] 49 2 #[] #[])
  fields := #[]
  methods := #[k1m0, k1m1, k1m2]
  instanceTypes := #[]
  staticTypes := #[]
  resolved := Array.replicate 44 none
  statics := none }

def pool2 : Array CpInfo := pool [(1, .class_ 2), (0, u "java/lang/Math"), (1, .class_ 6), (1, u "java/lang/Object"), (0, u "<init>"), (0, u "()V"), (89, .class_ 100), (1, u "java/lang/Math$RandomNumberGeneratorHolder"), (20, u "(JJ)J"), (50, u "negativeZeroFloatBits"), (0, u "J"), (2, u "negativeZeroDoubleBits"), (21, u "max"), (2, u "min"), (43, u "$assertionsDisabled"), (0, u "Z"), (91, u "twoToTheDoubleScaleDown"), (0, u "D"), (4, u "twoToTheDoubleScaleUp"), (9, u "E"), (3, u "PI"), (2, u "TAU"), (2, u "DEGREES_TO_RADIANS"), (0, u "RADIANS_TO_DEGREES")] 94

def k2m0 : Method := { name := "<init>", desc := "()V", sig := { parameters := [], returnType := none }, accessFlags := 2, code := none }
def k2c1 : Code := { maxStack := 4, maxLocals := 4, code := jdk_29_method_66_code, exceptionTable := #[], attributes := #[] }
def k2m1 : Method := { name := "max", desc := "(JJ)J", sig := { parameters := [.long, .long], returnType := some .long }, accessFlags := 9, code := some k2c1 }
def k2c2 : Code := { maxStack := 4, maxLocals := 4, code := jdk_29_method_70_code, exceptionTable := #[], attributes := #[] }
def k2m2 : Method := { name := "min", desc := "(JJ)J", sig := { parameters := [.long, .long], returnType := some .long }, accessFlags := 9, code := some k2c2 }
/-- java/lang/Math -/
def k2 : Class := { plain "java/lang/Math" (some 0) with
  accessFlags := 49
  interfaces := #[]
  cf := some (fileOf pool2 1 #[.nestMembers #[98]] #[{ accessFlags := 2, nameIndex := 7, descriptorIndex := 8, attributes := #[] }, { accessFlags := 9, nameIndex := 198, descriptorIndex := 121, attributes := #[] }, { accessFlags := 9, nameIndex := 201, descriptorIndex := 121, attributes := #[] }] 49 4 #[] #[{ accessFlags := 25, nameIndex := 354, descriptorIndex := 339, attributes := #[] }, { accessFlags := 25, nameIndex := 358, descriptorIndex := 339, attributes := #[] }, { accessFlags := 25, nameIndex := 361, descriptorIndex := 339, attributes := #[] }, { accessFlags := 26, nameIndex := 364, descriptorIndex := 339, attributes := #[] }, { accessFlags := 26, nameIndex := 365, descriptorIndex := 339, attributes := #[] }, { accessFlags := 26, nameIndex := 172, descriptorIndex := 173, attributes := #[] }, { accessFlags := 26, nameIndex := 176, descriptorIndex := 173, attributes := #[] }, { accessFlags := 8, nameIndex := 344, descriptorIndex := 339, attributes := #[] }, { accessFlags := 8, nameIndex := 338, descriptorIndex := 339, attributes := #[] }, { accessFlags := 4120, nameIndex := 245, descriptorIndex := 246, attributes := #[] }])
  fields := #[{ name := "E", type := .double, accessFlags := 25, slot := 0, constantValue := 0 }, { name := "PI", type := .double, accessFlags := 25, slot := 1, constantValue := 0 }, { name := "TAU", type := .double, accessFlags := 25, slot := 2, constantValue := 0 }, { name := "DEGREES_TO_RADIANS", type := .double, accessFlags := 26, slot := 3, constantValue := 0 }, { name := "RADIANS_TO_DEGREES", type := .double, accessFlags := 26, slot := 4, constantValue := 0 }, { name := "negativeZeroFloatBits", type := .long, accessFlags := 26, slot := 5, constantValue := 0 }, { name := "negativeZeroDoubleBits", type := .long, accessFlags := 26, slot := 6, constantValue := 0 }, { name := "twoToTheDoubleScaleUp", type := .double, accessFlags := 8, slot := 7, constantValue := 0 }, { name := "twoToTheDoubleScaleDown", type := .double, accessFlags := 8, slot := 8, constantValue := 0 }, { name := "$assertionsDisabled", type := .boolean, accessFlags := 4120, slot := 9, constantValue := 0 }]
  methods := #[k2m0, k2m1, k2m2]
  instanceTypes := #[]
  staticTypes := #[.double, .double, .double, .double, .double, .long, .long, .double, .double, .boolean]
  resolved := Array.replicate 460 none
  statics := none }

def pool3 : Array CpInfo := pool [(1, .methodref 2 3), (0, .class_ 4), (0, .nameAndType 5 6), (0, u "java/lang/Object"), (0, u "<init>"), (0, u "()V"), (0, .class_ 8), (0, u "java/lang/Record")] 13

def k3c0 : Code := { maxStack := 1, maxLocals := 1, code := jdk_30_method_1_code, exceptionTable := #[], attributes := #[] }
def k3m0 : Method := { name := "<init>", desc := "()V", sig := { parameters := [], returnType := none }, accessFlags := 4, code := some k3c0 }
/-- java/lang/Record -/
def k3 : Class := { plain "java/lang/Record" (some 0) with
  accessFlags := 1057
  interfaces := #[]
  cf := some (fileOf pool3 7 #[] #[{ accessFlags := 4, nameIndex := 5, descriptorIndex := 6, attributes := #[] }] 1057 2 #[] #[])
  fields := #[]
  methods := #[k3m0]
  instanceTypes := #[]
  staticTypes := #[]
  resolved := Array.replicate 22 none
  statics := none }

def pool4 : Array CpInfo := pool [(1, .methodref 2 3), (0, .class_ 4), (0, .nameAndType 5 6), (0, u "java/lang/Record"), (0, u "<init>"), (0, u "()V"), (3, .class_ 12), (1, u "com/example/berthline/berthline/model/Resources"), (9, .fieldref 10 23), (0, .nameAndType 24 25), (0, u "cores"), (0, u "J"), (0, .fieldref 10 27), (0, .nameAndType 28 25), (0, u "memory"), (0, .fieldref 10 30), (0, .nameAndType 31 25), (0, u "disk"), (9, u "(JJJ)V"), (25, u "holds"), (0, u "(Lcom/example/berthline/berthline/model/Resources;)Z")] 38

def k4c0 : Code := { maxStack := 8, maxLocals := 7, code := prog_280_method_1_code, exceptionTable := #[], attributes := #[] }
def k4m0 : Method := { name := "<init>", desc := "(JJJ)V", sig := { parameters := [.long, .long, .long], returnType := none }, accessFlags := 1, code := some k4c0 }
def k4c1 : Code := { maxStack := 4, maxLocals := 2, code := prog_280_method_4_code, exceptionTable := #[], attributes := #[] }
def k4m1 : Method := { name := "holds", desc := "(Lcom/example/berthline/berthline/model/Resources;)Z", sig := { parameters := [(.object "com/example/berthline/berthline/model/Resources")], returnType := some .boolean }, accessFlags := 1, code := some k4c1 }
/-- com/example/berthline/berthline/model/Resources -/
def k4 : Class := { plain "com/example/berthline/berthline/model/Resources" (some 3) with
  accessFlags := 49
  interfaces := #[]
  cf := some (fileOf pool4 10 #[] #[{ accessFlags := 1, nameIndex := 5, descriptorIndex := 41, attributes := #[] }, { accessFlags := 1, nameIndex := 67, descriptorIndex := 68, attributes := #[] }] 49 2 #[] #[{ accessFlags := 18, nameIndex := 24, descriptorIndex := 25, attributes := #[] }, { accessFlags := 18, nameIndex := 28, descriptorIndex := 25, attributes := #[] }, { accessFlags := 18, nameIndex := 31, descriptorIndex := 25, attributes := #[] }])
  fields := #[{ name := "cores", type := .long, accessFlags := 18, slot := 0, constantValue := 0 }, { name := "memory", type := .long, accessFlags := 18, slot := 1, constantValue := 0 }, { name := "disk", type := .long, accessFlags := 18, slot := 2, constantValue := 0 }]
  methods := #[k4m0, k4m1]
  instanceTypes := #[.long, .long, .long]
  staticTypes := #[]
  resolved := Array.replicate 107 none
  statics := none }

def pool5 : Array CpInfo := pool [(1, u "java/lang/Cloneable"), (0, .class_ 1), (0, u "java/lang/Object"), (0, .class_ 3)] 3

/-- java/lang/Cloneable -/
def k5 : Class := { plain "java/lang/Cloneable" (some 0) with
  accessFlags := 1537
  interfaces := #[]
  cf := some (fileOf pool5 2 #[] #[] 1537 4 #[] #[])
  fields := #[]
  methods := #[]
  instanceTypes := #[]
  staticTypes := #[]
  resolved := Array.replicate 8 none
  statics := none }

def pool6 : Array CpInfo := pool [(1, u "java/io/Serializable"), (0, .class_ 1), (0, u "java/lang/Object"), (0, .class_ 3)] 3

/-- java/io/Serializable -/
def k6 : Class := { plain "java/io/Serializable" (some 0) with
  accessFlags := 1537
  interfaces := #[]
  cf := some (fileOf pool6 2 #[] #[] 1537 4 #[] #[])
  fields := #[]
  methods := #[]
  instanceTypes := #[]
  staticTypes := #[]
  resolved := Array.replicate 8 none
  statics := none }

/-- the primitive byte -/
def k7 : Class := { plain "byte" none with kind := .primitive 'B', accessFlags := 0x411 }
/-- [B -/
def k8 : Class := { plain "[B" (some 0) with kind := .array 7 .byte, interfaces := #[5, 6], accessFlags := 1041 }

/-- the primitive int -/
def k9 : Class := { plain "int" none with kind := .primitive 'I', accessFlags := 0x411 }
/-- [I -/
def k10 : Class := { plain "[I" (some 0) with kind := .array 9 .int, interfaces := #[5, 6], accessFlags := 1041 }

/-- the primitive long -/
def k11 : Class := { plain "long" none with kind := .primitive 'J', accessFlags := 0x411 }
/-- [J -/
def k12 : Class := { plain "[J" (some 0) with kind := .array 11 .long, interfaces := #[5, 6], accessFlags := 1041 }

def heap : Heap := #[]
def classes : Array Class := #[k0, k1, k2, k3, k4, k5, k6, k7, k8, k9, k10, k11, k12]
def interned : List (Array UInt16 × Addr) := []
def slotsUsed : Nat := 0
def theMethod : MethodId := ⟨1, 2⟩
def args0 : Array Value := #[.long 5, .long 7, .long 5, .long 7, .long 5, .long 7]
def aboutOver (below : List Frame) : State where
  vm := { classes := classes, interned := interned.toArray }
  heap := heap
  slotsUsed := slotsUsed
  threads := #[{ frames := .invoking theMethod args0 :: below }]
def below0 : List Frame := [.native { method := ⟨0, 0⟩, args := #[] }]
def about1 : State := aboutOver below0
def p0 : Program := .bare "" "" ""
def e0 : Env := launch0.env 0 0 0
theorem w_frames : about1.frames = Frame.invoking theMethod args0 :: below0 := rfl
set_option maxRecDepth 65536 in
theorem w_args : argsFit about1.vm theMethod args0 = true := by decide +kernel
set_option maxRecDepth 65536 in
theorem w_heap : heapFits about1 = true := by decide +kernel
set_option maxRecDepth 65536 in
theorem w_runnable : about1.curStatus? = some .runnable := by decide +kernel
set_option maxRecDepth 65536 in
theorem w_alone : about1.alone = true := by decide +kernel
set_option maxRecDepth 65536 in
theorem w_named : about1.methodNamed? x = some theMethod := by decide +kernel
set_option maxRecDepth 65536 in
theorem w_hears : about1.hears theMethod below0 = true := by decide +kernel
set_option maxRecDepth 65536 in
theorem w_ripe : about1.ripe theMethod args0 below0 = true := by decide +kernel
theorem w_running : about1.status = .running := rfl
set_option maxRecDepth 65536 in
theorem w_room : about1.hasRoom e0.platform room_1 = true :=
  launch0.hasRoom_least _ room_1 (by decide +kernel) (by decide +kernel) (by decide +kernel) (by decide +kernel) (by decide +kernel) (by decide +kernel)
theorem allAtoms_all (ts : List Jvm.Cond) (a : Array Jvm.Value) (st : Jvm.State) : (allAtoms ts).before a st = ts.all (fun c => c.before a st) := by
  induction ts with
  | nil => rfl
  | cons c t ih =>
    show (Jvm.Cond.and c (allAtoms t)).before a st = _
    rw [Jvm.Cond.before_and, ih, List.all_cons]
def words1 : List Jvm.Cond := Jvm.Cond.code x code maxLocals ret :: tables_1
/-- a 'code' word, met by the world's own term for the bytes: nothing is compared byte by byte -/
theorem code_word {y : MethodName} {bytes : ByteArray} {mx : Nat} {rt : Option FieldType} {a : Array Value} {s : State} {m : MethodId} {meth : Method} {c : Code} (h1 : s.methodNamed? y = some m) (h2 : s.vm.method? m = some meth) (h3 : meth.code = some c) (h4 : c.code = bytes)
    (h5 : (c.maxLocals == mx && c.exceptionTable.isEmpty && decide (c.maxStack ≤ mostOperands) && decide (meth.sig.returnType = rt) && !meth.locks && decide (parseMethodDescriptor y.desc = some meth.sig)) = true) : (Jvm.Cond.code y bytes mx rt).before a s = true := by
  simp only [Bool.and_eq_true, beq_iff_eq, Bool.not_eq_true', decide_eq_true_eq] at h5
  obtain ⟨⟨⟨⟨⟨g1, g2⟩, g3⟩, g4⟩, g5⟩, g6⟩ := h5
  simp [Cond.before, Cond.holds, Cond.value, h1, h2, h3, h4, g1, g2, g3, g4, g5, g6]
def isCode : Jvm.Cond → Bool
  | .code _ _ _ _ => true
  | _ => false
theorem all_split {L : List Jvm.Cond} {P : Jvm.Cond → Bool} (h1 : L.all (fun c => isCode c || P c) = true) (h2 : ∀ c ∈ L.filter isCode, P c = true) : L.all P = true := by
  refine List.all_eq_true.mpr fun c hc => ?_
  have h := List.all_eq_true.mp h1 c hc
  rcases Bool.eq_false_or_eq_true (isCode c) with hi | hi
  · exact h2 c (List.mem_filter.mpr ⟨hc, hi⟩)
  · simpa [hi] using h
set_option maxRecDepth 65536 in
theorem w_c0 : (Jvm.Cond.code x code maxLocals ret).before args0 about1 = true := code_word (m := ⟨1, 2⟩) (meth := k1m2) (c := k1c2) (by decide +kernel) rfl rfl rfl (by decide +kernel)
set_option maxRecDepth 65536 in
theorem w_c1 : (Jvm.Cond.code ({ cls := "com/example/berthline/berthline/model/ResourcesHoldsPinLaw", name := "pick", desc := "(JJ)[J" } : Jvm.MethodName) method_2_code (9 : Nat) (Option.some (Jvm.ClassFile.FieldType.array Jvm.ClassFile.FieldType.long))).before args0 about1 = true := code_word (m := ⟨1, 1⟩) (meth := k1m1) (c := k1c1) (by decide +kernel) rfl rfl rfl (by decide +kernel)
set_option maxRecDepth 65536 in
theorem w_c2 : (Jvm.Cond.code ({ cls := "java/lang/Math", name := "max", desc := "(JJ)J" } : Jvm.MethodName) jdk_29_method_66_code (4 : Nat) (Option.some Jvm.ClassFile.FieldType.long)).before args0 about1 = true := code_word (m := ⟨2, 1⟩) (meth := k2m1) (c := k2c1) (by decide +kernel) rfl rfl rfl (by decide +kernel)
set_option maxRecDepth 65536 in
theorem w_c3 : (Jvm.Cond.code ({ cls := "java/lang/Math", name := "min", desc := "(JJ)J" } : Jvm.MethodName) jdk_29_method_70_code (4 : Nat) (Option.some Jvm.ClassFile.FieldType.long)).before args0 about1 = true := code_word (m := ⟨2, 2⟩) (meth := k2m2) (c := k2c2) (by decide +kernel) rfl rfl rfl (by decide +kernel)
set_option maxRecDepth 65536 in
theorem w_c4 : (Jvm.Cond.code ({ cls := "com/example/berthline/berthline/model/Resources", name := "<init>", desc := "(JJJ)V" } : Jvm.MethodName) prog_280_method_1_code (7 : Nat) (Option.none : Option Jvm.ClassFile.FieldType)).before args0 about1 = true := code_word (m := ⟨4, 0⟩) (meth := k4m0) (c := k4c0) (by decide +kernel) rfl rfl rfl (by decide +kernel)
set_option maxRecDepth 65536 in
theorem w_c5 : (Jvm.Cond.code ({ cls := "java/lang/Record", name := "<init>", desc := "()V" } : Jvm.MethodName) jdk_30_method_1_code (1 : Nat) (Option.none : Option Jvm.ClassFile.FieldType)).before args0 about1 = true := code_word (m := ⟨3, 0⟩) (meth := k3m0) (c := k3c0) (by decide +kernel) rfl rfl rfl (by decide +kernel)
set_option maxRecDepth 65536 in
theorem w_c6 : (Jvm.Cond.code ({ cls := "java/lang/Object", name := "<init>", desc := "()V" } : Jvm.MethodName) object_method_1_code (1 : Nat) (Option.none : Option Jvm.ClassFile.FieldType)).before args0 about1 = true := code_word (m := ⟨0, 0⟩) (meth := k0m0) (c := k0c0) (by decide +kernel) rfl rfl rfl (by decide +kernel)
set_option maxRecDepth 65536 in
theorem w_c7 : (Jvm.Cond.code ({ cls := "com/example/berthline/berthline/model/Resources", name := "holds", desc := "(Lcom/example/berthline/berthline/model/Resources;)Z" } : Jvm.MethodName) prog_280_method_4_code (2 : Nat) (Option.some Jvm.ClassFile.FieldType.boolean)).before args0 about1 = true := code_word (m := ⟨4, 1⟩) (meth := k4m1) (c := k4c1) (by decide +kernel) rfl rfl rfl (by decide +kernel)
def codes1 : List Jvm.Cond := [Jvm.Cond.code x code maxLocals ret, Jvm.Cond.code ({ cls := "com/example/berthline/berthline/model/ResourcesHoldsPinLaw", name := "pick", desc := "(JJ)[J" } : Jvm.MethodName) method_2_code (9 : Nat) (Option.some (Jvm.ClassFile.FieldType.array Jvm.ClassFile.FieldType.long)), Jvm.Cond.code ({ cls := "java/lang/Math", name := "max", desc := "(JJ)J" } : Jvm.MethodName) jdk_29_method_66_code (4 : Nat) (Option.some Jvm.ClassFile.FieldType.long), Jvm.Cond.code ({ cls := "java/lang/Math", name := "min", desc := "(JJ)J" } : Jvm.MethodName) jdk_29_method_70_code (4 : Nat) (Option.some Jvm.ClassFile.FieldType.long), Jvm.Cond.code ({ cls := "com/example/berthline/berthline/model/Resources", name := "<init>", desc := "(JJJ)V" } : Jvm.MethodName) prog_280_method_1_code (7 : Nat) (Option.none : Option Jvm.ClassFile.FieldType), Jvm.Cond.code ({ cls := "java/lang/Record", name := "<init>", desc := "()V" } : Jvm.MethodName) jdk_30_method_1_code (1 : Nat) (Option.none : Option Jvm.ClassFile.FieldType), Jvm.Cond.code ({ cls := "java/lang/Object", name := "<init>", desc := "()V" } : Jvm.MethodName) object_method_1_code (1 : Nat) (Option.none : Option Jvm.ClassFile.FieldType), Jvm.Cond.code ({ cls := "com/example/berthline/berthline/model/Resources", name := "holds", desc := "(Lcom/example/berthline/berthline/model/Resources;)Z" } : Jvm.MethodName) prog_280_method_4_code (2 : Nat) (Option.some Jvm.ClassFile.FieldType.boolean)]
set_option maxRecDepth 65536 in
theorem codes_eq : words1.filter isCode = codes1 := rfl
theorem w_codes : ∀ c ∈ words1.filter isCode, c.before args0 about1 = true := by
  rw [codes_eq]
  intro c hc
  simp only [codes1, List.mem_cons, List.not_mem_nil, or_false] at hc
  rcases hc with rfl | rfl | rfl | rfl | rfl | rfl | rfl | rfl
  · exact w_c0
  · exact w_c1
  · exact w_c2
  · exact w_c3
  · exact w_c4
  · exact w_c5
  · exact w_c6
  · exact w_c7
set_option maxRecDepth 65536 in
theorem w_t1 : (words1.take 24).all (fun c => isCode c || c.before args0 about1) = true := by decide +kernel
set_option maxRecDepth 65536 in
theorem w_t2 : (words1.drop 24).all (fun c => isCode c || c.before args0 about1) = true := by decide +kernel
theorem w_tables : (allAtoms (Jvm.Cond.code x code maxLocals ret :: tables_1)).before args0 about1 = true := by
  rw [allAtoms_all]
  show words1.all (fun c => c.before args0 about1) = true
  refine all_split ?_ w_codes
  rw [← List.take_append_drop 24 words1, List.all_append, w_t1, w_t2]
  rfl
set_option maxRecDepth 65536 in
theorem w_case : (Jvm.Cond.and given_1 narrow_1).before args0 about1 = true := by decide +kernel
theorem w_applies : (headSpec (Jvm.Cond.code x code maxLocals ret :: tables_1) room_1).applies x e0.platform about1 = true :=
  (Spec.applies_iff w_frames).mpr ⟨w_running, w_runnable, w_alone, w_named, w_hears, w_ripe, w_room, w_tables⟩
theorem atStart : AtStart classFile x code maxLocals ret World_1 tables_1 room_1 Calls_1 rest_1 Pre_1 launch0 p0 e0 about1 theMethod args0 below0 :=
  ⟨lists_1, trivial, launch0.admits_env _ _ _, launch0.least_env, fairChoices_fair.cas, fairChoices_fair.clock, w_frames, w_args, w_heap, w_applies, trivial, trivial, w_case⟩
end start1
theorem witness_1 : WitnessClaimed_1 := ⟨start1.p0, start1.e0, start1.about1, start1.theMethod, start1.args0, start1.below0, start1.atStart⟩
end Jvm.Pilot.@@N@@
