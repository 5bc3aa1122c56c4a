import JvmDerived
import JvmDerived.Pilot.@@N@@Statement
import JvmDerived.Pilot.@@N@@Code
set_option linter.unusedVariables false
set_option linter.unusedSimpArgs false
namespace Jvm.RoadKit
open Sem ClassFile Op Lib Jvm.Stand Jvm.Free Jvm.LawKit
section New
variable {p : Program} {l : Launch} {e : Env} {R : Room} {s : State} {m : MethodId} {args : Array Value} {below : List Frame} {meth : Method} {c : Code} {T : State} {locs : List Loc} {cells slots : Nat}
theorem retI (X : Stand p l e R s m args below meth c T locs cells slots) (hx : p.tables.exec = Jvm.exec) {pc : Nat} {Ls : Array Slot} {z : Int32} {rest : List Value} (hret : meth.sig.returnType = some .int) (hd : decode c.code pc = .ok (.ireturn, 1)) {fs : List Frame}
    (hl : ∀ (f : JFrame) (acts : List Action), f.method = m → f.locked = none → f.entered = [] → (doReturn e (T.setTop f) acts (some (.int z))).1 = T.setFrames fs) : Steps p.tables e below (T.setTop (mkF m pc Ls (.int z :: rest))) (T.setFrames fs) := by
  have hm' : T.vm.method? m = some meth := X.method'
  have hn : narrow .int (.int z) = .int z := rfl
  show Steps p.tables e below (T.setTop { method := m, pc := pc, locals := Ls, stack := _ :: rest, locked := none }) _
  jvm_step X.here [X.here.top, hx, hd, hm', hret, hn]
  first | (intro acts; rw [hl _ acts rfl rfl rfl]) | rw [hl _ _ rfl rfl rfl]
  exact Steps.refl _
end New
end Jvm.RoadKit
namespace Jvm.Pilot.@@N@@
open Jvm Jvm.ClassFile Sem Op Lib Jvm.Free Jvm.Stand Jvm.LawKit Jvm.RoadKit Bundle Jvm.Pilot.@@N@@.Jvm.D

/-! arrays by their contents -/
section OwnArr
def own_upd {α : Type} (f : Nat → α) (i : Nat) (x : α) : Nat → α := fun j => if j = i then x else f j
theorem own_upd_same {α : Type} (f : Nat → α) (i : Nat) (x : α) : own_upd f i x i = x := if_pos rfl
theorem own_upd_ne {α : Type} (f : Nat → α) {i j : Nat} (x : α) (h : j ≠ i) : own_upd f i x j = f j := if_neg h
def JA (Z : State) (h : Heap) (a : Addr) (n : Nat) (f : Nat → Int64) : Prop := ∃ cl : Cell, Arr Z h a cl .long ∧ cl.slots.size = n ∧ ∀ i, i < n → cl.slots[i]? = some (.long (f i))
def IA (Z : State) (h : Heap) (a : Addr) (n : Nat) (f : Nat → Nat) : Prop := ∃ cl : Cell, Arr Z h a cl .int ∧ cl.slots.size = n ∧ ∀ i, i < n → cl.slots[i]? = some (.int (Int32.ofNat (f i)))
variable {p : Program} {l : Launch} {e : Env} {R : Room} {s : State} {m : MethodId} {args : Array Value} {below : List Frame} {meth : Method} {c : Code} {T : State} {locs : List Loc} {cells slots : Nat} {Z : State} {h h' : Heap} {a b : Addr} {n sl : Nat} {v : Value} {ws : List Addr} {f : Nat → Int64} {k : Nat → Nat}
theorem JA.lt (F : JA Z h a n f) : a < h.size := by obtain ⟨_, A, -⟩ := F; exact A.lt
theorem JA.ext (F : JA Z h a n f) (E : Ext h h') : JA Z h' a n f := by obtain ⟨q, A, r⟩ := F; exact ⟨q, A.ext E, r⟩
theorem JA.other (F : JA Z h b n f) (W : Wr h h' a sl v) (q : b ≠ a) : JA Z h' b n f := by obtain ⟨u, A, r⟩ := F; exact ⟨u, A.other W q, r⟩
theorem JA.keep (F : JA Z h a n f) (K : Keep h h' ws) (q : a ∉ ws) : JA Z h' a n f := by obtain ⟨u, A, r⟩ := F; exact ⟨u, ⟨K.2.1 a u A.1 q, A.2⟩, r⟩
theorem IA.lt (F : IA Z h a n k) : a < h.size := by obtain ⟨_, A, -⟩ := F; exact A.lt
theorem IA.ext (F : IA Z h a n k) (E : Ext h h') : IA Z h' a n k := by obtain ⟨q, A, r⟩ := F; exact ⟨q, A.ext E, r⟩
theorem IA.other (F : IA Z h b n k) (W : Wr h h' a sl v) (q : b ≠ a) : IA Z h' b n k := by obtain ⟨u, A, r⟩ := F; exact ⟨u, A.other W q, r⟩
theorem IA.keep (F : IA Z h a n k) (K : Keep h h' ws) (q : a ∉ ws) : IA Z h' a n k := by obtain ⟨u, A, r⟩ := F; exact ⟨u, ⟨K.2.1 a u A.1 q, A.2⟩, r⟩
theorem JA.set {i : Nat} {x : Int64} (F : JA Z h a n f) (W : Wr h h' a i (.long x)) : JA Z h' a n (own_upd f i x) := by
  obtain ⟨u, A, r1, r2⟩ := F
  refine ⟨_, A.same W, by rw [sz_set]; exact r1, fun j hj => ?_⟩
  by_cases q : j = i
  · subst q; rw [own_upd_same]; simp [Cell.setSlot, r1, hj]
  · rw [own_upd_ne f x q, ← r2 j hj]; exact Array.getElem?_setIfInBounds_ne (Ne.symm q)
theorem IA.set {i x : Nat} (F : IA Z h a n k) (W : Wr h h' a i (.int (Int32.ofNat x))) : IA Z h' a n (own_upd k i x) := by
  obtain ⟨u, A, r1, r2⟩ := F
  refine ⟨_, A.same W, by rw [sz_set]; exact r1, fun j hj => ?_⟩
  by_cases q : j = i
  · subst q; rw [own_upd_same]; simp [Cell.setSlot, r1, hj]
  · rw [own_upd_ne k x q, ← r2 j hj]; exact Array.getElem?_setIfInBounds_ne (Ne.symm q)
theorem own_inb {u : Cell} {j : Int32} {i : Nat} (r1 : u.slots.size = n) (hj : j.toNatClampNeg = i) (h0 : ¬ j < 0) (hi : i < n) : ¬ (j < 0 ∨ u.slots.size ≤ j.toNatClampNeg) := by
  rw [hj, r1]; exact fun q => q.elim h0 fun q => absurd hi (Nat.not_lt.mpr q)
theorem JA.load (X : Stand p l e R s m args below meth c T locs cells slots) (hx : p.tables.exec = Jvm.exec) (hZ : Z.Warmed39 s.vm) (eT : T.heap = h) (F : JA Z h a n f) {j : Int32} (i : Nat) (hj : j.toNatClampNeg = i) (h0 : ¬ j < 0) (hi : i < n)
    {g : JFrame} (hg : g.method = m) {rest : List Value} (hs : g.stack = .int j :: .ref a :: rest) (hd : decode c.code g.pc = .ok (.laload, 1)) (target : State)
    (hr : Steps p.tables e below (T.setTop { g with pc := g.pc + 1, stack := .long (f i) :: rest }) target) : Steps p.tables e below (T.setTop g) target := by
  obtain ⟨u, A, r1, r2⟩ := F
  exact X.laload hx (by rw [eT]; exact A.1) (State.isArrayOf_alike hZ.alike A.2.1) A.2.2 (own_inb r1 hj h0 hi) (by rw [hj]; exact r2 i hi) hg hs hd target hr
theorem IA.load (X : Stand p l e R s m args below meth c T locs cells slots) (hx : p.tables.exec = Jvm.exec) (hZ : Z.Warmed39 s.vm) (eT : T.heap = h) (F : IA Z h a n k) {j : Int32} (i : Nat) (hj : j.toNatClampNeg = i) (h0 : ¬ j < 0) (hi : i < n)
    {g : JFrame} (hg : g.method = m) {rest : List Value} (hs : g.stack = .int j :: .ref a :: rest) (hd : decode c.code g.pc = .ok (.iaload, 1)) (target : State)
    (hr : Steps p.tables e below (T.setTop { g with pc := g.pc + 1, stack := .int (Int32.ofNat (k i)) :: rest }) target) : Steps p.tables e below (T.setTop g) target := by
  obtain ⟨u, A, r1, r2⟩ := F
  exact X.iaload hx (by rw [eT]; exact A.1) (State.isArrayOf_alike hZ.alike A.2.1) A.2.2 (own_inb r1 hj h0 hi) (by rw [hj]; exact r2 i hi) hg hs hd target hr
theorem JA.store (X : Stand p l e R s m args below meth c T locs cells slots) (hx : p.tables.exec = Jvm.exec) (hZ : Z.Warmed39 s.vm) (eT : T.heap = h) (F : JA Z h a n f) {j : Int32} (i : Nat) (hj : j.toNatClampNeg = i) (h0 : ¬ j < 0) (hi : i < n) {x : Int64}
    {g : JFrame} (hg : g.method = m) {rest : List Value} (hs : g.stack = .long x :: .int j :: .ref a :: rest) (hd : decode c.code g.pc = .ok (.lastore, 1)) :
    ∃ T' h', Stand p l e R s m args below meth c T' (locs ++ [⟨a, i⟩]) cells slots ∧ T'.heap = h' ∧ Wr h h' a i (.long x) ∧ JA Z h' a n (own_upd f i x) ∧ ∀ target, Steps p.tables e below (T'.setTop { g with pc := g.pc + 1, stack := rest }) target → Steps p.tables e below (T.setTop g) target := by
  obtain ⟨u, A, r1, r2⟩ := id F
  obtain ⟨T', h', X', q1, q2, q3⟩ := stJ X hx hZ eT A (own_inb r1 hj h0 hi) hg hs hd
  rw [hj] at X' q2
  exact ⟨T', h', X', q1, q2, F.set q2, q3⟩
theorem IA.store (X : Stand p l e R s m args below meth c T locs cells slots) (hx : p.tables.exec = Jvm.exec) (hZ : Z.Warmed39 s.vm) (eT : T.heap = h) (F : IA Z h a n k) {j : Int32} (i : Nat) (hj : j.toNatClampNeg = i) (h0 : ¬ j < 0) (hi : i < n) {x : Nat}
    {g : JFrame} (hg : g.method = m) {rest : List Value} (hs : g.stack = .int (Int32.ofNat x) :: .int j :: .ref a :: rest) (hd : decode c.code g.pc = .ok (.iastore, 1)) :
    ∃ T' h', Stand p l e R s m args below meth c T' (locs ++ [⟨a, i⟩]) cells slots ∧ T'.heap = h' ∧ Wr h h' a i (.int (Int32.ofNat x)) ∧ IA Z h' a n (own_upd k i x) ∧ ∀ target, Steps p.tables e below (T'.setTop { g with pc := g.pc + 1, stack := rest }) target → Steps p.tables e below (T.setTop g) target := by
  obtain ⟨u, A, r1, r2⟩ := id F
  obtain ⟨T', h', X', q1, q2, q3⟩ := stI X hx hZ eT A (own_inb r1 hj h0 hi) hg hs hd
  rw [hj] at X' q2
  exact ⟨T', h', X', q1, q2, F.set q2, q3⟩
theorem JA.make {a0 : Array Value} (X : Stand p l e R s m args below meth c T locs cells slots) (hx : p.tables.exec = Jvm.exec) (hZ : Z.Warmed39 s.vm) (w : (Jvm.Cond.arrayClass .long).before a0 Z = true) (eT : T.heap = h) {g : JFrame} (hg : g.method = m) (hd : decode c.code g.pc = .ok (.newarray .long, 2)) {nn : Int32} {rest : List Value} (hs : g.stack = .int nn :: rest)
    (n : Nat) (hn : nn.toNatClampNeg = n) (h0 : ¬ nn < 0) (hb : n * 8 ≤ 536870912) (hc : cells + 1 ≤ R.cells) (hl : slots + n ≤ R.slots) :
    ∃ T' h', Stand p l e R s m args below meth c T' locs (cells + 1) (slots + n) ∧ T'.heap = h' ∧ Ext h h' ∧ JA Z h' h.size n (fun _ => 0) ∧ ∀ target, Steps p.tables e below (T'.setTop { g with pc := g.pc + 2, stack := .ref h.size :: rest }) target → Steps p.tables e below (T.setTop g) target := by
  obtain ⟨T', h', cA, X', q1, q2, q3, q4⟩ := newP (aty := .long) X hx hZ w eT hg hd hs h0 (cap := n) (Nat.le_of_eq hn) hb hc hl
  exact ⟨T', h', X', q1, q2, ⟨_, q3, by rw [sz_new, hn], fun i hi => by subst hn; simp [newA, hi]; rfl⟩, q4⟩
theorem IA.make {a0 : Array Value} (X : Stand p l e R s m args below meth c T locs cells slots) (hx : p.tables.exec = Jvm.exec) (hZ : Z.Warmed39 s.vm) (w : (Jvm.Cond.arrayClass .int).before a0 Z = true) (eT : T.heap = h) {g : JFrame} (hg : g.method = m) (hd : decode c.code g.pc = .ok (.newarray .int, 2)) {nn : Int32} {rest : List Value} (hs : g.stack = .int nn :: rest)
    (n : Nat) (hn : nn.toNatClampNeg = n) (h0 : ¬ nn < 0) (hb : n * 8 ≤ 536870912) (hc : cells + 1 ≤ R.cells) (hl : slots + n ≤ R.slots) :
    ∃ T' h', Stand p l e R s m args below meth c T' locs (cells + 1) (slots + n) ∧ T'.heap = h' ∧ Ext h h' ∧ IA Z h' h.size n (fun _ => 0) ∧ ∀ target, Steps p.tables e below (T'.setTop { g with pc := g.pc + 2, stack := .ref h.size :: rest }) target → Steps p.tables e below (T.setTop g) target := by
  obtain ⟨T', h', cA, X', q1, q2, q3, q4⟩ := newP (aty := .int) X hx hZ w eT hg hd hs h0 (cap := n) (Nat.le_of_eq hn) hb hc hl
  exact ⟨T', h', X', q1, q2, ⟨_, q3, by rw [sz_new, hn], fun i hi => by subst hn; simp [newA, hi]; rfl⟩, q4⟩
theorem own_len {ty : FieldType} (X : Stand p l e R s m args below meth c T locs cells slots) (hx : p.tables.exec = Jvm.exec) (hZ : Z.Warmed39 s.vm) (eT : T.heap = h) (F : ∃ cl : Cell, Arr Z h a cl ty ∧ cl.slots.size = n) {z : Int32} (hz : n.toInt32 = z)
    {g : JFrame} (hg : g.method = m) {rest : List Value} (hs : g.stack = .ref a :: rest) (hd : decode c.code g.pc = .ok (.arraylength, 1)) (target : State)
    (hr : Steps p.tables e below (T.setTop { g with pc := g.pc + 1, stack := .int z :: rest }) target) : Steps p.tables e below (T.setTop g) target := by
  obtain ⟨u, A, r1⟩ := F
  exact X.arraylength hx (by rw [eT]; exact A.1) (State.isArrayOf_alike hZ.alike A.2.1) hg hs hd target (by rw [r1, hz]; exact hr)
theorem JA.cell (F : JA Z h a n f) : ∃ cl : Cell, Arr Z h a cl .long ∧ cl.slots.size = n := by obtain ⟨u, A, r, -⟩ := F; exact ⟨u, A, r⟩
theorem IA.cell (F : IA Z h a n k) : ∃ cl : Cell, Arr Z h a cl .int ∧ cl.slots.size = n := by obtain ⟨u, A, r, -⟩ := F; exact ⟨u, A, r⟩
end OwnArr
theorem own_toInt {k n : Nat} (hk : k < n) (hn : n ≤ 2 ^ 31) : (Int32.ofNat k).toInt = (k : Int) := toInt_of rfl (Nat.lt_of_lt_of_le hk hn)
theorem own_cl {k n : Nat} (hk : k < n) (hn : n ≤ 2 ^ 31) : (Int32.ofNat k).toNatClampNeg = k := clamp_of rfl (Nat.lt_of_lt_of_le hk hn)
theorem own_nn {k n : Nat} (hk : k < n) (hn : n ≤ 2 ^ 31) : ¬ Int32.ofNat k < 0 := by rw [Int32.lt_iff_toInt_lt, own_toInt hk hn, Int32.toInt_zero]; omega

/-! the holder's six arrays as plain functions -/
abbrev own_S : Type := (Nat → Int64) × (Nat → Int64) × (Nat → Int64) × (Nat → Nat) × (Nat → Nat) × (Nat → Nat)
def own_e (S : own_S) : Nat → Int64 := S.1
def own_p (S : own_S) : Nat → Int64 := S.2.1
def own_s (S : own_S) : Nat → Int64 := S.2.2.1
def own_h (S : own_S) : Nat → Nat := S.2.2.2.1
def own_l (S : own_S) : Nat → Nat := S.2.2.2.2.1
def own_r (S : own_S) : Nat → Nat := S.2.2.2.2.2
def own_setE (S : own_S) (i : Nat) (v : Int64) : own_S := (own_upd (own_e S) i v, own_p S, own_s S, own_h S, own_l S, own_r S)
def own_setP (S : own_S) (i : Nat) (v : Int64) : own_S := (own_e S, own_upd (own_p S) i v, own_s S, own_h S, own_l S, own_r S)
def own_setS (S : own_S) (i : Nat) (v : Int64) : own_S := (own_e S, own_p S, own_upd (own_s S) i v, own_h S, own_l S, own_r S)
def own_setH (S : own_S) (i : Nat) (v : Nat) : own_S := (own_e S, own_p S, own_s S, own_upd (own_h S) i v, own_l S, own_r S)
def own_setL (S : own_S) (i : Nat) (v : Nat) : own_S := (own_e S, own_p S, own_s S, own_h S, own_upd (own_l S) i v, own_r S)
def own_setR (S : own_S) (i : Nat) (v : Nat) : own_S := (own_e S, own_p S, own_s S, own_h S, own_l S, own_upd (own_r S) i v)
theorem own_e_setE (S : own_S) (i : Nat) (v : Int64) : own_e (own_setE S i v) = own_upd (own_e S) i v := rfl
theorem own_p_setE (S : own_S) (i : Nat) (v : Int64) : own_p (own_setE S i v) = own_p S := rfl
theorem own_s_setE (S : own_S) (i : Nat) (v : Int64) : own_s (own_setE S i v) = own_s S := rfl
theorem own_h_setE (S : own_S) (i : Nat) (v : Int64) : own_h (own_setE S i v) = own_h S := rfl
theorem own_l_setE (S : own_S) (i : Nat) (v : Int64) : own_l (own_setE S i v) = own_l S := rfl
theorem own_r_setE (S : own_S) (i : Nat) (v : Int64) : own_r (own_setE S i v) = own_r S := rfl
theorem own_e_setP (S : own_S) (i : Nat) (v : Int64) : own_e (own_setP S i v) = own_e S := rfl
theorem own_p_setP (S : own_S) (i : Nat) (v : Int64) : own_p (own_setP S i v) = own_upd (own_p S) i v := rfl
theorem own_s_setP (S : own_S) (i : Nat) (v : Int64) : own_s (own_setP S i v) = own_s S := rfl
theorem own_h_setP (S : own_S) (i : Nat) (v : Int64) : own_h (own_setP S i v) = own_h S := rfl
theorem own_l_setP (S : own_S) (i : Nat) (v : Int64) : own_l (own_setP S i v) = own_l S := rfl
theorem own_r_setP (S : own_S) (i : Nat) (v : Int64) : own_r (own_setP S i v) = own_r S := rfl
theorem own_e_setS (S : own_S) (i : Nat) (v : Int64) : own_e (own_setS S i v) = own_e S := rfl
theorem own_p_setS (S : own_S) (i : Nat) (v : Int64) : own_p (own_setS S i v) = own_p S := rfl
theorem own_s_setS (S : own_S) (i : Nat) (v : Int64) : own_s (own_setS S i v) = own_upd (own_s S) i v := rfl
theorem own_h_setS (S : own_S) (i : Nat) (v : Int64) : own_h (own_setS S i v) = own_h S := rfl
theorem own_l_setS (S : own_S) (i : Nat) (v : Int64) : own_l (own_setS S i v) = own_l S := rfl
theorem own_r_setS (S : own_S) (i : Nat) (v : Int64) : own_r (own_setS S i v) = own_r S := rfl
theorem own_e_setH (S : own_S) (i : Nat) (v : Nat) : own_e (own_setH S i v) = own_e S := rfl
theorem own_p_setH (S : own_S) (i : Nat) (v : Nat) : own_p (own_setH S i v) = own_p S := rfl
theorem own_s_setH (S : own_S) (i : Nat) (v : Nat) : own_s (own_setH S i v) = own_s S := rfl
theorem own_h_setH (S : own_S) (i : Nat) (v : Nat) : own_h (own_setH S i v) = own_upd (own_h S) i v := rfl
theorem own_l_setH (S : own_S) (i : Nat) (v : Nat) : own_l (own_setH S i v) = own_l S := rfl
theorem own_r_setH (S : own_S) (i : Nat) (v : Nat) : own_r (own_setH S i v) = own_r S := rfl
theorem own_e_setL (S : own_S) (i : Nat) (v : Nat) : own_e (own_setL S i v) = own_e S := rfl
theorem own_p_setL (S : own_S) (i : Nat) (v : Nat) : own_p (own_setL S i v) = own_p S := rfl
theorem own_s_setL (S : own_S) (i : Nat) (v : Nat) : own_s (own_setL S i v) = own_s S := rfl
theorem own_h_setL (S : own_S) (i : Nat) (v : Nat) : own_h (own_setL S i v) = own_h S := rfl
theorem own_l_setL (S : own_S) (i : Nat) (v : Nat) : own_l (own_setL S i v) = own_upd (own_l S) i v := rfl
theorem own_r_setL (S : own_S) (i : Nat) (v : Nat) : own_r (own_setL S i v) = own_r S := rfl
theorem own_e_setR (S : own_S) (i : Nat) (v : Nat) : own_e (own_setR S i v) = own_e S := rfl
theorem own_p_setR (S : own_S) (i : Nat) (v : Nat) : own_p (own_setR S i v) = own_p S := rfl
theorem own_s_setR (S : own_S) (i : Nat) (v : Nat) : own_s (own_setR S i v) = own_s S := rfl
theorem own_h_setR (S : own_S) (i : Nat) (v : Nat) : own_h (own_setR S i v) = own_h S := rfl
theorem own_l_setR (S : own_S) (i : Nat) (v : Nat) : own_l (own_setR S i v) = own_l S := rfl
theorem own_r_setR (S : own_S) (i : Nat) (v : Nat) : own_r (own_setR S i v) = own_upd (own_r S) i v := rfl

def own_update (S : own_S) (i : Nat) : own_S := own_setS (own_setH S i (1 + max (own_h S (own_l S i)) (own_h S (own_r S i)))) i (own_s S (own_l S i) + own_s S (own_r S i) + own_p S i)
def own_rotR (S : own_S) (i : Nat) : own_S := own_update (own_update (own_setR (own_setL S i (own_r S (own_l S i))) (own_l S i) i) i) (own_l S i)
def own_rotL (S : own_S) (i : Nat) : own_S := own_update (own_update (own_setL (own_setR S i (own_l S (own_r S i))) (own_r S i) i) i) (own_r S i)
def own_balU (U : own_S) (i : Nat) : own_S × Nat :=
  if (1 : Int32) < Int32.ofNat (own_h U (own_l U i)) - Int32.ofNat (own_h U (own_r U i)) then
    if Int32.ofNat (own_h U (own_l U (own_l U i))) < Int32.ofNat (own_h U (own_r U (own_l U i))) then
      (own_rotR (own_setL (own_rotL U (own_l U i)) i (own_r U (own_l U i))) i, own_l (own_setL (own_rotL U (own_l U i)) i (own_r U (own_l U i))) i)
    else (own_rotR U i, own_l U i)
  else if Int32.ofNat (own_h U (own_l U i)) - Int32.ofNat (own_h U (own_r U i)) < (-1 : Int32) then
    if Int32.ofNat (own_h U (own_r U (own_r U i))) < Int32.ofNat (own_h U (own_l U (own_r U i))) then
      (own_rotL (own_setR (own_rotR U (own_r U i)) i (own_l U (own_r U i))) i, own_r (own_setR (own_rotR U (own_r U i)) i (own_l U (own_r U i))) i)
    else (own_rotL U i, own_r U i)
  else (U, i)
def own_bal (S : own_S) (i : Nat) : own_S × Nat := own_balU (own_update S i) i
def own_make (S : own_S) (m : Nat) (e p : Int64) : own_S := own_setR (own_setL (own_setH (own_setS (own_setP (own_setE S m e) m p) m p) m 1) m 0) m 0
def own_add : Nat → own_S → Nat → Nat → Int64 → Int64 → own_S × Nat × Nat
  | 0, S, md, _, e, p => (own_make S md e p, md + 1, md)
  | k + 1, S, md, i, e, p =>
    if i = 0 then (own_make S md e p, md + 1, md)
    else if e < own_e S i then
      ((own_bal (own_setL (own_add k S md (own_l S i) e p).1 i (own_add k S md (own_l S i) e p).2.2) i).1, (own_add k S md (own_l S i) e p).2.1, (own_bal (own_setL (own_add k S md (own_l S i) e p).1 i (own_add k S md (own_l S i) e p).2.2) i).2)
    else if own_e S i < e then
      ((own_bal (own_setR (own_add k S md (own_r S i) e p).1 i (own_add k S md (own_r S i) e p).2.2) i).1, (own_add k S md (own_r S i) e p).2.1, (own_bal (own_setR (own_add k S md (own_r S i) e p).1 i (own_add k S md (own_r S i) e p).2.2) i).2)
    else ((own_bal (own_setP S i (own_p S i + p)) i).1, md, (own_bal (own_setP S i (own_p S i + p)) i).2)
def own_end : Nat → own_S → Nat → Int64 → Int64 → Int64
  | 0, _, _, _, acc => acc
  | k + 1, S, i, x, acc => if i = 0 then acc else if x < own_e S i then own_end k S (own_l S i) x acc else own_end k S (own_r S i) x (acc + (own_s S (own_l S i) + own_p S i))
def own_deep : Nat → own_S → Nat → Prop
  | 0, _, i => i = 0
  | k + 1, S, i => i = 0 ∨ (own_deep k S (own_l S i) ∧ own_deep k S (own_r S i))
def own_ok (B : Nat) (S : own_S) : Prop := (∀ j, own_l S j < 16) ∧ (∀ j, own_r S j < 16) ∧ (∀ j, own_h S j ≤ B) ∧ 1 ≤ B
/-! the bounds -/
theorem own_ok_more {B C : Nat} {S : own_S} (h : own_ok B S) (q : B ≤ C) : own_ok C S := ⟨h.1, h.2.1, fun j => Nat.le_trans (h.2.2.1 j) q, Nat.le_trans h.2.2.2 q⟩
theorem own_upd_all {α : Type} {P : α → Prop} {f : Nat → α} {i : Nat} {x : α} (h : ∀ j, P (f j)) (hx : P x) : ∀ j, P (own_upd f i x j) := fun j => by
  by_cases q : j = i
  · rw [q, own_upd_same]; exact hx
  · rw [own_upd_ne f x q]; exact h j
theorem own_ok_setL {B : Nat} {S : own_S} (h : own_ok B S) {i v : Nat} (hv : v < 16) : own_ok B (own_setL S i v) := ⟨own_upd_all (P := fun z => z < 16) h.1 hv, h.2⟩
theorem own_ok_setR {B : Nat} {S : own_S} (h : own_ok B S) {i v : Nat} (hv : v < 16) : own_ok B (own_setR S i v) := ⟨h.1, own_upd_all (P := fun z => z < 16) h.2.1 hv, h.2.2⟩
theorem own_ok_setP {B : Nat} {S : own_S} (h : own_ok B S) {i : Nat} {v : Int64} : own_ok B (own_setP S i v) := h
theorem own_ok_update {B : Nat} {S : own_S} (h : own_ok B S) (i : Nat) : own_ok (B + 1) (own_update S i) :=
  ⟨h.1, h.2.1, own_upd_all (P := fun z => z ≤ B + 1) (fun j => Nat.le_succ_of_le (h.2.2.1 j)) (by have h1 := h.2.2.1 (own_l S i); have h2 := h.2.2.1 (own_r S i); omega), Nat.le_succ_of_le h.2.2.2⟩
theorem own_ok_rotR {B : Nat} {S : own_S} (h : own_ok B S) {i : Nat} (hi : i < 16) : own_ok (B + 2) (own_rotR S i) := own_ok_update (own_ok_update (own_ok_setR (own_ok_setL h (h.2.1 _)) hi) _) _
theorem own_ok_rotL {B : Nat} {S : own_S} (h : own_ok B S) {i : Nat} (hi : i < 16) : own_ok (B + 2) (own_rotL S i) := own_ok_update (own_ok_update (own_ok_setL (own_ok_setR h (h.1 _)) hi) _) _
theorem own_ok_bal {B : Nat} {S : own_S} (h : own_ok B S) {i : Nat} (hi : i < 16) : own_ok (B + 5) (own_bal S i).1 ∧ (own_bal S i).2 < 16 := by
  have h1 := own_ok_update h i
  unfold own_bal
  generalize own_update S i = U at h1
  unfold own_balU
  split
  · split
    · have h2 := own_ok_setL (own_ok_rotL h1 (h1.1 i)) (i := i) (h1.2.1 (own_l U i))
      exact ⟨own_ok_rotR h2 hi, h2.1 i⟩
    · exact ⟨own_ok_more (own_ok_rotR h1 hi) (by omega), h1.1 i⟩
  · split
    · split
      · have h2 := own_ok_setR (own_ok_rotR h1 (h1.2.1 i)) (i := i) (h1.1 (own_r U i))
        exact ⟨own_ok_rotL h2 hi, h2.2.1 i⟩
      · exact ⟨own_ok_more (own_ok_rotL h1 hi) (by omega), h1.2.1 i⟩
    · exact ⟨own_ok_more h1 (by omega), hi⟩
theorem own_ok_make {B : Nat} {S : own_S} (h : own_ok B S) {m : Nat} {e p : Int64} : own_ok B (own_make S m e p) :=
  ⟨own_upd_all (P := fun z => z < 16) h.1 (by decide), own_upd_all (P := fun z => z < 16) h.2.1 (by decide), own_upd_all (P := fun z => z ≤ B) h.2.2.1 h.2.2.2, h.2.2.2⟩
theorem own_add_zero (S : own_S) (md i : Nat) (e p : Int64) : own_add 0 S md i e p = (own_make S md e p, md + 1, md) := rfl
theorem own_add_nil (k : Nat) {S : own_S} {md i : Nat} (e p : Int64) (h : i = 0) : own_add (k + 1) S md i e p = (own_make S md e p, md + 1, md) := if_pos h
theorem own_add_lt (k : Nat) {S : own_S} {md i : Nat} {e p : Int64} (h : ¬ i = 0) (q : e < own_e S i) : own_add (k + 1) S md i e p = ((own_bal (own_setL (own_add k S md (own_l S i) e p).1 i (own_add k S md (own_l S i) e p).2.2) i).1, (own_add k S md (own_l S i) e p).2.1, (own_bal (own_setL (own_add k S md (own_l S i) e p).1 i (own_add k S md (own_l S i) e p).2.2) i).2) := (if_neg h).trans (if_pos q)
theorem own_add_gt (k : Nat) {S : own_S} {md i : Nat} {e p : Int64} (h : ¬ i = 0) (q : ¬ e < own_e S i) (q' : own_e S i < e) : own_add (k + 1) S md i e p = ((own_bal (own_setR (own_add k S md (own_r S i) e p).1 i (own_add k S md (own_r S i) e p).2.2) i).1, (own_add k S md (own_r S i) e p).2.1, (own_bal (own_setR (own_add k S md (own_r S i) e p).1 i (own_add k S md (own_r S i) e p).2.2) i).2) := (if_neg h).trans ((if_neg q).trans (if_pos q'))
theorem own_add_eq (k : Nat) {S : own_S} {md i : Nat} {e p : Int64} (h : ¬ i = 0) (q : ¬ e < own_e S i) (q' : ¬ own_e S i < e) : own_add (k + 1) S md i e p = ((own_bal (own_setP S i (own_p S i + p)) i).1, md, (own_bal (own_setP S i (own_p S i + p)) i).2) := (if_neg h).trans ((if_neg q).trans (if_neg q'))
theorem own_ok_add : ∀ (k : Nat) {B : Nat} {S : own_S} (_ : own_ok B S) {md i : Nat} (_ : i < 16) (_ : md < 16) (e p : Int64), own_ok (B + 5 * k) (own_add k S md i e p).1 ∧ (own_add k S md i e p).2.2 < 16
  | 0, B, S, h, md, i, hi, hm, e, p => ⟨own_ok_make h, hm⟩
  | k + 1, B, S, h, md, i, hi, hm, e, p => by
    by_cases z : i = 0
    · rw [own_add_nil k e p z]; exact ⟨own_ok_more (own_ok_make h) (by omega), hm⟩
    · by_cases q : e < own_e S i
      · rw [own_add_lt k z q]
        have w := own_ok_add k h (h.1 i) hm e p
        have v := own_ok_bal (own_ok_setL w.1 (i := i) w.2) hi
        exact ⟨own_ok_more v.1 (by omega), v.2⟩
      · by_cases q' : own_e S i < e
        · rw [own_add_gt k z q q']
          have w := own_ok_add k h (h.2.1 i) hm e p
          have v := own_ok_bal (own_ok_setR w.1 (i := i) w.2) hi
          exact ⟨own_ok_more v.1 (by omega), v.2⟩
        · rw [own_add_eq k z q q']
          have v := own_ok_bal (own_ok_setP h (i := i) (v := own_p S i + p)) hi
          exact ⟨own_ok_more v.1 (by omega), v.2⟩
theorem own_deep_l {k : Nat} {S : own_S} {i : Nat} (h : own_deep (k + 1) S i) (z : ¬ i = 0) : own_deep k S (own_l S i) := (h.resolve_left z).1
theorem own_deep_r {k : Nat} {S : own_S} {i : Nat} (h : own_deep (k + 1) S i) (z : ¬ i = 0) : own_deep k S (own_r S i) := (h.resolve_left z).2
/-! sums -/
def own_sum (f : Nat → Int64) : List Nat → Int64
  | [] => 0
  | j :: L => f j + own_sum f L
theorem own_sum_app (f : Nat → Int64) : ∀ A C : List Nat, own_sum f (A ++ C) = own_sum f A + own_sum f C
  | [], C => (Int64.zero_add _).symm
  | a :: A, C => by show f a + own_sum f (A ++ C) = f a + own_sum f A + own_sum f C; rw [own_sum_app f A C, Int64.add_assoc]
theorem own_sum_congr {f g : Nat → Int64} : ∀ {L : List Nat}, (∀ j ∈ L, f j = g j) → own_sum f L = own_sum g L
  | [], _ => rfl
  | a :: L, h => by show f a + own_sum f L = g a + own_sum g L; rw [h a (List.mem_cons_self ..), own_sum_congr fun j q => h j (List.mem_cons_of_mem _ q)]
theorem own_sum_mid (f : Nat → Int64) (A C : List Nat) (i : Nat) : own_sum f (A ++ i :: C) = own_sum f A + own_sum f C + f i := by
  rw [own_sum_app]; show own_sum f A + (f i + own_sum f C) = _; rw [Int64.add_comm (f i), Int64.add_assoc]
/-! the tree: its nodes from the left to the right -/
def own_R : Nat → own_S → Nat → List Nat → Prop
  | 0, _, i, L => i = 0 ∧ L = []
  | k + 1, S, i, L => (i = 0 ∧ L = []) ∨ (i ≠ 0 ∧ i < 16 ∧ ∃ A C, L = A ++ i :: C ∧ own_R k S (own_l S i) A ∧ own_R k S (own_r S i) C ∧ own_s S i = own_sum (own_p S) L)
def own_T (S : own_S) (i : Nat) (L : List Nat) : Prop := ∃ k, own_R k S i L
theorem own_R_up {S : own_S} : ∀ {k i : Nat} {L : List Nat}, own_R k S i L → own_R (k + 1) S i L
  | 0, _, _, h => Or.inl h
  | _ + 1, _, _, Or.inl h => Or.inl h
  | _ + 1, _, _, Or.inr ⟨h1, h2, A, C, h3, h4, h5, h6⟩ => Or.inr ⟨h1, h2, A, C, h3, own_R_up h4, own_R_up h5, h6⟩
theorem own_R_le {S : own_S} {k n i : Nat} {L : List Nat} (h : own_R k S i L) (q : k ≤ n) : own_R n S i L := by
  induction q with
  | refl => exact h
  | step _ ih => exact own_R_up ih
theorem own_T_nil (S : own_S) : own_T S 0 [] := ⟨0, rfl, rfl⟩
theorem own_T_node {S : own_S} {i : Nat} {A C : List Nat} (h1 : i ≠ 0) (h2 : i < 16) (hA : own_T S (own_l S i) A) (hC : own_T S (own_r S i) C) (hs : own_s S i = own_sum (own_p S) (A ++ i :: C)) : own_T S i (A ++ i :: C) := by
  obtain ⟨k, hA⟩ := hA
  obtain ⟨n, hC⟩ := hC
  exact ⟨max k n + 1, Or.inr ⟨h1, h2, A, C, rfl, own_R_le hA (Nat.le_max_left ..), own_R_le hC (Nat.le_max_right ..), hs⟩⟩
theorem own_T_inv {S : own_S} {i : Nat} {L : List Nat} (h : own_T S i L) : (i = 0 ∧ L = []) ∨ (i ≠ 0 ∧ i < 16 ∧ ∃ A C, L = A ++ i :: C ∧ own_T S (own_l S i) A ∧ own_T S (own_r S i) C ∧ own_s S i = own_sum (own_p S) L) := by
  obtain ⟨k, h⟩ := h
  match k, h with
  | 0, h => exact Or.inl h
  | _ + 1, Or.inl h => exact Or.inl h
  | k + 1, Or.inr ⟨h1, h2, A, C, h3, h4, h5, h6⟩ => exact Or.inr ⟨h1, h2, A, C, h3, ⟨k, h4⟩, ⟨k, h5⟩, h6⟩
theorem own_R_frame {S U : own_S} : ∀ {k i : Nat} {L : List Nat}, own_R k S i L → (∀ j ∈ L, own_l U j = own_l S j ∧ own_r U j = own_r S j ∧ own_s U j = own_s S j ∧ own_p U j = own_p S j) → own_R k U i L
  | 0, _, _, h, _ => h
  | _ + 1, _, _, Or.inl h, _ => Or.inl h
  | k + 1, i, L, Or.inr ⟨h1, h2, A, C, h3, h4, h5, h6⟩, q => by
    subst h3
    have m : i ∈ A ++ i :: C := List.mem_append_right _ (List.mem_cons_self ..)
    obtain ⟨q1, q2, q3, -⟩ := q i m
    refine Or.inr ⟨h1, h2, A, C, rfl, ?_, ?_, ?_⟩
    · rw [q1]; exact own_R_frame h4 fun j z => q j (List.mem_append_left _ z)
    · rw [q2]; exact own_R_frame h5 fun j z => q j (List.mem_append_right _ (List.mem_cons_of_mem _ z))
    · rw [q3, h6]; exact own_sum_congr fun j z => ((q j z).2.2.2).symm
theorem own_T_frame {S U : own_S} {i : Nat} {L : List Nat} (h : own_T S i L) (q : ∀ j ∈ L, own_l U j = own_l S j ∧ own_r U j = own_r S j ∧ own_s U j = own_s S j ∧ own_p U j = own_p S j) : own_T U i L := by
  obtain ⟨k, h⟩ := h; exact ⟨k, own_R_frame h q⟩
theorem own_T_sum {S : own_S} {i : Nat} {L : List Nat} (h : own_T S i L) (h0 : own_s S 0 = 0) : own_s S i = own_sum (own_p S) L := by
  rcases own_T_inv h with ⟨rfl, rfl⟩ | ⟨-, -, -, -, -, -, -, q⟩
  · exact h0
  · exact q
theorem own_R_mem {S : own_S} : ∀ {k i : Nat} {L : List Nat}, own_R k S i L → ∀ j ∈ L, j ≠ 0
  | 0, _, _, ⟨_, h⟩, j, q => by subst h; exact nomatch q
  | _ + 1, _, _, Or.inl ⟨_, h⟩, j, q => by subst h; exact nomatch q
  | k + 1, i, L, Or.inr ⟨h1, _, A, C, h3, h4, h5, _⟩, j, q => by
    subst h3
    rcases List.mem_append.mp q with q | q
    · exact own_R_mem h4 j q
    · rcases List.mem_cons.mp q with q | q
      · subst q; exact h1
      · exact own_R_mem h5 j q
theorem own_T_mem {S : own_S} {i : Nat} {L : List Nat} (h : own_T S i L) : ∀ j ∈ L, j ≠ 0 := by obtain ⟨k, h⟩ := h; exact own_R_mem h
theorem own_T_root {S : own_S} {i : Nat} {L : List Nat} (h : own_T S i L) (z : i ≠ 0) : i ∈ L := by
  rcases own_T_inv h with ⟨q, -⟩ | ⟨-, -, A, C, rfl, -⟩
  · exact absurd q z
  · exact List.mem_append_right _ (List.mem_cons_self ..)
theorem own_T_ne {S : own_S} {i j : Nat} {L : List Nat} (h : own_T S i L) (hj : j ∉ L) (z : j ≠ 0) : i ≠ j := fun q => by
  subst q; exact hj (own_T_root h z)
theorem own_R_deep {S : own_S} : ∀ {k i n : Nat} {L : List Nat}, own_R k S i L → L.length ≤ n → own_deep n S i
  | 0, _, 0, _, ⟨h, _⟩, _ => h
  | 0, _, _ + 1, _, ⟨h, _⟩, _ => Or.inl h
  | _ + 1, _, 0, _, Or.inl ⟨h, _⟩, _ => h
  | _ + 1, _, _ + 1, _, Or.inl ⟨h, _⟩, _ => Or.inl h
  | _ + 1, _, 0, _, Or.inr ⟨_, _, A, C, h3, _⟩, q => by subst h3; simp at q
  | k + 1, i, n + 1, L, Or.inr ⟨_, _, A, C, h3, h4, h5, _⟩, q => by
    subst h3
    simp only [List.length_append, List.length_cons] at q
    exact Or.inr ⟨own_R_deep h4 (by omega), own_R_deep h5 (by omega)⟩
theorem own_T_deep {S : own_S} {i n : Nat} {L : List Nat} (h : own_T S i L) (q : L.length ≤ n) : own_deep n S i := by obtain ⟨k, h⟩ := h; exact own_R_deep h q
def own_out (S U : own_S) (X : List Nat) : Prop := ∀ y, y ∉ X → own_l U y = own_l S y ∧ own_r U y = own_r S y ∧ own_s U y = own_s S y ∧ own_h U y = own_h S y
theorem own_rotR_spec {S : own_S} {i : Nat} {L1 L2 : List Nat} (hi : i ≠ 0) (hi' : i < 16) (hc : own_l S i ≠ 0) (h1 : own_T S (own_l S i) L1) (h2 : own_T S (own_r S i) L2) (nd : (L1 ++ i :: L2).Nodup) (h0 : own_s S 0 = 0) :
    own_T (own_rotR S i) (own_l S i) (L1 ++ i :: L2) ∧ own_e (own_rotR S i) = own_e S ∧ own_p (own_rotR S i) = own_p S ∧ own_out S (own_rotR S i) (L1 ++ i :: L2) := by
  rcases own_T_inv h1 with ⟨q, -⟩ | ⟨-, hc', A, M, hL, hA, hM, -⟩
  · exact absurd q hc
  have el : own_l (own_rotR S i) = own_upd (own_l S) i (own_r S (own_l S i)) := rfl
  have er : own_r (own_rotR S i) = own_upd (own_r S) (own_l S i) i := rfl
  have ep : own_p (own_rotR S i) = own_p S := rfl
  have ee : own_e (own_rotR S i) = own_e S := rfl
  have es : own_s (own_rotR S i) = own_upd (own_upd (own_s S) i (own_s S (own_upd (own_l S) i (own_r S (own_l S i)) i) + own_s S (own_upd (own_r S) (own_l S i) i i) + own_p S i)) (own_l S i) (own_upd (own_s S) i (own_s S (own_upd (own_l S) i (own_r S (own_l S i)) i) + own_s S (own_upd (own_r S) (own_l S i) i i) + own_p S i) (own_upd (own_l S) i (own_r S (own_l S i)) (own_l S i)) + own_upd (own_s S) i (own_s S (own_upd (own_l S) i (own_r S (own_l S i)) i) + own_s S (own_upd (own_r S) (own_l S i) i i) + own_p S i) (own_upd (own_r S) (own_l S i) i (own_l S i)) + own_p S (own_l S i)) := rfl
  have eh : ∃ u v, own_h (own_rotR S i) = own_upd (own_upd (own_h S) i u) (own_l S i) v := ⟨_, _, rfl⟩
  generalize own_rotR S i = U at *
  generalize own_l S i = c at *
  obtain ⟨u, v, eh⟩ := eh
  subst hL
  obtain ⟨ndL, ndR, nd3⟩ := List.nodup_append.mp nd
  obtain ⟨ndA, ndcM, nd4⟩ := List.nodup_append.mp ndL
  obtain ⟨cM, ndM⟩ := List.nodup_cons.mp ndcM
  obtain ⟨iL2, nd2⟩ := List.nodup_cons.mp ndR
  have mc : c ∈ A ++ c :: M := List.mem_append_right _ (List.mem_cons_self ..)
  have hci : c ≠ i := nd3 c mc i (List.mem_cons_self ..)
  have hic : i ≠ c := hci.symm
  have fr : ∀ y, y ≠ i → y ≠ c → own_l U y = own_l S y ∧ own_r U y = own_r S y ∧ own_s U y = own_s S y ∧ own_p U y = own_p S y := fun y q1 q2 =>
    ⟨by rw [el, own_upd_ne _ _ q1], by rw [er, own_upd_ne _ _ q2], by rw [es, own_upd_ne _ _ q2, own_upd_ne _ _ q1], by rw [ep]⟩
  have frA : ∀ y ∈ A, own_l U y = own_l S y ∧ own_r U y = own_r S y ∧ own_s U y = own_s S y ∧ own_p U y = own_p S y := fun y q => fr y (nd3 y (List.mem_append_left _ q) i (List.mem_cons_self ..)) (nd4 y q c (List.mem_cons_self ..))
  have frM : ∀ y ∈ M, own_l U y = own_l S y ∧ own_r U y = own_r S y ∧ own_s U y = own_s S y ∧ own_p U y = own_p S y := fun y q => fr y (nd3 y (List.mem_append_right _ (List.mem_cons_of_mem _ q)) i (List.mem_cons_self ..)) (fun z => cM (z ▸ q))
  have frC : ∀ y ∈ L2, own_l U y = own_l S y ∧ own_r U y = own_r S y ∧ own_s U y = own_s S y ∧ own_p U y = own_p S y := fun y q => fr y (fun z => iL2 (z ▸ q)) (nd3 c mc y (List.mem_cons_of_mem _ q)).symm
  have hlc : own_l S c ≠ i := own_T_ne hA (fun q => nd3 i (List.mem_append_left _ q) i (List.mem_cons_self ..) rfl) hi
  have lc : own_l U c = own_l S c := by rw [el, own_upd_ne _ _ hci]
  have rc : own_r U c = i := by rw [er, own_upd_same]
  have li : own_l U i = own_r S c := by rw [el, own_upd_same]
  have ri : own_r U i = own_r S i := by rw [er, own_upd_ne _ _ hic]
  have si : own_s U i = own_s S (own_r S c) + own_s S (own_r S i) + own_p S i := by simp [es, own_upd, hic, hci]
  have sc : own_s U c = own_s S (own_l S c) + own_s U i + own_p S c := by rw [si]; simp [es, own_upd, hic, hci, hlc]
  have tM : own_T U (own_l U i) M := by rw [li]; exact own_T_frame hM frM
  have tC : own_T U (own_r U i) L2 := by rw [ri]; exact own_T_frame h2 frC
  have hsi : own_s U i = own_sum (own_p U) (M ++ i :: L2) := by rw [si, ep, own_sum_mid, own_T_sum hM h0, own_T_sum h2 h0]
  have ti : own_T U i (M ++ i :: L2) := own_T_node hi hi' tM tC hsi
  have tA : own_T U (own_l U c) A := by rw [lc]; exact own_T_frame hA frA
  have tc : own_T U c (A ++ c :: (M ++ i :: L2)) := own_T_node hc hc' tA (by rw [rc]; exact ti) (by rw [sc, own_sum_mid, hsi, own_T_sum hA h0, ep])
  have eL : (A ++ c :: M) ++ i :: L2 = A ++ c :: (M ++ i :: L2) := by simp
  refine ⟨by rw [eL]; exact tc, ee, ep, fun y q => ?_⟩
  have q1 : y ≠ i := fun z => q (by rw [z]; exact List.mem_append_right _ (List.mem_cons_self ..))
  have q2 : y ≠ c := fun z => q (by rw [z]; exact List.mem_append_left _ mc)
  obtain ⟨w1, w2, w3, -⟩ := fr y q1 q2
  exact ⟨w1, w2, w3, by rw [eh, own_upd_ne _ _ q2, own_upd_ne _ _ q1]⟩
theorem own_rotL_spec {S : own_S} {i : Nat} {L1 L2 : List Nat} (hi : i ≠ 0) (hi' : i < 16) (hc : own_r S i ≠ 0) (h1 : own_T S (own_l S i) L1) (h2 : own_T S (own_r S i) L2) (nd : (L1 ++ i :: L2).Nodup) (h0 : own_s S 0 = 0) :
    own_T (own_rotL S i) (own_r S i) (L1 ++ i :: L2) ∧ own_e (own_rotL S i) = own_e S ∧ own_p (own_rotL S i) = own_p S ∧ own_out S (own_rotL S i) (L1 ++ i :: L2) := by
  rcases own_T_inv h2 with ⟨q, -⟩ | ⟨-, hc', M, C, hL, hM, hC, -⟩
  · exact absurd q hc
  have er : own_r (own_rotL S i) = own_upd (own_r S) i (own_l S (own_r S i)) := rfl
  have el : own_l (own_rotL S i) = own_upd (own_l S) (own_r S i) i := rfl
  have ep : own_p (own_rotL S i) = own_p S := rfl
  have ee : own_e (own_rotL S i) = own_e S := rfl
  have es : own_s (own_rotL S i) = own_upd (own_upd (own_s S) i (own_s S (own_upd (own_l S) (own_r S i) i i) + own_s S (own_upd (own_r S) i (own_l S (own_r S i)) i) + own_p S i)) (own_r S i) (own_upd (own_s S) i (own_s S (own_upd (own_l S) (own_r S i) i i) + own_s S (own_upd (own_r S) i (own_l S (own_r S i)) i) + own_p S i) (own_upd (own_l S) (own_r S i) i (own_r S i)) + own_upd (own_s S) i (own_s S (own_upd (own_l S) (own_r S i) i i) + own_s S (own_upd (own_r S) i (own_l S (own_r S i)) i) + own_p S i) (own_upd (own_r S) i (own_l S (own_r S i)) (own_r S i)) + own_p S (own_r S i)) := rfl
  have eh : ∃ u v, own_h (own_rotL S i) = own_upd (own_upd (own_h S) i u) (own_r S i) v := ⟨_, _, rfl⟩
  generalize own_rotL S i = U at *
  generalize own_r S i = c at *
  obtain ⟨u, v, eh⟩ := eh
  subst hL
  obtain ⟨nd1, ndR, nd3⟩ := List.nodup_append.mp nd
  obtain ⟨iL2, ndL⟩ := List.nodup_cons.mp ndR
  obtain ⟨ndM, ndcC, nd4⟩ := List.nodup_append.mp ndL
  obtain ⟨cC, ndC⟩ := List.nodup_cons.mp ndcC
  have mc : c ∈ M ++ c :: C := List.mem_append_right _ (List.mem_cons_self ..)
  have hci : c ≠ i := fun z => iL2 (z ▸ mc)
  have hic : i ≠ c := hci.symm
  have fr : ∀ y, y ≠ i → y ≠ c → own_l U y = own_l S y ∧ own_r U y = own_r S y ∧ own_s U y = own_s S y ∧ own_p U y = own_p S y := fun y q1 q2 =>
    ⟨by rw [el, own_upd_ne _ _ q2], by rw [er, own_upd_ne _ _ q1], by rw [es, own_upd_ne _ _ q2, own_upd_ne _ _ q1], by rw [ep]⟩
  have frA : ∀ y ∈ L1, own_l U y = own_l S y ∧ own_r U y = own_r S y ∧ own_s U y = own_s S y ∧ own_p U y = own_p S y := fun y q => fr y (nd3 y q i (List.mem_cons_self ..)) (nd3 y q c (List.mem_cons_of_mem _ mc))
  have frM : ∀ y ∈ M, own_l U y = own_l S y ∧ own_r U y = own_r S y ∧ own_s U y = own_s S y ∧ own_p U y = own_p S y := fun y q => fr y (fun z => iL2 (z ▸ List.mem_append_left _ q)) (nd4 y q c (List.mem_cons_self ..))
  have frC : ∀ y ∈ C, own_l U y = own_l S y ∧ own_r U y = own_r S y ∧ own_s U y = own_s S y ∧ own_p U y = own_p S y := fun y q => fr y (fun z => iL2 (z ▸ List.mem_append_right _ (List.mem_cons_of_mem _ q))) (fun z => cC (z ▸ q))
  have hrc : own_r S c ≠ i := own_T_ne hC (fun q => iL2 (List.mem_append_right _ (List.mem_cons_of_mem _ q))) hi
  have rc : own_r U c = own_r S c := by rw [er, own_upd_ne _ _ hci]
  have lc : own_l U c = i := by rw [el, own_upd_same]
  have ri : own_r U i = own_l S c := by rw [er, own_upd_same]
  have li : own_l U i = own_l S i := by rw [el, own_upd_ne _ _ hic]
  have si : own_s U i = own_s S (own_l S i) + own_s S (own_l S c) + own_p S i := by simp [es, own_upd, hic, hci]
  have sc : own_s U c = own_s U i + own_s S (own_r S c) + own_p S c := by rw [si]; simp [es, own_upd, hic, hci, hrc]
  have tA : own_T U (own_l U i) L1 := by rw [li]; exact own_T_frame h1 frA
  have tM : own_T U (own_r U i) M := by rw [ri]; exact own_T_frame hM frM
  have hsi : own_s U i = own_sum (own_p U) (L1 ++ i :: M) := by rw [si, ep, own_sum_mid, own_T_sum hM h0, own_T_sum h1 h0]
  have ti : own_T U i (L1 ++ i :: M) := own_T_node hi hi' tA tM hsi
  have tC : own_T U (own_r U c) C := by rw [rc]; exact own_T_frame hC frC
  have tc : own_T U c ((L1 ++ i :: M) ++ c :: C) := own_T_node hc hc' (by rw [lc]; exact ti) tC (by rw [sc, own_sum_mid, hsi, own_T_sum hC h0, ep])
  have eL : L1 ++ i :: (M ++ c :: C) = (L1 ++ i :: M) ++ c :: C := by simp
  refine ⟨by rw [eL]; exact tc, ee, ep, fun y q => ?_⟩
  have q1 : y ≠ i := fun z => q (by rw [z]; exact List.mem_append_right _ (List.mem_cons_self ..))
  have q2 : y ≠ c := fun z => q (by rw [z]; exact List.mem_append_right _ (List.mem_cons_of_mem _ mc))
  obtain ⟨w1, w2, w3, -⟩ := fr y q1 q2
  exact ⟨w1, w2, w3, by rw [eh, own_upd_ne _ _ q2, own_upd_ne _ _ q1]⟩
theorem own_nat32 {x B : Nat} (h : x ≤ B) (hB : B < 1000000) : (Int32.ofNat x).toInt = (x : Int) := own_toInt (n := 1000000) (by omega) (by decide)
theorem own_gt1 {x y B : Nat} (hx : x ≤ B) (hy : y ≤ B) (hB : B < 1000000) (h : (1 : Int32) < Int32.ofNat x - Int32.ofNat y) : y + 1 < x := by
  rw [Int32.lt_iff_toInt_lt, show (1 : Int32).toInt = 1 from by decide] at h
  have c := c_isub (Int32.ofNat x) (Int32.ofNat y)
  have r := rng32 (Int32.ofNat x - Int32.ofNat y)
  rw [own_nat32 hx hB, own_nat32 hy hB] at c
  omega
theorem own_ltm {x y B : Nat} (hx : x ≤ B) (hy : y ≤ B) (hB : B < 1000000) (h : Int32.ofNat x - Int32.ofNat y < (-1 : Int32)) : x + 1 < y := by
  rw [Int32.lt_iff_toInt_lt, show (-1 : Int32).toInt = -1 from by decide] at h
  have c := c_isub (Int32.ofNat x) (Int32.ofNat y)
  have r := rng32 (Int32.ofNat x - Int32.ofNat y)
  rw [own_nat32 hx hB, own_nat32 hy hB] at c
  omega
theorem own_lt32 {x y B : Nat} (hx : x ≤ B) (hy : y ≤ B) (hB : B < 1000000) (h : Int32.ofNat x < Int32.ofNat y) : x < y := by
  rw [Int32.lt_iff_toInt_lt, own_nat32 hx hB, own_nat32 hy hB] at h; omega
theorem own_out_trans {S U V : own_S} {X : List Nat} (h : own_out S U X) (q : own_out U V X) : own_out S V X := fun y hy => by
  obtain ⟨a1, a2, a3, a4⟩ := h y hy
  obtain ⟨b1, b2, b3, b4⟩ := q y hy
  exact ⟨b1.trans a1, b2.trans a2, b3.trans a3, b4.trans a4⟩
theorem own_balU_spec {U : own_S} {i B : Nat} {L1 L2 : List Nat} (hi : i ≠ 0) (hi' : i < 16) (t1 : own_T U (own_l U i) L1) (t2 : own_T U (own_r U i) L2) (nd : (L1 ++ i :: L2).Nodup) (u0 : own_s U 0 = 0) (v0 : own_h U 0 = 0) (hU : ∀ j, own_h U j ≤ B) (hB : B < 1000000) (hs : own_s U i = own_sum (own_p U) (L1 ++ i :: L2)) :
    own_T (own_balU U i).1 (own_balU U i).2 (L1 ++ i :: L2) ∧ own_e (own_balU U i).1 = own_e U ∧ own_p (own_balU U i).1 = own_p U ∧ own_out U (own_balU U i).1 (L1 ++ i :: L2) := by
  obtain ⟨nd1, ndR, nd3⟩ := List.nodup_append.mp nd
  obtain ⟨iL2, nd2⟩ := List.nodup_cons.mp ndR
  have iL1 : i ∉ L1 := fun q => nd3 i q i (List.mem_cons_self ..) rfl
  unfold own_balU
  split
  · rename_i g1
    have k1 := own_gt1 (hU _) (hU _) hB g1
    have hc : own_l U i ≠ 0 := fun z => by rw [z, v0] at k1; omega
    split
    · rename_i g2
      have k2 := own_lt32 (hU _) (hU _) hB g2
      have hd : own_r U (own_l U i) ≠ 0 := fun z => by rw [z, v0] at k2; omega
      rcases own_T_inv t1 with ⟨q, -⟩ | ⟨-, hc', A, M, hL, hA, hM, -⟩
      · exact absurd q hc
      have ndL : (A ++ own_l U i :: M).Nodup := hL ▸ nd1
      obtain ⟨s1, s2, s3, s4⟩ := own_rotL_spec hc hc' hd hA hM ndL u0
      rw [← hL] at s1 s4
      have hmd : own_r U (own_l U i) ∈ L1 := by
        have q := own_T_root s1 hd; exact q
      generalize own_rotL U (own_l U i) = V at *
      generalize own_r U (own_l U i) = d at *
      have oV : own_out U V (L1 ++ i :: L2) := fun y q => s4 y fun z => q (List.mem_append_left _ z)
      have fV : ∀ y ∈ L1, own_l (own_setL V i d) y = own_l V y ∧ own_r (own_setL V i d) y = own_r V y ∧ own_s (own_setL V i d) y = own_s V y ∧ own_p (own_setL V i d) y = own_p V y := fun y q => ⟨own_upd_ne _ _ fun z => iL1 (z ▸ q), rfl, rfl, rfl⟩
      have w1 : own_l (own_setL V i d) i = d := own_upd_same _ _ _
      have w2 : own_r (own_setL V i d) i = own_r U i := (s4 i iL1).2.1
      have x1 : own_T (own_setL V i d) (own_l (own_setL V i d) i) L1 := by rw [w1]; exact own_T_frame s1 fV
      have x2 : own_T (own_setL V i d) (own_r (own_setL V i d) i) L2 := by
        rw [w2]
        refine own_T_frame t2 fun y q => ?_
        have yi : y ≠ i := fun z => iL2 (z ▸ q)
        have yL : y ∉ L1 := fun z => nd3 y z y (List.mem_cons_of_mem _ q) rfl
        obtain ⟨a1, a2, a3, -⟩ := s4 y yL
        exact ⟨(own_upd_ne _ _ yi).trans a1, a2, a3, congrFun s3 y⟩
      have zL : 0 ∉ L1 := fun q => own_T_mem t1 0 q rfl
      have x0 : own_s (own_setL V i d) 0 = 0 := (s4 0 zL).2.2.1.trans u0
      have z1 : own_l (own_setL V i d) i ≠ 0 := by rw [w1]; exact hd
      obtain ⟨r1, r2, r3, r4⟩ := own_rotR_spec hi hi' z1 x1 x2 nd x0
      have oW : own_out V (own_setL V i d) (L1 ++ i :: L2) := fun y q => ⟨own_upd_ne _ _ fun z => q (by rw [z]; exact List.mem_append_right _ (List.mem_cons_self ..)), rfl, rfl, rfl⟩
      exact ⟨r1, r2.trans s2, r3.trans s3, own_out_trans oV (own_out_trans oW r4)⟩
    · obtain ⟨r1, r2, r3, r4⟩ := own_rotR_spec hi hi' hc t1 t2 nd u0
      exact ⟨r1, r2, r3, r4⟩
  · split
    · rename_i g1
      have k1 := own_ltm (hU _) (hU _) hB g1
      have hc : own_r U i ≠ 0 := fun z => by rw [z, v0] at k1; omega
      split
      · rename_i g2
        have k2 := own_lt32 (hU _) (hU _) hB g2
        have hd : own_l U (own_r U i) ≠ 0 := fun z => by rw [z, v0] at k2; omega
        rcases own_T_inv t2 with ⟨q, -⟩ | ⟨-, hc', A, M, hL, hA, hM, -⟩
        · exact absurd q hc
        have ndL : (A ++ own_r U i :: M).Nodup := hL ▸ nd2
        obtain ⟨s1, s2, s3, s4⟩ := own_rotR_spec hc hc' hd hA hM ndL u0
        rw [← hL] at s1 s4
        generalize own_rotR U (own_r U i) = V at *
        generalize own_l U (own_r U i) = d at *
        have oV : own_out U V (L1 ++ i :: L2) := fun y q => s4 y fun z => q (List.mem_append_right _ (List.mem_cons_of_mem _ z))
        have fV : ∀ y ∈ L2, own_l (own_setR V i d) y = own_l V y ∧ own_r (own_setR V i d) y = own_r V y ∧ own_s (own_setR V i d) y = own_s V y ∧ own_p (own_setR V i d) y = own_p V y := fun y q => ⟨rfl, own_upd_ne _ _ fun z => iL2 (z ▸ q), rfl, rfl⟩
        have w1 : own_r (own_setR V i d) i = d := own_upd_same _ _ _
        have w2 : own_l (own_setR V i d) i = own_l U i := (s4 i iL2).1
        have x2 : own_T (own_setR V i d) (own_r (own_setR V i d) i) L2 := by rw [w1]; exact own_T_frame s1 fV
        have x1 : own_T (own_setR V i d) (own_l (own_setR V i d) i) L1 := by
          rw [w2]
          refine own_T_frame t1 fun y q => ?_
          have yi : y ≠ i := fun z => iL1 (z ▸ q)
          have yL : y ∉ L2 := fun z => nd3 y q y (List.mem_cons_of_mem _ z) rfl
          obtain ⟨a1, a2, a3, -⟩ := s4 y yL
          exact ⟨a1, (own_upd_ne _ _ yi).trans a2, a3, congrFun s3 y⟩
        have zL : 0 ∉ L2 := fun q => own_T_mem t2 0 q rfl
        have x0 : own_s (own_setR V i d) 0 = 0 := (s4 0 zL).2.2.1.trans u0
        have z1 : own_r (own_setR V i d) i ≠ 0 := by rw [w1]; exact hd
        obtain ⟨r1, r2, r3, r4⟩ := own_rotL_spec hi hi' z1 x1 x2 nd x0
        have oW : own_out V (own_setR V i d) (L1 ++ i :: L2) := fun y q => ⟨rfl, own_upd_ne _ _ fun z => q (by rw [z]; exact List.mem_append_right _ (List.mem_cons_self ..)), rfl, rfl⟩
        exact ⟨r1, r2.trans s2, r3.trans s3, own_out_trans oV (own_out_trans oW r4)⟩
      · obtain ⟨r1, r2, r3, r4⟩ := own_rotL_spec hi hi' hc t1 t2 nd u0
        exact ⟨r1, r2, r3, r4⟩
    · exact ⟨own_T_node hi hi' t1 t2 hs, rfl, rfl, fun y _ => ⟨rfl, rfl, rfl, rfl⟩⟩
theorem own_bal_spec {S : own_S} {i B : Nat} {L1 L2 : List Nat} (hi : i ≠ 0) (hi' : i < 16) (h1 : own_T S (own_l S i) L1) (h2 : own_T S (own_r S i) L2) (nd : (L1 ++ i :: L2).Nodup) (h0 : own_s S 0 = 0) (hh : own_h S 0 = 0) (ok : own_ok B S) (hB : B + 1 < 1000000) :
    own_T (own_bal S i).1 (own_bal S i).2 (L1 ++ i :: L2) ∧ own_e (own_bal S i).1 = own_e S ∧ own_p (own_bal S i).1 = own_p S ∧ own_out S (own_bal S i).1 (L1 ++ i :: L2) := by
  have ok1 := own_ok_update ok i
  have el : own_l (own_update S i) = own_l S := rfl
  have er : own_r (own_update S i) = own_r S := rfl
  have ee : own_e (own_update S i) = own_e S := rfl
  have ep : own_p (own_update S i) = own_p S := rfl
  have es : own_s (own_update S i) = own_upd (own_s S) i (own_s S (own_l S i) + own_s S (own_r S i) + own_p S i) := rfl
  have eh : ∃ u, own_h (own_update S i) = own_upd (own_h S) i u := ⟨_, rfl⟩
  unfold own_bal
  generalize own_update S i = U at *
  obtain ⟨u, eh⟩ := eh
  obtain ⟨nd1, ndR, nd3⟩ := List.nodup_append.mp nd
  obtain ⟨iL2, nd2⟩ := List.nodup_cons.mp ndR
  have iL1 : i ∉ L1 := fun q => nd3 i q i (List.mem_cons_self ..) rfl
  have fr : ∀ y, y ≠ i → own_l U y = own_l S y ∧ own_r U y = own_r S y ∧ own_s U y = own_s S y ∧ own_p U y = own_p S y := fun y q => ⟨by rw [el], by rw [er], by rw [es, own_upd_ne _ _ q], by rw [ep]⟩
  have t1 : own_T U (own_l U i) L1 := by rw [el]; exact own_T_frame h1 fun y q => fr y fun z => iL1 (z ▸ q)
  have t2 : own_T U (own_r U i) L2 := by rw [er]; exact own_T_frame h2 fun y q => fr y fun z => iL2 (z ▸ q)
  have u0 : own_s U 0 = 0 := by rw [es, own_upd_ne _ _ hi.symm]; exact h0
  have v0 : own_h U 0 = 0 := by rw [eh, own_upd_ne _ _ hi.symm]; exact hh
  have oU : own_out S U (L1 ++ i :: L2) := fun y q => by
    have q1 : y ≠ i := fun z => q (by rw [z]; exact List.mem_append_right _ (List.mem_cons_self ..))
    exact ⟨by rw [el], by rw [er], by rw [es, own_upd_ne _ _ q1], by rw [eh, own_upd_ne _ _ q1]⟩
  have hs : own_s U i = own_sum (own_p U) (L1 ++ i :: L2) := by rw [es, own_upd_same, ep, own_sum_mid, own_T_sum h1 h0, own_T_sum h2 h0]
  obtain ⟨r1, r2, r3, r4⟩ := own_balU_spec hi hi' t1 t2 nd u0 v0 ok1.2.2.1 hB hs
  exact ⟨r1, r2.trans ee, r3.trans ep, own_out_trans oU r4⟩
/-! what add and endingBy make of the tree -/
def own_srt (S : own_S) (L : List Nat) : Prop := L.Pairwise fun a b => own_e S a < own_e S b
theorem own_lt_irr {a : Int64} (h : a < a) : False := by rw [Int64.lt_iff_toInt_lt] at h; omega
theorem own_lt_tr {a b c : Int64} (h : a < b) (q : b < c) : a < c := by rw [Int64.lt_iff_toInt_lt] at *; omega
theorem own_srt_nd {S : own_S} {L : List Nat} (h : own_srt S L) : L.Nodup := h.imp fun q e => by subst e; exact own_lt_irr q
theorem own_srt_congr {S U : own_S} {L : List Nat} (h : own_srt S L) (q : ∀ y ∈ L, own_e U y = own_e S y) : own_srt U L := by
  induction L with
  | nil => exact List.Pairwise.nil
  | cons a L ih =>
    obtain ⟨h1, h2⟩ := List.pairwise_cons.mp h
    refine List.pairwise_cons.mpr ⟨fun b hb => ?_, ih h2 fun y hy => q y (List.mem_cons_of_mem _ hy)⟩
    rw [q a (List.mem_cons_self ..), q b (List.mem_cons_of_mem _ hb)]; exact h1 b hb
def own_cnt (S : own_S) (L : List Nat) (x : Int64) : Int64 := own_sum (fun j => if own_e S j ≤ x then own_p S j else 0) L
theorem own_cnt_congr {S U : own_S} {L : List Nat} (q : ∀ y ∈ L, own_e U y = own_e S y ∧ own_p U y = own_p S y) (x : Int64) : own_cnt U L x = own_cnt S L x := own_sum_congr fun y hy => by
  obtain ⟨q1, q2⟩ := q y hy; show (if own_e U y ≤ x then own_p U y else 0) = _; rw [q1, q2]
theorem own_cnt_mid (S : own_S) (A C : List Nat) (i : Nat) (x : Int64) : own_cnt S (A ++ i :: C) x = own_cnt S A x + own_cnt S C x + (if own_e S i ≤ x then own_p S i else 0) := own_sum_mid _ A C i
def own_far (S U : own_S) (L : List Nat) (md : Nat) : Prop := ∀ y, y ∉ L → y ≠ md → own_e U y = own_e S y ∧ own_p U y = own_p S y ∧ own_l U y = own_l S y ∧ own_r U y = own_r S y ∧ own_s U y = own_s S y ∧ own_h U y = own_h S y
theorem own_add_spec (e p : Int64) : ∀ (k : Nat) (S : own_S) (md i B : Nat) (L : List Nat), own_T S i L → L.length ≤ k → own_srt S L → (∀ y ∈ L, y < md) → 0 < md → md < 16 → i < 16 → own_s S 0 = 0 → own_h S 0 = 0 → own_ok B S → B + 5 * k + 5 < 1000000 →
    ∃ L', own_T (own_add k S md i e p).1 (own_add k S md i e p).2.2 L' ∧ L'.length ≤ L.length + 1 ∧ own_srt (own_add k S md i e p).1 L' ∧ (∀ y ∈ L', y ∈ L ∨ y = md) ∧ (∀ y ∈ L', y < (own_add k S md i e p).2.1) ∧ md ≤ (own_add k S md i e p).2.1 ∧ (own_add k S md i e p).2.1 ≤ md + 1 ∧
      own_far S (own_add k S md i e p).1 L md ∧ (∀ P : Int64 → Prop, (∀ y ∈ L, P (own_e S y)) → P e → ∀ y ∈ L', P (own_e (own_add k S md i e p).1 y)) ∧ ∀ x, own_cnt (own_add k S md i e p).1 L' x = own_cnt S L x + (if e ≤ x then p else 0) := by
  have base : ∀ (S : own_S) (md : Nat), 0 < md → md < 16 → ∃ L', own_T (own_make S md e p) md L' ∧ L'.length ≤ 0 + 1 ∧ own_srt (own_make S md e p) L' ∧ (∀ y ∈ L', y ∈ ([] : List Nat) ∨ y = md) ∧ (∀ y ∈ L', y < md + 1) ∧ md ≤ md + 1 ∧ md + 1 ≤ md + 1 ∧
      own_far S (own_make S md e p) [] md ∧ (∀ P : Int64 → Prop, (∀ y ∈ ([] : List Nat), P (own_e S y)) → P e → ∀ y ∈ L', P (own_e (own_make S md e p) y)) ∧ ∀ x, own_cnt (own_make S md e p) L' x = own_cnt S [] x + (if e ≤ x then p else 0) := by
    intro S md h0 h1
    have l1 : own_l (own_make S md e p) md = 0 := own_upd_same _ _ _
    have r1 : own_r (own_make S md e p) md = 0 := own_upd_same _ _ _
    have s1 : own_s (own_make S md e p) md = p := own_upd_same _ _ _
    have p1 : own_p (own_make S md e p) md = p := own_upd_same _ _ _
    have e1 : own_e (own_make S md e p) md = e := own_upd_same _ _ _
    refine ⟨[] ++ md :: [], own_T_node (by omega) h1 (by rw [l1]; exact own_T_nil _) (by rw [r1]; exact own_T_nil _) ?_, by simp, by simp [own_srt], by simp, by simp, by omega, by omega, ?_, ?_, ?_⟩
    · rw [s1]; show p = own_p (own_make S md e p) md + 0; rw [p1, Int64.add_zero]
    · intro y _ q
      exact ⟨own_upd_ne _ _ q, own_upd_ne _ _ q, own_upd_ne _ _ q, own_upd_ne _ _ q, own_upd_ne _ _ q, own_upd_ne _ _ q⟩
    · intro P _ q y hy
      have : y = md := by simpa using hy
      subst this; rw [e1]; exact q
    · intro x
      show (if own_e (own_make S md e p) md ≤ x then own_p (own_make S md e p) md else 0) + 0 = 0 + _
      rw [e1, p1, Int64.add_zero, Int64.zero_add]
  intro k
  induction k with
  | zero =>
    intro S md i B L hT hl hs hb h0 h1 hi hs0 hh0 ok hB
    obtain rfl : L = [] := List.eq_nil_of_length_eq_zero (by omega)
    rw [own_add_zero]
    exact base S md h0 h1
  | succ k ih =>
    intro S md i B L hT hl hs hb h0 h1 hi hs0 hh0 ok hB
    by_cases z : i = 0
    · rcases own_T_inv hT with ⟨-, rfl⟩ | ⟨q, -⟩
      · rw [own_add_nil k e p z]; exact base S md h0 h1
      · exact absurd z q
    · rcases own_T_inv hT with ⟨q, -⟩ | ⟨-, hi', L1, L2, rfl, t1, t2, hsum⟩
      · exact absurd q z
      obtain ⟨p1, pR, p3⟩ := List.pairwise_append.mp hs
      obtain ⟨p4, p2⟩ := List.pairwise_cons.mp pR
      have nd := own_srt_nd hs
      obtain ⟨nd1, ndR, nd3⟩ := List.nodup_append.mp nd
      obtain ⟨iL2, nd2⟩ := List.nodup_cons.mp ndR
      have iL1 : i ∉ L1 := fun q => nd3 i q i (List.mem_cons_self ..) rfl
      have mi : i ∈ L1 ++ i :: L2 := List.mem_append_right _ (List.mem_cons_self ..)
      have imd : i ≠ md := Nat.ne_of_lt (hb i mi)
      simp only [List.length_append, List.length_cons] at hl
      by_cases q : e < own_e S i
      · rw [own_add_lt k z q]
        have w := own_ok_add k ok (ok.1 i) h1 e p
        obtain ⟨L', T', len', srt', sub', bd', m1, m2, far', P', c'⟩ := ih S md (own_l S i) B L1 t1 (by omega) p1 (fun y hy => hb y (List.mem_append_left _ hy)) h0 h1 (ok.1 i) hs0 hh0 ok (by omega)
        generalize own_add k S md (own_l S i) e p = R at *
        have iL' : i ∉ L' := fun q => (sub' i q).elim iL1 imd
        have farI := far' i iL1 imd
        have yL2 : ∀ y ∈ L2, y ∉ L1 ∧ y ≠ md := fun y hy => ⟨fun q => nd3 y q y (List.mem_cons_of_mem _ hy) rfl, Nat.ne_of_lt (hb y (List.mem_append_right _ (List.mem_cons_of_mem _ hy)))⟩
        have zf := far' 0 (fun q => own_T_mem t1 0 q rfl) (by omega)
        have u1 : own_l (own_setL R.1 i R.2.2) i = R.2.2 := own_upd_same _ _ _
        have u2 : own_r (own_setL R.1 i R.2.2) i = own_r S i := farI.2.2.2.1
        have x1 : own_T (own_setL R.1 i R.2.2) (own_l (own_setL R.1 i R.2.2) i) L' := by
          rw [u1]; exact own_T_frame T' fun y hy => ⟨own_upd_ne _ _ fun q => iL' (q ▸ hy), rfl, rfl, rfl⟩
        have x2 : own_T (own_setL R.1 i R.2.2) (own_r (own_setL R.1 i R.2.2) i) L2 := by
          rw [u2]
          refine own_T_frame t2 fun y hy => ?_
          obtain ⟨f1, f2, f3, f4, f5, f6⟩ := far' y (yL2 y hy).1 (yL2 y hy).2
          exact ⟨(own_upd_ne (i := i) (j := y) (own_l R.1) R.2.2 fun q => iL2 (q ▸ hy)).trans f3, f4, f5, f2⟩
        have eI : own_e R.1 i = own_e S i := farI.1
        have eL2 : ∀ y ∈ L2, own_e R.1 y = own_e S y := fun y hy => (far' y (yL2 y hy).1 (yL2 y hy).2).1
        have lo : ∀ y ∈ L', own_e R.1 y < own_e S i := P' (fun v => v < own_e S i) (fun y hy => p3 y hy i (List.mem_cons_self ..)) q
        have srt2 : own_srt R.1 (L' ++ i :: L2) := List.pairwise_append.mpr ⟨srt', List.pairwise_cons.mpr ⟨fun b hb' => by rw [eI, eL2 b hb']; exact p4 b hb', own_srt_congr p2 eL2⟩, fun a ha b hb' => by
          rcases List.mem_cons.mp hb' with rfl | hb'
          · rw [eI]; exact lo a ha
          · rw [eL2 b hb']; exact own_lt_tr (lo a ha) (p4 b hb')⟩
        have nd' : (L' ++ i :: L2).Nodup := own_srt_nd srt2
        obtain ⟨r1, r2, r3, r4⟩ := own_bal_spec (B := B + 5 * k) z hi x1 x2 nd' (zf.2.2.2.2.1.trans hs0) (zf.2.2.2.2.2.trans hh0) (own_ok_setL w.1 w.2) (by omega)
        generalize own_bal (own_setL R.1 i R.2.2) i = D at *
        have eD : own_e D.1 = own_e R.1 := r2
        have pD : own_p D.1 = own_p R.1 := r3
        refine ⟨L' ++ i :: L2, r1, ?_, own_srt_congr srt2 fun y _ => congrFun eD y, ?_, ?_, m1, m2, ?_, ?_, ?_⟩
        · simp only [List.length_append, List.length_cons]; omega
        · intro y hy
          rcases List.mem_append.mp hy with hy | hy
          · exact (sub' y hy).imp (List.mem_append_left _) id
          · exact Or.inl (List.mem_append_right _ hy)
        · intro y hy
          rcases List.mem_append.mp hy with hy | hy
          · exact bd' y hy
          · exact Nat.lt_of_lt_of_le (hb y (List.mem_append_right _ hy)) m1
        · intro y hy hm
          have n1 : y ∉ L1 := fun q => hy (List.mem_append_left _ q)
          have n2 : y ≠ i := fun q => hy (q ▸ mi)
          have n3 : y ∉ L' ++ i :: L2 := fun q => (List.mem_append.mp q).elim (fun q => (sub' y q).elim n1 hm) (fun q => hy (List.mem_append_right _ q))
          obtain ⟨f1, f2, f3, f4, f5, f6⟩ := far' y n1 hm
          obtain ⟨g1, g2, g3, g4⟩ := r4 y n3
          exact ⟨(congrFun eD y).trans f1, (congrFun pD y).trans f2, g1.trans ((own_upd_ne _ _ n2).trans f3), g2.trans f4, g3.trans f5, g4.trans f6⟩
        · intro P hP he y hy
          rw [eD]
          rcases List.mem_append.mp hy with hy | hy
          · exact P' P (fun y hy => hP y (List.mem_append_left _ hy)) he y hy
          · rcases List.mem_cons.mp hy with rfl | hy
            · rw [eI]; exact hP _ mi
            · rw [eL2 y hy]; exact hP y (List.mem_append_right _ (List.mem_cons_of_mem _ hy))
        · intro x
          have c2 : own_cnt R.1 L2 x = own_cnt S L2 x := own_cnt_congr (fun y hy => ⟨eL2 y hy, (far' y (yL2 y hy).1 (yL2 y hy).2).2.1⟩) x
          rw [own_cnt_congr (S := R.1) (fun y _ => ⟨congrFun eD y, congrFun pD y⟩), own_cnt_mid, own_cnt_mid, c' x, c2, eI, farI.2.1]
          generalize own_cnt S L1 x = c1, own_cnt S L2 x = c2, (if own_e S i ≤ x then own_p S i else 0) = c3, (if e ≤ x then p else 0) = c4
          rw [Int64.add_assoc c1 c4, Int64.add_comm c4, ← Int64.add_assoc, Int64.add_assoc, Int64.add_comm c4, ← Int64.add_assoc]
      · by_cases q' : own_e S i < e
        · rw [own_add_gt k z q q']
          have w := own_ok_add k ok (ok.2.1 i) h1 e p
          obtain ⟨L', T', len', srt', sub', bd', m1, m2, far', P', c'⟩ := ih S md (own_r S i) B L2 t2 (by omega) p2 (fun y hy => hb y (List.mem_append_right _ (List.mem_cons_of_mem _ hy))) h0 h1 (ok.2.1 i) hs0 hh0 ok (by omega)
          generalize own_add k S md (own_r S i) e p = R at *
          have iL' : i ∉ L' := fun q => (sub' i q).elim iL2 imd
          have farI := far' i iL2 imd
          have yL1 : ∀ y ∈ L1, y ∉ L2 ∧ y ≠ md := fun y hy => ⟨fun q => nd3 y hy y (List.mem_cons_of_mem _ q) rfl, Nat.ne_of_lt (hb y (List.mem_append_left _ hy))⟩
          have zf := far' 0 (fun q => own_T_mem t2 0 q rfl) (by omega)
          have u1 : own_r (own_setR R.1 i R.2.2) i = R.2.2 := own_upd_same _ _ _
          have u2 : own_l (own_setR R.1 i R.2.2) i = own_l S i := farI.2.2.1
          have x2 : own_T (own_setR R.1 i R.2.2) (own_r (own_setR R.1 i R.2.2) i) L' := by
            rw [u1]; exact own_T_frame T' fun y hy => ⟨rfl, own_upd_ne _ _ fun q => iL' (q ▸ hy), rfl, rfl⟩
          have x1 : own_T (own_setR R.1 i R.2.2) (own_l (own_setR R.1 i R.2.2) i) L1 := by
            rw [u2]
            refine own_T_frame t1 fun y hy => ?_
            obtain ⟨f1, f2, f3, f4, f5, f6⟩ := far' y (yL1 y hy).1 (yL1 y hy).2
            exact ⟨f3, (own_upd_ne (i := i) (j := y) (own_r R.1) R.2.2 fun q => iL1 (q ▸ hy)).trans f4, f5, f2⟩
          have eI : own_e R.1 i = own_e S i := farI.1
          have eL1 : ∀ y ∈ L1, own_e R.1 y = own_e S y := fun y hy => (far' y (yL1 y hy).1 (yL1 y hy).2).1
          have hi2 : ∀ y ∈ L', own_e S i < own_e R.1 y := P' (fun v => own_e S i < v) (fun y hy => p4 y hy) q'
          have srt2 : own_srt R.1 (L1 ++ i :: L') := List.pairwise_append.mpr ⟨own_srt_congr p1 eL1, List.pairwise_cons.mpr ⟨fun b hb' => by rw [eI]; exact hi2 b hb', srt'⟩, fun a ha b hb' => by
            rcases List.mem_cons.mp hb' with rfl | hb'
            · rw [eI, eL1 a ha]; exact p3 a ha _ (List.mem_cons_self ..)
            · rw [eL1 a ha]; exact own_lt_tr (p3 a ha _ (List.mem_cons_self ..)) (hi2 b hb')⟩
          have nd' : (L1 ++ i :: L').Nodup := own_srt_nd srt2
          obtain ⟨r1, r2, r3, r4⟩ := own_bal_spec (B := B + 5 * k) z hi x1 x2 nd' (zf.2.2.2.2.1.trans hs0) (zf.2.2.2.2.2.trans hh0) (own_ok_setR w.1 w.2) (by omega)
          generalize own_bal (own_setR R.1 i R.2.2) i = D at *
          have eD : own_e D.1 = own_e R.1 := r2
          have pD : own_p D.1 = own_p R.1 := r3
          refine ⟨L1 ++ i :: L', r1, ?_, own_srt_congr srt2 fun y _ => congrFun eD y, ?_, ?_, m1, m2, ?_, ?_, ?_⟩
          · simp only [List.length_append, List.length_cons]; omega
          · intro y hy
            rcases List.mem_append.mp hy with hy | hy
            · exact Or.inl (List.mem_append_left _ hy)
            · rcases List.mem_cons.mp hy with rfl | hy
              · exact Or.inl mi
              · exact (sub' y hy).imp (fun q => List.mem_append_right _ (List.mem_cons_of_mem _ q)) id
          · intro y hy
            rcases List.mem_append.mp hy with hy | hy
            · exact Nat.lt_of_lt_of_le (hb y (List.mem_append_left _ hy)) m1
            · rcases List.mem_cons.mp hy with rfl | hy
              · exact Nat.lt_of_lt_of_le (hb _ mi) m1
              · exact bd' y hy
          · intro y hy hm
            have n1 : y ∉ L2 := fun q => hy (List.mem_append_right _ (List.mem_cons_of_mem _ q))
            have n2 : y ≠ i := fun q => hy (q ▸ mi)
            have n3 : y ∉ L1 ++ i :: L' := fun q => (List.mem_append.mp q).elim (fun q => hy (List.mem_append_left _ q)) (fun q => (List.mem_cons.mp q).elim n2 fun q => (sub' y q).elim n1 hm)
            obtain ⟨f1, f2, f3, f4, f5, f6⟩ := far' y n1 hm
            obtain ⟨g1, g2, g3, g4⟩ := r4 y n3
            exact ⟨(congrFun eD y).trans f1, (congrFun pD y).trans f2, g1.trans f3, g2.trans ((own_upd_ne _ _ n2).trans f4), g3.trans f5, g4.trans f6⟩
          · intro P hP he y hy
            rw [eD]
            rcases List.mem_append.mp hy with hy | hy
            · rw [eL1 y hy]; exact hP y (List.mem_append_left _ hy)
            · rcases List.mem_cons.mp hy with rfl | hy
              · rw [eI]; exact hP _ mi
              · exact P' P (fun y hy => hP y (List.mem_append_right _ (List.mem_cons_of_mem _ hy))) he y hy
          · intro x
            have c1 : own_cnt R.1 L1 x = own_cnt S L1 x := own_cnt_congr (fun y hy => ⟨eL1 y hy, (far' y (yL1 y hy).1 (yL1 y hy).2).2.1⟩) x
            rw [own_cnt_congr (S := R.1) (fun y _ => ⟨congrFun eD y, congrFun pD y⟩), own_cnt_mid, own_cnt_mid, c' x, c1, eI, farI.2.1]
            generalize own_cnt S L1 x = c1, own_cnt S L2 x = c2, (if own_e S i ≤ x then own_p S i else 0) = c3, (if e ≤ x then p else 0) = c4
            rw [← Int64.add_assoc c1 c2, Int64.add_assoc (c1 + c2), Int64.add_comm c4, ← Int64.add_assoc]
        · rw [own_add_eq k z q q']
          have ei : e = own_e S i := Int64.toInt_inj.mp (by rw [Int64.lt_iff_toInt_lt] at q q'; omega)
          have x1 : own_T (own_setP S i (own_p S i + p)) (own_l (own_setP S i (own_p S i + p)) i) L1 := own_T_frame t1 fun y hy => ⟨rfl, rfl, rfl, own_upd_ne _ _ fun q => iL1 (q ▸ hy)⟩
          have x2 : own_T (own_setP S i (own_p S i + p)) (own_r (own_setP S i (own_p S i + p)) i) L2 := own_T_frame t2 fun y hy => ⟨rfl, rfl, rfl, own_upd_ne _ _ fun q => iL2 (q ▸ hy)⟩
          obtain ⟨r1, r2, r3, r4⟩ := own_bal_spec (B := B) z hi x1 x2 nd hs0 hh0 (own_ok_setP ok) (by omega)
          have pi : own_p (own_setP S i (own_p S i + p)) = own_upd (own_p S) i (own_p S i + p) := rfl
          have ei2 : own_e (own_setP S i (own_p S i + p)) = own_e S := rfl
          have ou : own_out S (own_bal (own_setP S i (own_p S i + p)) i).1 (L1 ++ i :: L2) := r4
          rw [pi] at r3
          rw [ei2] at r2
          generalize own_bal (own_setP S i (own_p S i + p)) i = D at *
          refine ⟨L1 ++ i :: L2, r1, by omega, own_srt_congr hs fun y _ => congrFun r2 y, fun y hy => Or.inl hy, hb, Nat.le_refl _, Nat.le_succ _, ?_, ?_, ?_⟩
          · intro y hy hm
            obtain ⟨g1, g2, g3, g4⟩ := ou y hy
            exact ⟨congrFun r2 y, (congrFun r3 y).trans (own_upd_ne _ _ fun q => hy (q ▸ mi)), g1, g2, g3, g4⟩
          · intro P hP he y hy
            rw [r2]; exact hP y hy
          · intro x
            have d1 : own_cnt D.1 L1 x = own_cnt S L1 x := own_cnt_congr (fun y hy => ⟨congrFun r2 y, (congrFun r3 y).trans (own_upd_ne _ _ fun q => iL1 (q ▸ hy))⟩) x
            have d2 : own_cnt D.1 L2 x = own_cnt S L2 x := own_cnt_congr (fun y hy => ⟨congrFun r2 y, (congrFun r3 y).trans (own_upd_ne _ _ fun q => iL2 (q ▸ hy))⟩) x
            have d3 : own_p D.1 i = own_p S i + p := (congrFun r3 i).trans (own_upd_same _ _ _)
            rw [own_cnt_mid, own_cnt_mid, d1, d2, r2, d3, ei]
            by_cases u : own_e S i ≤ x
            · rw [if_pos u, if_pos u, if_pos u, ← Int64.add_assoc]
            · simp only [if_neg u, Int64.add_zero]
theorem own_cnt_all {S : own_S} {L : List Nat} {x : Int64} (h : ∀ y ∈ L, own_e S y ≤ x) : own_cnt S L x = own_sum (own_p S) L := own_sum_congr fun y hy => if_pos (h y hy)
theorem own_sum_zero {f : Nat → Int64} : ∀ {L : List Nat}, (∀ y ∈ L, f y = 0) → own_sum f L = 0
  | [], _ => rfl
  | a :: L, h => by show f a + own_sum f L = 0; rw [h a (List.mem_cons_self ..), own_sum_zero fun y hy => h y (List.mem_cons_of_mem _ hy), Int64.add_zero]
theorem own_cnt_none {S : own_S} {L : List Nat} {x : Int64} (h : ∀ y ∈ L, x < own_e S y) : own_cnt S L x = 0 := own_sum_zero fun y hy => if_neg (by have := h y hy; rw [Int64.lt_iff_toInt_lt] at this; rw [Int64.le_iff_toInt_le]; omega)
theorem own_end_spec : ∀ (k : Nat) (S : own_S) (i : Nat) (L : List Nat) (x acc : Int64), own_T S i L → own_deep k S i → own_srt S L → own_s S 0 = 0 → own_end k S i x acc = acc + own_cnt S L x := by
  intro k
  induction k with
  | zero =>
    intro S i L x acc hT hd hs h0
    rcases own_T_inv hT with ⟨-, rfl⟩ | ⟨q, -⟩
    · show acc = acc + 0; rw [Int64.add_zero]
    · exact absurd hd q
  | succ k ih =>
    intro S i L x acc hT hd hs h0
    rcases own_T_inv hT with ⟨z, rfl⟩ | ⟨z, -, L1, L2, rfl, t1, t2, hsum⟩
    · show (if i = 0 then acc else _) = acc + 0; rw [if_pos z, Int64.add_zero]
    · obtain ⟨p1, pR, p3⟩ := List.pairwise_append.mp hs
      obtain ⟨p4, p2⟩ := List.pairwise_cons.mp pR
      obtain ⟨d1, d2⟩ := hd.resolve_left z
      show (if i = 0 then acc else if x < own_e S i then own_end k S (own_l S i) x acc else own_end k S (own_r S i) x (acc + (own_s S (own_l S i) + own_p S i))) = _
      rw [if_neg z, own_cnt_mid]
      by_cases q : x < own_e S i
      · rw [if_pos q, ih S _ L1 x acc t1 d1 p1 h0, own_cnt_none (L := L2) fun y hy => own_lt_tr q (p4 y hy), if_neg (by rw [Int64.lt_iff_toInt_lt] at q; rw [Int64.le_iff_toInt_le]; omega), Int64.add_zero, Int64.add_zero]
      · have q' : own_e S i ≤ x := by rw [Int64.lt_iff_toInt_lt] at q; rw [Int64.le_iff_toInt_le]; omega
        rw [if_neg q, ih S _ L2 x _ t2 d2 p2 h0, if_pos q', own_T_sum t1 h0, own_cnt_all (L := L1) fun y hy => by
          have := p3 y hy i (List.mem_cons_self ..); rw [Int64.lt_iff_toInt_lt] at this; rw [Int64.le_iff_toInt_le] at *; omega]
        generalize own_sum (own_p S) L1 = c1, own_cnt S L2 x = c2, own_p S i = c3
        rw [Int64.add_assoc, Int64.add_assoc c1, Int64.add_comm c3, ← Int64.add_assoc c1]
/-! four adds -/
def own_inv (n B : Nat) (S : own_S) (rt md : Nat) (L : List Nat) : Prop := own_T S rt L ∧ L.length ≤ n ∧ own_srt S L ∧ (∀ y ∈ L, y < md) ∧ 0 < md ∧ md ≤ n + 1 ∧ own_s S 0 = 0 ∧ own_h S 0 = 0 ∧ own_ok B S ∧ rt < 16
def own_S0 : own_S := (fun _ => 0, fun _ => 0, fun _ => 0, fun _ => 0, fun _ => 0, fun _ => 0)
theorem own_inv0 : own_inv 0 1 own_S0 0 1 [] := ⟨own_T_nil _, Nat.le_refl _, List.Pairwise.nil, (fun _ q => nomatch q), by decide, by decide, rfl, rfl, ⟨fun _ => show 0 < 16 from by decide, fun _ => show 0 < 16 from by decide, fun _ => show 0 ≤ 1 from by decide, by decide⟩, by decide⟩
theorem own_step {n B : Nat} {S : own_S} {rt md : Nat} {L : List Nat} (I : own_inv n B S rt md L) (hn : n ≤ 3) (hB : B < 1000) (e p : Int64) :
    ∃ L', own_inv (n + 1) (B + 15) (own_add (0 + 1 + 1 + 1) S md rt e p).1 (own_add (0 + 1 + 1 + 1) S md rt e p).2.2 (own_add (0 + 1 + 1 + 1) S md rt e p).2.1 L' ∧ ∀ x, own_cnt (own_add (0 + 1 + 1 + 1) S md rt e p).1 L' x = own_cnt S L x + (if e ≤ x then p else 0) := by
  obtain ⟨hT, hl, hs, hb, h0, h1, hs0, hh0, ok, hr⟩ := I
  have w := own_ok_add (0 + 1 + 1 + 1) ok hr (md := md) (by omega) e p
  obtain ⟨L', T', len', srt', sub', bd', m1, m2, far', P', c'⟩ := own_add_spec e p (0 + 1 + 1 + 1) S md rt B L hT (by omega) hs hb h0 (by omega) hr hs0 hh0 ok (by omega)
  have zf := far' 0 (fun q => own_T_mem hT 0 q rfl) (by omega)
  exact ⟨L', ⟨T', by omega, srt', bd', by omega, by omega, zf.2.2.2.2.1.trans hs0, zf.2.2.2.2.2.trans hh0, w.1, w.2⟩, c'⟩
theorem own_inv_deep {n B : Nat} {S : own_S} {rt md k : Nat} {L : List Nat} (I : own_inv n B S rt md L) (h : n ≤ k) : own_deep k S rt := own_T_deep I.1 (Nat.le_trans I.2.1 h)
theorem own_inv_end {n B : Nat} {S : own_S} {rt md k : Nat} {L : List Nat} (I : own_inv n B S rt md L) (h : n ≤ k) (x : Int64) : own_end k S rt x 0 = own_cnt S L x := by
  rw [own_end_spec k S rt L x 0 I.1 (own_inv_deep I h) I.2.2.1 I.2.2.2.2.2.2.1, Int64.zero_add]

theorem own_selects {s Z : State} {a0 args : Array Value} {y : MethodName} {n : Nat} (hZ : Z.Warmed39 s.vm) (wi : (Jvm.Cond.instantiable y.cls n).before a0 Z = true) (wp : (Jvm.Cond.privateMethod y).before a0 Z = true) (wm : (Jvm.Cond.instanceMethod y).before a0 Z = true) (hy : y.cls ≠ "java/lang/invoke/MethodHandle" ∧ y.cls ≠ "java/lang/invoke/VarHandle") : (Jvm.Cond.selects y.cls y y).before args s = true := by
  obtain ⟨c, k, h1, h2, -, h4, -⟩ := Cond.instantiable_spec (mvT (args := args) hZ wi)
  exact selects_self_of_private h1 h2 (Bool.or_eq_false_iff.mp h4).1 (Cond.privateMethod_at (mvP hZ wp (args := args))) (mvT hZ wm) hy
def own_D (aa ae ap aS ah al ar : Addr) : Prop := aa ≠ ae ∧ aa ≠ ap ∧ aa ≠ aS ∧ aa ≠ ah ∧ aa ≠ al ∧ aa ≠ ar ∧ ae ≠ ap ∧ ae ≠ aS ∧ ae ≠ ah ∧ ae ≠ al ∧ ae ≠ ar ∧ ap ≠ aS ∧ ap ≠ ah ∧ ap ≠ al ∧ ap ≠ ar ∧ aS ≠ ah ∧ aS ≠ al ∧ aS ≠ ar ∧ ah ≠ al ∧ ah ≠ ar ∧ al ≠ ar
theorem own_D.mk {aa ae ap aS ah al ar : Addr} (h0 : aa ≠ ae) (h1 : aa ≠ ap) (h2 : aa ≠ aS) (h3 : aa ≠ ah) (h4 : aa ≠ al) (h5 : aa ≠ ar) (h6 : ae ≠ ap) (h7 : ae ≠ aS) (h8 : ae ≠ ah) (h9 : ae ≠ al) (h10 : ae ≠ ar) (h11 : ap ≠ aS) (h12 : ap ≠ ah) (h13 : ap ≠ al) (h14 : ap ≠ ar) (h15 : aS ≠ ah) (h16 : aS ≠ al) (h17 : aS ≠ ar) (h18 : ah ≠ al) (h19 : ah ≠ ar) (h20 : al ≠ ar) : own_D aa ae ap aS ah al ar := ⟨h0, h1, h2, h3, h4, h5, h6, h7, h8, h9, h10, h11, h12, h13, h14, h15, h16, h17, h18, h19, h20⟩
def TR (Z : State) (h : Heap) (aa ae ap aS ah al ar : Addr) (S : own_S) (rt md : Nat) : Prop := Exa Z h aa "com/example/berthline/berthline/engine/replay/EstimatedEnds" ∧ Fld Z h aa "com/example/berthline/berthline/engine/replay/EstimatedEnds" "ends" "[J" (.ref ae) ∧ Fld Z h aa "com/example/berthline/berthline/engine/replay/EstimatedEnds" "processors" "[J" (.ref ap) ∧ Fld Z h aa "com/example/berthline/berthline/engine/replay/EstimatedEnds" "sums" "[J" (.ref aS) ∧ Fld Z h aa "com/example/berthline/berthline/engine/replay/EstimatedEnds" "heights" "[I" (.ref ah) ∧ Fld Z h aa "com/example/berthline/berthline/engine/replay/EstimatedEnds" "left" "[I" (.ref al) ∧ Fld Z h aa "com/example/berthline/berthline/engine/replay/EstimatedEnds" "right" "[I" (.ref ar) ∧ Fld Z h aa "com/example/berthline/berthline/engine/replay/EstimatedEnds" "root" "I" (.int (Int32.ofNat rt)) ∧ Fld Z h aa "com/example/berthline/berthline/engine/replay/EstimatedEnds" "made" "I" (.int (Int32.ofNat md)) ∧ Fld Z h aa "com/example/berthline/berthline/engine/replay/EstimatedEnds" "unused" "I" (.int (0 : Int32)) ∧ JA Z h ae 16 (own_e S) ∧ JA Z h ap 16 (own_p S) ∧ JA Z h aS 16 (own_s S) ∧ IA Z h ah 16 (own_h S) ∧ IA Z h al 16 (own_l S) ∧ IA Z h ar 16 (own_r S)
theorem TR.mk {Z : State} {h : Heap} {aa ae ap aS ah al ar : Addr} {S : own_S} {rt md : Nat} (t0 : Exa Z h aa "com/example/berthline/berthline/engine/replay/EstimatedEnds") (t1 : Fld Z h aa "com/example/berthline/berthline/engine/replay/EstimatedEnds" "ends" "[J" (.ref ae)) (t2 : Fld Z h aa "com/example/berthline/berthline/engine/replay/EstimatedEnds" "processors" "[J" (.ref ap)) (t3 : Fld Z h aa "com/example/berthline/berthline/engine/replay/EstimatedEnds" "sums" "[J" (.ref aS)) (t4 : Fld Z h aa "com/example/berthline/berthline/engine/replay/EstimatedEnds" "heights" "[I" (.ref ah)) (t5 : Fld Z h aa "com/example/berthline/berthline/engine/replay/EstimatedEnds" "left" "[I" (.ref al)) (t6 : Fld Z h aa "com/example/berthline/berthline/engine/replay/EstimatedEnds" "right" "[I" (.ref ar)) (t7 : Fld Z h aa "com/example/berthline/berthline/engine/replay/EstimatedEnds" "root" "I" (.int (Int32.ofNat rt))) (t8 : Fld Z h aa "com/example/berthline/berthline/engine/replay/EstimatedEnds" "made" "I" (.int (Int32.ofNat md))) (t9 : Fld Z h aa "com/example/berthline/berthline/engine/replay/EstimatedEnds" "unused" "I" (.int (0 : Int32))) (t10 : JA Z h ae 16 (own_e S)) (t11 : JA Z h ap 16 (own_p S)) (t12 : JA Z h aS 16 (own_s S)) (t13 : IA Z h ah 16 (own_h S)) (t14 : IA Z h al 16 (own_l S)) (t15 : IA Z h ar 16 (own_r S)) : TR Z h aa ae ap aS ah al ar S rt md := ⟨t0, t1, t2, t3, t4, t5, t6, t7, t8, t9, t10, t11, t12, t13, t14, t15⟩

def own_maxI (x y : Int32) : Int32 := if x < y then y else x
def own_held (e p x : Int64) : Int64 := if 0 < lcmpW e x then 0 else p
theorem own_hmax {a b B : Nat} (ha : a ≤ B) (hb : b ≤ B) (hB : B < 1000000) : (1 : Int32) + own_maxI (Int32.ofNat a) (Int32.ofNat b) = Int32.ofNat (1 + max a b) := by
  have e : own_maxI (Int32.ofNat a) (Int32.ofNat b) = Int32.ofNat (max a b) := by
    unfold own_maxI
    by_cases q : Int32.ofNat a < Int32.ofNat b
    · rw [if_pos q]
      rw [Int32.lt_iff_toInt_lt, own_nat32 ha hB, own_nat32 hb hB] at q
      rw [Nat.max_eq_right (by omega)]
    · rw [if_neg q]
      rw [Int32.lt_iff_toInt_lt, own_nat32 ha hB, own_nat32 hb hB] at q
      rw [Nat.max_eq_left (by omega)]
  rw [e, Int32.add_comm, Nat.add_comm]
  exact (inc_ofNat _).symm
theorem own_inc (k : Nat) : Int32.ofNat k + (1 : Int32) = Int32.ofNat (k + 1) := (inc_ofNat k).symm
theorem own_z {i : Nat} (h : i < 16) : Int32.ofNat i = (0 : Int32) ↔ i = 0 := by
  rw [← Int32.toInt_inj, own_toInt h (by decide), Int32.toInt_zero]; omega
theorem own_n16 {k : Nat} (h : k < 16) : ¬ Int32.ofNat k = (16 : Int32) := by
  rw [← Int32.toInt_inj, own_toInt h (by decide), show (16 : Int32).toInt = 16 from by decide]; omega
theorem own_end_nil (k : Nat) {S : own_S} {i : Nat} (x acc : Int64) (h : i = 0) : own_end (k + 1) S i x acc = acc := if_pos h
theorem own_end_l (k : Nat) {S : own_S} {i : Nat} {x : Int64} (acc : Int64) (h : ¬ i = 0) (q : x < own_e S i) : own_end (k + 1) S i x acc = own_end k S (own_l S i) x acc := (if_neg h).trans (if_pos q)
theorem own_end_r (k : Nat) {S : own_S} {i : Nat} {x : Int64} (acc : Int64) (h : ¬ i = 0) (q : ¬ x < own_e S i) : own_end (k + 1) S i x acc = own_end k S (own_r S i) x (acc + (own_s S (own_l S i) + own_p S i)) := (if_neg h).trans (if_neg q)
theorem own_held_eq (e p x : Int64) : own_held e p x = if e ≤ x then p else 0 := by
  unfold own_held
  by_cases q : 0 < lcmpW e x
  · rw [if_pos q]
    rw [lw_gt, Int64.lt_iff_toInt_lt] at q
    rw [if_neg (by rw [Int64.le_iff_toInt_le]; omega)]
  · rw [if_neg q]
    rw [lw_gt, Int64.lt_iff_toInt_lt] at q
    rw [if_pos (by rw [Int64.le_iff_toInt_le]; omega)]
theorem own_fin {B : Nat} {S1 S2 S3 S4 : own_S} {rt md : Nat} {L1 L2 L3 L4 : List Nat} {a b c d x p1 p2 p3 p4 : Int64} (I : own_inv 4 B S4 rt md L4) (c1 : ∀ x, own_cnt S1 L1 x = own_cnt own_S0 [] x + (if a ≤ x then p1 else 0)) (c2 : ∀ x, own_cnt S2 L2 x = own_cnt S1 L1 x + (if b ≤ x then p2 else 0)) (c3 : ∀ x, own_cnt S3 L3 x = own_cnt S2 L2 x + (if c ≤ x then p3 else 0)) (c4 : ∀ x, own_cnt S4 L4 x = own_cnt S3 L3 x + (if d ≤ x then p4 else 0)) :
    own_end (0 + 1 + 1 + 1 + 1) S4 rt x (0 : Int64) = own_held a p1 x + own_held b p2 x + own_held c p3 x + own_held d p4 x := by
  rw [own_inv_end I (Nat.le_refl _) x, c4, c3, c2, c1, show own_cnt own_S0 [] x = 0 from rfl, Int64.zero_add, own_held_eq, own_held_eq, own_held_eq, own_held_eq]

theorem d9_0 : decode jdk_29_method_65_code 0 = .ok (.iload_n 0, 1) := by decide +kernel
theorem d9_1 : decode jdk_29_method_65_code 1 = .ok (.iload_n 1, 1) := by decide +kernel
theorem d9_2 : decode jdk_29_method_65_code 2 = .ok (.if_icmp .lt 7, 3) := by decide +kernel
theorem d9_9 : decode jdk_29_method_65_code 9 = .ok (.iload_n 1, 1) := by decide +kernel
theorem d9_10 : decode jdk_29_method_65_code 10 = .ok (.ireturn, 1) := by decide +kernel
theorem d9_5 : decode jdk_29_method_65_code 5 = .ok (.iload_n 0, 1) := by decide +kernel
theorem d9_6 : decode jdk_29_method_65_code 6 = .ok (.goto 4, 3) := by decide +kernel
theorem ef_9 (m : MethodId) (xx : Int32) (xy : Int32) : entryFrame m #[(.int xx), (.int xy)] 2 = mkF m 0 #[.val (.int xx), .val (.int xy)] [] := by first | (simp [entryFrame, mkF, argsToLocals, Value.category]; done) | rfl
def Q9 (Z : State) (xx : Int32) (xy : Int32) (h0 : Heap) (n0 : Nat) (v : Option Value) (h : Heap) (L : List Loc) : Prop := v = some (.int (own_maxI xx xy)) ∧ Fr n0 L ∧ h = h0
set_option maxRecDepth 65536 in
set_option maxHeartbeats 40000000 in
theorem rm9 (l : Launch) (Z : State) (a0 : Array Value) (hw : ∀ d ∈ tables_1, d.before a0 Z = true) (ws : List Jvm.Cond) (xx : Int32) (xy : Int32) (h0 : Heap) (n0 : Nat) (Z0 : n0 ≤ h0.size) :
    MetFree l (⟨"java/lang/Math", "max", "(II)I"⟩ : MethodName) (head1 (Jvm.Cond.code (⟨"java/lang/Math", "max", "(II)I"⟩ : MethodName) jdk_29_method_65_code 2 (some .int) :: ws) ({ frames := 0, cells := 0, slots := 0, locals := 0 } : Room)) (fun a U => a = #[(.int xx), (.int xy)] ∧ Z.Warmed39 U.vm ∧ U.heap = h0) (fun _ _ _ _ _ => True) (fun _ U o U' => ∃ v L, o = .returned v ∧ Q9 Z xx xy h0 n0 v U'.heap L ∧ FrameEnd U o U' L ({ frames := 0, cells := 0, slots := 0, locals := 0 } : Room).cells ({ frames := 0, cells := 0, slots := 0, locals := 0 } : Room).slots) := by
  refine MetFree.of_bodySF (Jvm.Free.JP.mathPlain rfl (by decide +kernel)) hisR ?_
  intro p e s m args below meth c s₁ Bd hml0 hP hK
  obtain ⟨rfl, hZ, hh⟩ := hP
  have hx := Bd.exec
  have hby := Bd.bytes
  have hml : c.maxLocals = 2 := hml0
  have hown : s.vm.findClass "java/lang/Math" = some m.cls := findClass_of_methodNamed Bd.named
  have hnm := (name_of_methodNamed Bd.named Bd.method).1
  have X0 : Stand p l e ({ frames := 0, cells := 0, slots := 0, locals := 0 } : Room) s m #[(.int xx), (.int xy)] below meth c s₁ [] 0 0 := Stand.of_body Bd
  have e0 : s₁.heap = h0 := by rw [← hh, Bd.state]; rfl
  have N0 := Fr.nil n0
  have pre0 : ∀ t, Steps p.tables e below (s₁.setTop (mkF m 0 #[.val (.int xx), .val (.int xy)] [])) t → Steps p.tables e below (s₁.setTop (entryFrame m #[(.int xx), (.int xy)] 2)) t := fun t k => castTop (ef_9 m xx xy) k
  by_cases hc1 : xx < xy
  · obtain ⟨fs, hr, hrun, hended, hW, hsame⟩ := X0.leave (v := some (.int xy)) (fun h => by rw [Bd.returns] at h; cases h)
    refine ⟨_, _, pre0 _ ?_, hrun, hended, _, _, rfl, ?_, ⟨_, rfl⟩, hW, hsame.mono (by decide) (by decide)⟩
    · show Steps p.tables e below (s₁.setTop (mkF m 0 #[.val (.int xx), .val (.int xy)] [])) _
      refine XS.iloadN X0.here hx rfl (hb hby d9_0) rfl ?_
      show Steps p.tables e below (s₁.setTop (mkF m 1 #[.val (.int xx), .val (.int xy)] [(.int xx)])) _
      refine XS.iloadN X0.here hx rfl (hb hby d9_1) rfl ?_
      show Steps p.tables e below (s₁.setTop (mkF m 2 #[.val (.int xx), .val (.int xy)] [(.int xy), (.int xx)])) _
      refine XS.icmpYes X0.here hx rfl (pc0 := 2) (pc' := 9) rfl (hb hby d9_2) rfl (tlt hc1).1 (by decide) (by decide) ?_
      show Steps p.tables e below (s₁.setTop (mkF m 9 #[.val (.int xx), .val (.int xy)] [])) _
      refine XS.iloadN X0.here hx rfl (hb hby d9_9) rfl ?_
      show Steps p.tables e below (s₁.setTop (mkF m 10 #[.val (.int xx), .val (.int xy)] [(.int xy)])) _
      exact retI X0 hx Bd.returns (hb hby d9_10) hr
    · show Q9 Z xx xy h0 n0 _ s₁.heap _
      rw [e0]
      exact ⟨(congrArg some (congrArg Value.int (by simp [own_maxI, hc1]))), N0, rfl⟩
  · obtain ⟨fs, hr, hrun, hended, hW, hsame⟩ := X0.leave (v := some (.int xx)) (fun h => by rw [Bd.returns] at h; cases h)
    refine ⟨_, _, pre0 _ ?_, hrun, hended, _, _, rfl, ?_, ⟨_, rfl⟩, hW, hsame.mono (by decide) (by decide)⟩
    · show Steps p.tables e below (s₁.setTop (mkF m 0 #[.val (.int xx), .val (.int xy)] [])) _
      refine XS.iloadN X0.here hx rfl (hb hby d9_0) rfl ?_
      show Steps p.tables e below (s₁.setTop (mkF m 1 #[.val (.int xx), .val (.int xy)] [(.int xx)])) _
      refine XS.iloadN X0.here hx rfl (hb hby d9_1) rfl ?_
      show Steps p.tables e below (s₁.setTop (mkF m 2 #[.val (.int xx), .val (.int xy)] [(.int xy), (.int xx)])) _
      refine XS.icmpNo X0.here hx rfl (hb hby d9_2) rfl (flt hc1).1 ?_
      show Steps p.tables e below (s₁.setTop (mkF m 5 #[.val (.int xx), .val (.int xy)] [])) _
      refine XS.iloadN X0.here hx rfl (hb hby d9_5) rfl ?_
      show Steps p.tables e below (s₁.setTop (mkF m 6 #[.val (.int xx), .val (.int xy)] [(.int xx)])) _
      refine XS.goto X0.here hx rfl (pc0 := 6) (pc' := 10) rfl (hb hby d9_6) (by decide) (by decide) ?_
      show Steps p.tables e below (s₁.setTop (mkF m 10 #[.val (.int xx), .val (.int xy)] [(.int xx)])) _
      exact retI X0 hx Bd.returns (hb hby d9_10) hr
    · show Q9 Z xx xy h0 n0 _ s₁.heap _
      rw [e0]
      exact ⟨(congrArg some (congrArg Value.int (by simp [own_maxI, hc1]))), N0, rfl⟩

theorem d11_0 : decode method_2_code 0 = .ok (.lload_n 0, 1) := by decide +kernel
theorem d11_1 : decode method_2_code 1 = .ok (.lload 4, 2) := by decide +kernel
theorem d11_3 : decode method_2_code 3 = .ok (.lcmp, 1) := by decide +kernel
theorem d11_4 : decode method_2_code 4 = .ok (.ifCond .gt 5, 3) := by decide +kernel
theorem d11_9 : decode method_2_code 9 = .ok (.lconst 0, 1) := by decide +kernel
theorem d11_10 : decode method_2_code 10 = .ok (.lreturn, 1) := by decide +kernel
theorem d11_7 : decode method_2_code 7 = .ok (.lload_n 2, 1) := by decide +kernel
theorem d11_8 : decode method_2_code 8 = .ok (.lreturn, 1) := by decide +kernel
theorem pn_com_example_berthline_berthline_engine_replay_EstimatedEndsEndingByPinLaw : plainName "com/example/berthline/berthline/engine/replay/EstimatedEndsEndingByPinLaw" = true := by first | (simp [plainName, overriddenIn]; done) | decide +kernel
theorem ef_11 (m : MethodId) (qe : Int64) (qp : Int64) (qx : Int64) : entryFrame m #[(.long qe), (.long qp), (.long qx)] 6 = mkF m 0 #[.val (.long qe), .second, .val (.long qp), .second, .val (.long qx), .second] [] := by first | (simp [entryFrame, mkF, argsToLocals, Value.category]; done) | rfl
def Q11 (Z : State) (qe : Int64) (qp : Int64) (qx : Int64) (h0 : Heap) (n0 : Nat) (v : Option Value) (h : Heap) (L : List Loc) : Prop := v = some (.long (own_held qe qp qx)) ∧ Fr n0 L ∧ h = h0
set_option maxRecDepth 65536 in
set_option maxHeartbeats 40000000 in
theorem rm11 (l : Launch) (Z : State) (a0 : Array Value) (hw : ∀ d ∈ tables_1, d.before a0 Z = true) (ws : List Jvm.Cond) (qe : Int64) (qp : Int64) (qx : Int64) (h0 : Heap) (n0 : Nat) (Z0 : n0 ≤ h0.size) :
    MetFree l (⟨"com/example/berthline/berthline/engine/replay/EstimatedEndsEndingByPinLaw", "held", "(JJJ)J"⟩ : MethodName) (head1 (Jvm.Cond.code (⟨"com/example/berthline/berthline/engine/replay/EstimatedEndsEndingByPinLaw", "held", "(JJJ)J"⟩ : MethodName) method_2_code 6 (some .long) :: ws) ({ frames := 0, cells := 0, slots := 0, locals := 0 } : Room)) (fun a U => a = #[(.long qe), (.long qp), (.long qx)] ∧ Z.Warmed39 U.vm ∧ U.heap = h0) (fun _ _ _ _ _ => True) (fun _ U o U' => ∃ v L, o = .returned v ∧ Q11 Z qe qp qx h0 n0 v U'.heap L ∧ FrameEnd U o U' L ({ frames := 0, cells := 0, slots := 0, locals := 0 } : Room).cells ({ frames := 0, cells := 0, slots := 0, locals := 0 } : Room).slots) := by
  refine MetFree.of_bodySF (plainFor_of_name pn_com_example_berthline_berthline_engine_replay_EstimatedEndsEndingByPinLaw) hisR ?_
  intro p e s m args below meth c s₁ Bd hml0 hP hK
  obtain ⟨rfl, hZ, hh⟩ := hP
  have hx := Bd.exec
  have hby := Bd.bytes
  have hml : c.maxLocals = 6 := hml0
  have hown : s.vm.findClass "com/example/berthline/berthline/engine/replay/EstimatedEndsEndingByPinLaw" = some m.cls := findClass_of_methodNamed Bd.named
  have hnm := (name_of_methodNamed Bd.named Bd.method).1
  have X0 : Stand p l e ({ frames := 0, cells := 0, slots := 0, locals := 0 } : Room) s m #[(.long qe), (.long qp), (.long qx)] below meth c s₁ [] 0 0 := Stand.of_body Bd
  have e0 : s₁.heap = h0 := by rw [← hh, Bd.state]; rfl
  have N0 := Fr.nil n0
  have pre0 : ∀ t, Steps p.tables e below (s₁.setTop (mkF m 0 #[.val (.long qe), .second, .val (.long qp), .second, .val (.long qx), .second] [])) t → Steps p.tables e below (s₁.setTop (entryFrame m #[(.long qe), (.long qp), (.long qx)] 6)) t := fun t k => castTop (ef_11 m qe qp qx) k
  by_cases hc2 : (0 : Int32) < (lcmpW qe qx)
  · obtain ⟨fs, hr, hrun, hended, hW, hsame⟩ := X0.leave (v := some (.long (0 : Int64))) (fun h => by rw [Bd.returns] at h; cases h)
    refine ⟨_, _, pre0 _ ?_, hrun, hended, _, _, rfl, ?_, ⟨_, rfl⟩, hW, hsame.mono (by decide) (by decide)⟩
    · show Steps p.tables e below (s₁.setTop (mkF m 0 #[.val (.long qe), .second, .val (.long qp), .second, .val (.long qx), .second] [])) _
      refine XS.lloadN X0.here hx rfl (hb hby d11_0) rfl ?_
      show Steps p.tables e below (s₁.setTop (mkF m 1 #[.val (.long qe), .second, .val (.long qp), .second, .val (.long qx), .second] [(.long qe)])) _
      refine XS.lload X0.here hx rfl (hb hby d11_1) rfl ?_
      show Steps p.tables e below (s₁.setTop (mkF m 3 #[.val (.long qe), .second, .val (.long qp), .second, .val (.long qx), .second] [(.long qx), (.long qe)])) _
      refine XS.lcmp X0.here hx rfl (hb hby d11_3) rfl ?_
      show Steps p.tables e below (s₁.setTop (mkF m 4 #[.val (.long qe), .second, .val (.long qp), .second, .val (.long qx), .second] [(.int (lcmpW qe qx))])) _
      refine XS.ifYes X0.here hx rfl (pc0 := 4) (pc' := 9) rfl (hb hby d11_4) rfl ((if0 _ _).trans (tlt hc2).2.2.1) (by decide) (by decide) ?_
      show Steps p.tables e below (s₁.setTop (mkF m 9 #[.val (.long qe), .second, .val (.long qp), .second, .val (.long qx), .second] [])) _
      refine XS.lconst X0.here hx rfl (hb hby d11_9) ?_
      show Steps p.tables e below (s₁.setTop (mkF m 10 #[.val (.long qe), .second, .val (.long qp), .second, .val (.long qx), .second] [(.long (0 : Int64))])) _
      jvm_step X0.here [X0.here.top, hx, (hb hby d11_10), X0.method', Bd.returns, narrow]
      first | (intro acts; rw [hr _ acts rfl rfl rfl]) | rw [hr _ _ rfl rfl rfl]
      exact Steps.refl _
    · show Q11 Z qe qp qx h0 n0 _ s₁.heap _
      rw [e0]
      exact ⟨(congrArg some (congrArg Value.long (by simp [own_held, hc2]))), N0, rfl⟩
  · obtain ⟨fs, hr, hrun, hended, hW, hsame⟩ := X0.leave (v := some (.long qp)) (fun h => by rw [Bd.returns] at h; cases h)
    refine ⟨_, _, pre0 _ ?_, hrun, hended, _, _, rfl, ?_, ⟨_, rfl⟩, hW, hsame.mono (by decide) (by decide)⟩
    · show Steps p.tables e below (s₁.setTop (mkF m 0 #[.val (.long qe), .second, .val (.long qp), .second, .val (.long qx), .second] [])) _
      refine XS.lloadN X0.here hx rfl (hb hby d11_0) rfl ?_
      show Steps p.tables e below (s₁.setTop (mkF m 1 #[.val (.long qe), .second, .val (.long qp), .second, .val (.long qx), .second] [(.long qe)])) _
      refine XS.lload X0.here hx rfl (hb hby d11_1) rfl ?_
      show Steps p.tables e below (s₁.setTop (mkF m 3 #[.val (.long qe), .second, .val (.long qp), .second, .val (.long qx), .second] [(.long qx), (.long qe)])) _
      refine XS.lcmp X0.here hx rfl (hb hby d11_3) rfl ?_
      show Steps p.tables e below (s₁.setTop (mkF m 4 #[.val (.long qe), .second, .val (.long qp), .second, .val (.long qx), .second] [(.int (lcmpW qe qx))])) _
      refine XS.ifNo X0.here hx rfl (hb hby d11_4) rfl ((if0 _ _).trans (flt hc2).2.2.1) ?_
      show Steps p.tables e below (s₁.setTop (mkF m 7 #[.val (.long qe), .second, .val (.long qp), .second, .val (.long qx), .second] [])) _
      refine XS.lloadN X0.here hx rfl (hb hby d11_7) rfl ?_
      show Steps p.tables e below (s₁.setTop (mkF m 8 #[.val (.long qe), .second, .val (.long qp), .second, .val (.long qx), .second] [(.long qp)])) _
      jvm_step X0.here [X0.here.top, hx, (hb hby d11_8), X0.method', Bd.returns, narrow]
      first | (intro acts; rw [hr _ acts rfl rfl rfl]) | rw [hr _ _ rfl rfl rfl]
      exact Steps.refl _
    · show Q11 Z qe qp qx h0 n0 _ s₁.heap _
      rw [e0]
      exact ⟨(congrArg some (congrArg Value.long (by simp [own_held, hc2]))), N0, rfl⟩

theorem d1_0 : decode prog_107_method_1_code 0 = .ok (.aload_n 0, 1) := by decide +kernel
theorem d1_1 : decode prog_107_method_1_code 1 = .ok (.invokespecial 1, 3) := by decide +kernel
theorem d1_4 : decode prog_107_method_1_code 4 = .ok (.aload_n 0, 1) := by decide +kernel
theorem d1_5 : decode prog_107_method_1_code 5 = .ok (.bipush 16, 2) := by decide +kernel
theorem d1_7 : decode prog_107_method_1_code 7 = .ok (.newarray .long, 2) := by decide +kernel
theorem d1_9 : decode prog_107_method_1_code 9 = .ok (.putfield 7, 3) := by decide +kernel
theorem d1_12 : decode prog_107_method_1_code 12 = .ok (.aload_n 0, 1) := by decide +kernel
theorem d1_13 : decode prog_107_method_1_code 13 = .ok (.bipush 16, 2) := by decide +kernel
theorem d1_15 : decode prog_107_method_1_code 15 = .ok (.newarray .long, 2) := by decide +kernel
theorem d1_17 : decode prog_107_method_1_code 17 = .ok (.putfield 13, 3) := by decide +kernel
theorem d1_20 : decode prog_107_method_1_code 20 = .ok (.aload_n 0, 1) := by decide +kernel
theorem d1_21 : decode prog_107_method_1_code 21 = .ok (.bipush 16, 2) := by decide +kernel
theorem d1_23 : decode prog_107_method_1_code 23 = .ok (.newarray .long, 2) := by decide +kernel
theorem d1_25 : decode prog_107_method_1_code 25 = .ok (.putfield 16, 3) := by decide +kernel
theorem d1_28 : decode prog_107_method_1_code 28 = .ok (.aload_n 0, 1) := by decide +kernel
theorem d1_29 : decode prog_107_method_1_code 29 = .ok (.bipush 16, 2) := by decide +kernel
theorem d1_31 : decode prog_107_method_1_code 31 = .ok (.newarray .int, 2) := by decide +kernel
theorem d1_33 : decode prog_107_method_1_code 33 = .ok (.putfield 19, 3) := by decide +kernel
theorem d1_36 : decode prog_107_method_1_code 36 = .ok (.aload_n 0, 1) := by decide +kernel
theorem d1_37 : decode prog_107_method_1_code 37 = .ok (.bipush 16, 2) := by decide +kernel
theorem d1_39 : decode prog_107_method_1_code 39 = .ok (.newarray .int, 2) := by decide +kernel
theorem d1_41 : decode prog_107_method_1_code 41 = .ok (.putfield 23, 3) := by decide +kernel
theorem d1_44 : decode prog_107_method_1_code 44 = .ok (.aload_n 0, 1) := by decide +kernel
theorem d1_45 : decode prog_107_method_1_code 45 = .ok (.bipush 16, 2) := by decide +kernel
theorem d1_47 : decode prog_107_method_1_code 47 = .ok (.newarray .int, 2) := by decide +kernel
theorem d1_49 : decode prog_107_method_1_code 49 = .ok (.putfield 26, 3) := by decide +kernel
theorem d1_52 : decode prog_107_method_1_code 52 = .ok (.aload_n 0, 1) := by decide +kernel
theorem d1_53 : decode prog_107_method_1_code 53 = .ok (.iconst 0, 1) := by decide +kernel
theorem d1_54 : decode prog_107_method_1_code 54 = .ok (.putfield 29, 3) := by decide +kernel
theorem d1_57 : decode prog_107_method_1_code 57 = .ok (.aload_n 0, 1) := by decide +kernel
theorem d1_58 : decode prog_107_method_1_code 58 = .ok (.iconst 1, 1) := by decide +kernel
theorem d1_59 : decode prog_107_method_1_code 59 = .ok (.putfield 33, 3) := by decide +kernel
theorem d1_62 : decode prog_107_method_1_code 62 = .ok (.aload_n 0, 1) := by decide +kernel
theorem d1_63 : decode prog_107_method_1_code 63 = .ok (.iconst 0, 1) := by decide +kernel
theorem d1_64 : decode prog_107_method_1_code 64 = .ok (.putfield 36, 3) := by decide +kernel
theorem d1_67 : decode prog_107_method_1_code 67 = .ok (.return_, 1) := by decide +kernel
theorem pn_com_example_berthline_berthline_engine_replay_EstimatedEnds : plainName "com/example/berthline/berthline/engine/replay/EstimatedEnds" = true := by first | (simp [plainName, overriddenIn]; done) | decide +kernel
theorem ef_1 (m : MethodId) (aa : Addr) : entryFrame m #[(.ref aa)] 1 = mkF m 0 #[.val (.ref aa)] [] := by first | (simp [entryFrame, mkF, argsToLocals, Value.category]; done) | rfl
def Q1 (Z : State) (aa : Addr) (h0 : Heap) (n0 : Nat) (v : Option Value) (h : Heap) (L : List Loc) : Prop := ∃ (ae : Addr) (ap : Addr) (aS : Addr) (ah : Addr) (al : Addr) (ar : Addr), v = none ∧ Fr n0 L ∧ Keep h0 h [aa] ∧ TR Z h aa ae ap aS ah al ar own_S0 0 1 ∧ own_D aa ae ap aS ah al ar ∧ n0 ≤ ae ∧ n0 ≤ ap ∧ n0 ≤ aS ∧ n0 ≤ ah ∧ n0 ≤ al ∧ n0 ≤ ar
set_option maxRecDepth 65536 in
set_option maxHeartbeats 40000000 in
theorem rm1 (l : Launch) (Z : State) (a0 : Array Value) (hw : ∀ d ∈ tables_1, d.before a0 Z = true) (ws : List Jvm.Cond) (aa : Addr) (h0 : Heap) (n0 : Nat) (Z0 : n0 ≤ h0.size) (E_a : Exa Z h0 aa "com/example/berthline/berthline/engine/replay/EstimatedEnds") (g_a : n0 ≤ aa) (F_ends : Fld Z h0 aa "com/example/berthline/berthline/engine/replay/EstimatedEnds" "ends" "[J" .null) (F_processors : Fld Z h0 aa "com/example/berthline/berthline/engine/replay/EstimatedEnds" "processors" "[J" .null) (F_sums : Fld Z h0 aa "com/example/berthline/berthline/engine/replay/EstimatedEnds" "sums" "[J" .null) (F_heights : Fld Z h0 aa "com/example/berthline/berthline/engine/replay/EstimatedEnds" "heights" "[I" .null) (F_left : Fld Z h0 aa "com/example/berthline/berthline/engine/replay/EstimatedEnds" "left" "[I" .null) (F_right : Fld Z h0 aa "com/example/berthline/berthline/engine/replay/EstimatedEnds" "right" "[I" .null) (F_root : Fld Z h0 aa "com/example/berthline/berthline/engine/replay/EstimatedEnds" "root" "I" (.int (0 : Int32))) (F_made : Fld Z h0 aa "com/example/berthline/berthline/engine/replay/EstimatedEnds" "made" "I" (.int (0 : Int32))) (F_unused : Fld Z h0 aa "com/example/berthline/berthline/engine/replay/EstimatedEnds" "unused" "I" (.int (0 : Int32))) :
    MetFree l (⟨"com/example/berthline/berthline/engine/replay/EstimatedEnds", "<init>", "()V"⟩ : MethodName) (head1 (Jvm.Cond.code (⟨"com/example/berthline/berthline/engine/replay/EstimatedEnds", "<init>", "()V"⟩ : MethodName) prog_107_method_1_code 1 none :: ws) ({ frames := 1, cells := 6, slots := 96, locals := 12 } : Room)) (fun a U => a = #[(.ref aa)] ∧ Z.Warmed39 U.vm ∧ U.heap = h0) (fun _ _ _ _ _ => True) (fun _ U o U' => ∃ v L, o = .returned v ∧ Q1 Z aa h0 n0 v U'.heap L ∧ FrameEnd U o U' L ({ frames := 1, cells := 6, slots := 96, locals := 12 } : Room).cells ({ frames := 1, cells := 6, slots := 96, locals := 12 } : Room).slots) := by
  refine MetFree.of_bodySF (plainFor_of_name pn_com_example_berthline_berthline_engine_replay_EstimatedEnds) hisR ?_
  intro p e s m args below meth c s₁ Bd hml0 hP hK
  obtain ⟨rfl, hZ, hh⟩ := hP
  have hx := Bd.exec
  have hby := Bd.bytes
  have hml : c.maxLocals = 1 := hml0
  have hown : s.vm.findClass "com/example/berthline/berthline/engine/replay/EstimatedEnds" = some m.cls := findClass_of_methodNamed Bd.named
  have hnm := (name_of_methodNamed Bd.named Bd.method).1
  have X0 : Stand p l e ({ frames := 1, cells := 6, slots := 96, locals := 12 } : Room) s m #[(.ref aa)] below meth c s₁ [] 0 0 := Stand.of_body Bd
  have e0 : s₁.heap = h0 := by rw [← hh, Bd.state]; rfl
  have N0 := Fr.nil n0
  have pre0 : ∀ t, Steps p.tables e below (s₁.setTop (mkF m 0 #[.val (.ref aa)] [])) t → Steps p.tables e below (s₁.setTop (entryFrame m #[(.ref aa)] 1)) t := fun t k => castTop (ef_1 m aa) k
  obtain ⟨T3, X3, e3, st3⟩ := initO X0 hx hZ hown (hw _ (List.mem_of_getElem? (i := 6) rfl)) (hw _ (List.mem_of_getElem? (i := 7) rfl)) (hw _ (List.mem_of_getElem? (i := 8) rfl)) e0 (g := (mkF m 1 #[.val (.ref aa)] [(.ref aa)])) rfl (by rw [hml]; rfl) rfl (hb hby d1_1) (by decide) (W := 0) (by show 2 * 0 + _ ≤ _; exact Nat.le_of_eq rfl) (by decide)
  obtain ⟨T4, h4, X4, e4, E4, A4, st4⟩ := JA.make X3 hx hZ (hw _ (List.mem_of_getElem? (i := 9) rfl)) e3 (g := (mkF m 7 #[.val (.ref aa)] [(.int (16 : Int32)), (.ref aa)])) rfl (hb hby d1_7) rfl 16 (by decide) (by decide) (by decide) (by decide) (by decide)
  obtain ⟨b4, g4⟩ : ∃ z, z = h0.size := ⟨_, rfl⟩
  rw [← g4] at A4 st4
  have ne_5 : aa ≠ b4 := Nat.ne_of_lt (Nat.lt_of_lt_of_le E_a.lt (Nat.le_of_eq g4.symm))
  have E_6 := E_a.ext E4
  have F_7 := F_ends.ext E4
  have F_8 := F_processors.ext E4
  have F_9 := F_sums.ext E4
  have F_10 := F_heights.ext E4
  have F_11 := F_left.ext E4
  have F_12 := F_right.ext E4
  have F_13 := F_root.ext E4
  have F_14 := F_made.ext E4
  have F_15 := F_unused.ext E4
  have ge_b4 : n0 ≤ b4 := Nat.le_trans Z0 (Nat.le_of_eq g4.symm)
  have sz_b4 : h0.size ≤ b4 := Nat.le_trans (Keep.refl h0 [aa]).1 (Nat.le_of_eq g4.symm)
  have Z4 : n0 ≤ h4.size := Nat.le_trans Z0 E4.1
  have K4 : Keep h0 h4 [aa] := (Keep.refl h0 [aa]).ext E4
  obtain ⟨T16, h16, X16, e16, W16, st16⟩ := putF X4 hx hZ hown (host := "") (Or.inl (hw _ (List.mem_of_getElem? (i := 10) rfl))) Via.refl e4 F_7 E_6 (Or.inl (hw _ (List.mem_of_getElem? (i := 11) rfl))) (hw _ (List.mem_of_getElem? (i := 1) rfl)) (ty := (.array .long)) (by decide) rfl rfl (g := (mkF m 9 #[.val (.ref aa)] [(.ref b4), (.ref aa)])) rfl rfl (hb hby d1_9)
  have Fw16 : Fld Z h16 aa "com/example/berthline/berthline/engine/replay/EstimatedEnds" "ends" "[J" (.ref b4) := Fld.same W16 F_7
  have E_17 := E_6.wr W16
  have F_18 := F_8.other W16 (Or.inr (slot_ne (Or.inl (hw _ (List.mem_of_getElem? (i := 13) rfl))) (Or.inl (hw _ (List.mem_of_getElem? (i := 11) rfl))) (by decide) (t := (.array .long)) (t' := (.array .long)) (by decide) (by decide)))
  have F_19 := F_9.other W16 (Or.inr (slot_ne (Or.inl (hw _ (List.mem_of_getElem? (i := 15) rfl))) (Or.inl (hw _ (List.mem_of_getElem? (i := 11) rfl))) (by decide) (t := (.array .long)) (t' := (.array .long)) (by decide) (by decide)))
  have F_20 := F_10.other W16 (Or.inr (slot_ne (Or.inl (hw _ (List.mem_of_getElem? (i := 18) rfl))) (Or.inl (hw _ (List.mem_of_getElem? (i := 11) rfl))) (by decide) (t := (.array .int)) (t' := (.array .long)) (by decide) (by decide)))
  have F_21 := F_11.other W16 (Or.inr (slot_ne (Or.inl (hw _ (List.mem_of_getElem? (i := 20) rfl))) (Or.inl (hw _ (List.mem_of_getElem? (i := 11) rfl))) (by decide) (t := (.array .int)) (t' := (.array .long)) (by decide) (by decide)))
  have F_22 := F_12.other W16 (Or.inr (slot_ne (Or.inl (hw _ (List.mem_of_getElem? (i := 22) rfl))) (Or.inl (hw _ (List.mem_of_getElem? (i := 11) rfl))) (by decide) (t := (.array .int)) (t' := (.array .long)) (by decide) (by decide)))
  have F_23 := F_13.other W16 (Or.inr (slot_ne (Or.inl (hw _ (List.mem_of_getElem? (i := 24) rfl))) (Or.inl (hw _ (List.mem_of_getElem? (i := 11) rfl))) (by decide) (t := .int) (t' := (.array .long)) (by decide) (by decide)))
  have F_24 := F_14.other W16 (Or.inr (slot_ne (Or.inl (hw _ (List.mem_of_getElem? (i := 26) rfl))) (Or.inl (hw _ (List.mem_of_getElem? (i := 11) rfl))) (by decide) (t := .int) (t' := (.array .long)) (by decide) (by decide)))
  have F_25 := F_15.other W16 (Or.inr (slot_ne (Or.inl (hw _ (List.mem_of_getElem? (i := 28) rfl))) (Or.inl (hw _ (List.mem_of_getElem? (i := 11) rfl))) (by decide) (t := .int) (t' := (.array .long)) (by decide) (by decide)))
  have V_26 := A4.other W16 (Ne.symm ne_5)
  have N16 := Fr.snoc X16 N0 g_a
  have Z16 : n0 ≤ h16.size := Nat.le_trans Z4 (Keep.of_wr W16).1
  have K16 : Keep h0 h16 [aa] := K4.wr W16 (Or.inl (List.mem_of_getElem? (i := 0) rfl))
  obtain ⟨T27, h27, X27, e27, E27, A27, st27⟩ := JA.make X16 hx hZ (hw _ (List.mem_of_getElem? (i := 9) rfl)) e16 (g := (mkF m 15 #[.val (.ref aa)] [(.int (16 : Int32)), (.ref aa)])) rfl (hb hby d1_15) rfl 16 (by decide) (by decide) (by decide) (by decide) (by decide)
  obtain ⟨b27, g27⟩ : ∃ z, z = h16.size := ⟨_, rfl⟩
  rw [← g27] at A27 st27
  have ne_28 : aa ≠ b27 := Nat.ne_of_lt (Nat.lt_of_lt_of_le E_17.lt (Nat.le_of_eq g27.symm))
  have ne_29 : b4 ≠ b27 := Nat.ne_of_lt (Nat.lt_of_lt_of_le V_26.lt (Nat.le_of_eq g27.symm))
  have E_30 := E_17.ext E27
  have F_31 := F_18.ext E27
  have F_32 := F_19.ext E27
  have F_33 := F_20.ext E27
  have F_34 := F_21.ext E27
  have F_35 := F_22.ext E27
  have F_36 := F_23.ext E27
  have F_37 := F_24.ext E27
  have F_38 := F_25.ext E27
  have V_39 := V_26.ext E27
  have F_40 := Fw16.ext E27
  have ge_b27 : n0 ≤ b27 := Nat.le_trans Z16 (Nat.le_of_eq g27.symm)
  have sz_b27 : h0.size ≤ b27 := Nat.le_trans K16.1 (Nat.le_of_eq g27.symm)
  have Z27 : n0 ≤ h27.size := Nat.le_trans Z16 E27.1
  have K27 : Keep h0 h27 [aa] := K16.ext E27
  obtain ⟨T41, h41, X41, e41, W41, st41⟩ := putF X27 hx hZ hown (host := "") (Or.inl (hw _ (List.mem_of_getElem? (i := 12) rfl))) Via.refl e27 F_31 E_30 (Or.inl (hw _ (List.mem_of_getElem? (i := 13) rfl))) (hw _ (List.mem_of_getElem? (i := 1) rfl)) (ty := (.array .long)) (by decide) rfl rfl (g := (mkF m 17 #[.val (.ref aa)] [(.ref b27), (.ref aa)])) rfl rfl (hb hby d1_17)
  have Fw41 : Fld Z h41 aa "com/example/berthline/berthline/engine/replay/EstimatedEnds" "processors" "[J" (.ref b27) := Fld.same W41 F_31
  have E_42 := E_30.wr W41
  have F_43 := F_32.other W41 (Or.inr (slot_ne (Or.inl (hw _ (List.mem_of_getElem? (i := 15) rfl))) (Or.inl (hw _ (List.mem_of_getElem? (i := 13) rfl))) (by decide) (t := (.array .long)) (t' := (.array .long)) (by decide) (by decide)))
  have F_44 := F_33.other W41 (Or.inr (slot_ne (Or.inl (hw _ (List.mem_of_getElem? (i := 18) rfl))) (Or.inl (hw _ (List.mem_of_getElem? (i := 13) rfl))) (by decide) (t := (.array .int)) (t' := (.array .long)) (by decide) (by decide)))
  have F_45 := F_34.other W41 (Or.inr (slot_ne (Or.inl (hw _ (List.mem_of_getElem? (i := 20) rfl))) (Or.inl (hw _ (List.mem_of_getElem? (i := 13) rfl))) (by decide) (t := (.array .int)) (t' := (.array .long)) (by decide) (by decide)))
  have F_46 := F_35.other W41 (Or.inr (slot_ne (Or.inl (hw _ (List.mem_of_getElem? (i := 22) rfl))) (Or.inl (hw _ (List.mem_of_getElem? (i := 13) rfl))) (by decide) (t := (.array .int)) (t' := (.array .long)) (by decide) (by decide)))
  have F_47 := F_36.other W41 (Or.inr (slot_ne (Or.inl (hw _ (List.mem_of_getElem? (i := 24) rfl))) (Or.inl (hw _ (List.mem_of_getElem? (i := 13) rfl))) (by decide) (t := .int) (t' := (.array .long)) (by decide) (by decide)))
  have F_48 := F_37.other W41 (Or.inr (slot_ne (Or.inl (hw _ (List.mem_of_getElem? (i := 26) rfl))) (Or.inl (hw _ (List.mem_of_getElem? (i := 13) rfl))) (by decide) (t := .int) (t' := (.array .long)) (by decide) (by decide)))
  have F_49 := F_38.other W41 (Or.inr (slot_ne (Or.inl (hw _ (List.mem_of_getElem? (i := 28) rfl))) (Or.inl (hw _ (List.mem_of_getElem? (i := 13) rfl))) (by decide) (t := .int) (t' := (.array .long)) (by decide) (by decide)))
  have V_50 := V_39.other W41 (Ne.symm ne_5)
  have F_51 := F_40.other W41 (Or.inr (slot_ne (Or.inl (hw _ (List.mem_of_getElem? (i := 11) rfl))) (Or.inl (hw _ (List.mem_of_getElem? (i := 13) rfl))) (by decide) (t := (.array .long)) (t' := (.array .long)) (by decide) (by decide)))
  have V_52 := A27.other W41 (Ne.symm ne_28)
  have N41 := Fr.snoc X41 N16 g_a
  have Z41 : n0 ≤ h41.size := Nat.le_trans Z27 (Keep.of_wr W41).1
  have K41 : Keep h0 h41 [aa] := K27.wr W41 (Or.inl (List.mem_of_getElem? (i := 0) rfl))
  obtain ⟨T53, h53, X53, e53, E53, A53, st53⟩ := JA.make X41 hx hZ (hw _ (List.mem_of_getElem? (i := 9) rfl)) e41 (g := (mkF m 23 #[.val (.ref aa)] [(.int (16 : Int32)), (.ref aa)])) rfl (hb hby d1_23) rfl 16 (by decide) (by decide) (by decide) (by decide) (by decide)
  obtain ⟨b53, g53⟩ : ∃ z, z = h41.size := ⟨_, rfl⟩
  rw [← g53] at A53 st53
  have ne_54 : aa ≠ b53 := Nat.ne_of_lt (Nat.lt_of_lt_of_le E_42.lt (Nat.le_of_eq g53.symm))
  have ne_55 : b4 ≠ b53 := Nat.ne_of_lt (Nat.lt_of_lt_of_le V_50.lt (Nat.le_of_eq g53.symm))
  have ne_56 : b27 ≠ b53 := Nat.ne_of_lt (Nat.lt_of_lt_of_le V_52.lt (Nat.le_of_eq g53.symm))
  have E_57 := E_42.ext E53
  have F_58 := F_43.ext E53
  have F_59 := F_44.ext E53
  have F_60 := F_45.ext E53
  have F_61 := F_46.ext E53
  have F_62 := F_47.ext E53
  have F_63 := F_48.ext E53
  have F_64 := F_49.ext E53
  have V_65 := V_50.ext E53
  have F_66 := F_51.ext E53
  have V_67 := V_52.ext E53
  have F_68 := Fw41.ext E53
  have ge_b53 : n0 ≤ b53 := Nat.le_trans Z41 (Nat.le_of_eq g53.symm)
  have sz_b53 : h0.size ≤ b53 := Nat.le_trans K41.1 (Nat.le_of_eq g53.symm)
  have Z53 : n0 ≤ h53.size := Nat.le_trans Z41 E53.1
  have K53 : Keep h0 h53 [aa] := K41.ext E53
  obtain ⟨T69, h69, X69, e69, W69, st69⟩ := putF X53 hx hZ hown (host := "") (Or.inl (hw _ (List.mem_of_getElem? (i := 14) rfl))) Via.refl e53 F_58 E_57 (Or.inl (hw _ (List.mem_of_getElem? (i := 15) rfl))) (hw _ (List.mem_of_getElem? (i := 1) rfl)) (ty := (.array .long)) (by decide) rfl rfl (g := (mkF m 25 #[.val (.ref aa)] [(.ref b53), (.ref aa)])) rfl rfl (hb hby d1_25)
  have Fw69 : Fld Z h69 aa "com/example/berthline/berthline/engine/replay/EstimatedEnds" "sums" "[J" (.ref b53) := Fld.same W69 F_58
  have E_70 := E_57.wr W69
  have F_71 := F_59.other W69 (Or.inr (slot_ne (Or.inl (hw _ (List.mem_of_getElem? (i := 18) rfl))) (Or.inl (hw _ (List.mem_of_getElem? (i := 15) rfl))) (by decide) (t := (.array .int)) (t' := (.array .long)) (by decide) (by decide)))
  have F_72 := F_60.other W69 (Or.inr (slot_ne (Or.inl (hw _ (List.mem_of_getElem? (i := 20) rfl))) (Or.inl (hw _ (List.mem_of_getElem? (i := 15) rfl))) (by decide) (t := (.array .int)) (t' := (.array .long)) (by decide) (by decide)))
  have F_73 := F_61.other W69 (Or.inr (slot_ne (Or.inl (hw _ (List.mem_of_getElem? (i := 22) rfl))) (Or.inl (hw _ (List.mem_of_getElem? (i := 15) rfl))) (by decide) (t := (.array .int)) (t' := (.array .long)) (by decide) (by decide)))
  have F_74 := F_62.other W69 (Or.inr (slot_ne (Or.inl (hw _ (List.mem_of_getElem? (i := 24) rfl))) (Or.inl (hw _ (List.mem_of_getElem? (i := 15) rfl))) (by decide) (t := .int) (t' := (.array .long)) (by decide) (by decide)))
  have F_75 := F_63.other W69 (Or.inr (slot_ne (Or.inl (hw _ (List.mem_of_getElem? (i := 26) rfl))) (Or.inl (hw _ (List.mem_of_getElem? (i := 15) rfl))) (by decide) (t := .int) (t' := (.array .long)) (by decide) (by decide)))
  have F_76 := F_64.other W69 (Or.inr (slot_ne (Or.inl (hw _ (List.mem_of_getElem? (i := 28) rfl))) (Or.inl (hw _ (List.mem_of_getElem? (i := 15) rfl))) (by decide) (t := .int) (t' := (.array .long)) (by decide) (by decide)))
  have V_77 := V_65.other W69 (Ne.symm ne_5)
  have F_78 := F_66.other W69 (Or.inr (slot_ne (Or.inl (hw _ (List.mem_of_getElem? (i := 11) rfl))) (Or.inl (hw _ (List.mem_of_getElem? (i := 15) rfl))) (by decide) (t := (.array .long)) (t' := (.array .long)) (by decide) (by decide)))
  have V_79 := V_67.other W69 (Ne.symm ne_28)
  have F_80 := F_68.other W69 (Or.inr (slot_ne (Or.inl (hw _ (List.mem_of_getElem? (i := 13) rfl))) (Or.inl (hw _ (List.mem_of_getElem? (i := 15) rfl))) (by decide) (t := (.array .long)) (t' := (.array .long)) (by decide) (by decide)))
  have V_81 := A53.other W69 (Ne.symm ne_54)
  have N69 := Fr.snoc X69 N41 g_a
  have Z69 : n0 ≤ h69.size := Nat.le_trans Z53 (Keep.of_wr W69).1
  have K69 : Keep h0 h69 [aa] := K53.wr W69 (Or.inl (List.mem_of_getElem? (i := 0) rfl))
  obtain ⟨T82, h82, X82, e82, E82, A82, st82⟩ := IA.make X69 hx hZ (hw _ (List.mem_of_getElem? (i := 16) rfl)) e69 (g := (mkF m 31 #[.val (.ref aa)] [(.int (16 : Int32)), (.ref aa)])) rfl (hb hby d1_31) rfl 16 (by decide) (by decide) (by decide) (by decide) (by decide)
  obtain ⟨b82, g82⟩ : ∃ z, z = h69.size := ⟨_, rfl⟩
  rw [← g82] at A82 st82
  have ne_83 : aa ≠ b82 := Nat.ne_of_lt (Nat.lt_of_lt_of_le E_70.lt (Nat.le_of_eq g82.symm))
  have ne_84 : b4 ≠ b82 := Nat.ne_of_lt (Nat.lt_of_lt_of_le V_77.lt (Nat.le_of_eq g82.symm))
  have ne_85 : b27 ≠ b82 := Nat.ne_of_lt (Nat.lt_of_lt_of_le V_79.lt (Nat.le_of_eq g82.symm))
  have ne_86 : b53 ≠ b82 := Nat.ne_of_lt (Nat.lt_of_lt_of_le V_81.lt (Nat.le_of_eq g82.symm))
  have E_87 := E_70.ext E82
  have F_88 := F_71.ext E82
  have F_89 := F_72.ext E82
  have F_90 := F_73.ext E82
  have F_91 := F_74.ext E82
  have F_92 := F_75.ext E82
  have F_93 := F_76.ext E82
  have V_94 := V_77.ext E82
  have F_95 := F_78.ext E82
  have V_96 := V_79.ext E82
  have F_97 := F_80.ext E82
  have V_98 := V_81.ext E82
  have F_99 := Fw69.ext E82
  have ge_b82 : n0 ≤ b82 := Nat.le_trans Z69 (Nat.le_of_eq g82.symm)
  have sz_b82 : h0.size ≤ b82 := Nat.le_trans K69.1 (Nat.le_of_eq g82.symm)
  have Z82 : n0 ≤ h82.size := Nat.le_trans Z69 E82.1
  have K82 : Keep h0 h82 [aa] := K69.ext E82
  obtain ⟨T100, h100, X100, e100, W100, st100⟩ := putF X82 hx hZ hown (host := "") (Or.inl (hw _ (List.mem_of_getElem? (i := 17) rfl))) Via.refl e82 F_88 E_87 (Or.inl (hw _ (List.mem_of_getElem? (i := 18) rfl))) (hw _ (List.mem_of_getElem? (i := 1) rfl)) (ty := (.array .int)) (by decide) rfl rfl (g := (mkF m 33 #[.val (.ref aa)] [(.ref b82), (.ref aa)])) rfl rfl (hb hby d1_33)
  have Fw100 : Fld Z h100 aa "com/example/berthline/berthline/engine/replay/EstimatedEnds" "heights" "[I" (.ref b82) := Fld.same W100 F_88
  have E_101 := E_87.wr W100
  have F_102 := F_89.other W100 (Or.inr (slot_ne (Or.inl (hw _ (List.mem_of_getElem? (i := 20) rfl))) (Or.inl (hw _ (List.mem_of_getElem? (i := 18) rfl))) (by decide) (t := (.array .int)) (t' := (.array .int)) (by decide) (by decide)))
  have F_103 := F_90.other W100 (Or.inr (slot_ne (Or.inl (hw _ (List.mem_of_getElem? (i := 22) rfl))) (Or.inl (hw _ (List.mem_of_getElem? (i := 18) rfl))) (by decide) (t := (.array .int)) (t' := (.array .int)) (by decide) (by decide)))
  have F_104 := F_91.other W100 (Or.inr (slot_ne (Or.inl (hw _ (List.mem_of_getElem? (i := 24) rfl))) (Or.inl (hw _ (List.mem_of_getElem? (i := 18) rfl))) (by decide) (t := .int) (t' := (.array .int)) (by decide) (by decide)))
  have F_105 := F_92.other W100 (Or.inr (slot_ne (Or.inl (hw _ (List.mem_of_getElem? (i := 26) rfl))) (Or.inl (hw _ (List.mem_of_getElem? (i := 18) rfl))) (by decide) (t := .int) (t' := (.array .int)) (by decide) (by decide)))
  have F_106 := F_93.other W100 (Or.inr (slot_ne (Or.inl (hw _ (List.mem_of_getElem? (i := 28) rfl))) (Or.inl (hw _ (List.mem_of_getElem? (i := 18) rfl))) (by decide) (t := .int) (t' := (.array .int)) (by decide) (by decide)))
  have V_107 := V_94.other W100 (Ne.symm ne_5)
  have F_108 := F_95.other W100 (Or.inr (slot_ne (Or.inl (hw _ (List.mem_of_getElem? (i := 11) rfl))) (Or.inl (hw _ (List.mem_of_getElem? (i := 18) rfl))) (by decide) (t := (.array .long)) (t' := (.array .int)) (by decide) (by decide)))
  have V_109 := V_96.other W100 (Ne.symm ne_28)
  have F_110 := F_97.other W100 (Or.inr (slot_ne (Or.inl (hw _ (List.mem_of_getElem? (i := 13) rfl))) (Or.inl (hw _ (List.mem_of_getElem? (i := 18) rfl))) (by decide) (t := (.array .long)) (t' := (.array .int)) (by decide) (by decide)))
  have V_111 := V_98.other W100 (Ne.symm ne_54)
  have F_112 := F_99.other W100 (Or.inr (slot_ne (Or.inl (hw _ (List.mem_of_getElem? (i := 15) rfl))) (Or.inl (hw _ (List.mem_of_getElem? (i := 18) rfl))) (by decide) (t := (.array .long)) (t' := (.array .int)) (by decide) (by decide)))
  have V_113 := A82.other W100 (Ne.symm ne_83)
  have N100 := Fr.snoc X100 N69 g_a
  have Z100 : n0 ≤ h100.size := Nat.le_trans Z82 (Keep.of_wr W100).1
  have K100 : Keep h0 h100 [aa] := K82.wr W100 (Or.inl (List.mem_of_getElem? (i := 0) rfl))
  obtain ⟨T114, h114, X114, e114, E114, A114, st114⟩ := IA.make X100 hx hZ (hw _ (List.mem_of_getElem? (i := 16) rfl)) e100 (g := (mkF m 39 #[.val (.ref aa)] [(.int (16 : Int32)), (.ref aa)])) rfl (hb hby d1_39) rfl 16 (by decide) (by decide) (by decide) (by decide) (by decide)
  obtain ⟨b114, g114⟩ : ∃ z, z = h100.size := ⟨_, rfl⟩
  rw [← g114] at A114 st114
  have ne_115 : aa ≠ b114 := Nat.ne_of_lt (Nat.lt_of_lt_of_le E_101.lt (Nat.le_of_eq g114.symm))
  have ne_116 : b4 ≠ b114 := Nat.ne_of_lt (Nat.lt_of_lt_of_le V_107.lt (Nat.le_of_eq g114.symm))
  have ne_117 : b27 ≠ b114 := Nat.ne_of_lt (Nat.lt_of_lt_of_le V_109.lt (Nat.le_of_eq g114.symm))
  have ne_118 : b53 ≠ b114 := Nat.ne_of_lt (Nat.lt_of_lt_of_le V_111.lt (Nat.le_of_eq g114.symm))
  have ne_119 : b82 ≠ b114 := Nat.ne_of_lt (Nat.lt_of_lt_of_le V_113.lt (Nat.le_of_eq g114.symm))
  have E_120 := E_101.ext E114
  have F_121 := F_102.ext E114
  have F_122 := F_103.ext E114
  have F_123 := F_104.ext E114
  have F_124 := F_105.ext E114
  have F_125 := F_106.ext E114
  have V_126 := V_107.ext E114
  have F_127 := F_108.ext E114
  have V_128 := V_109.ext E114
  have F_129 := F_110.ext E114
  have V_130 := V_111.ext E114
  have F_131 := F_112.ext E114
  have V_132 := V_113.ext E114
  have F_133 := Fw100.ext E114
  have ge_b114 : n0 ≤ b114 := Nat.le_trans Z100 (Nat.le_of_eq g114.symm)
  have sz_b114 : h0.size ≤ b114 := Nat.le_trans K100.1 (Nat.le_of_eq g114.symm)
  have Z114 : n0 ≤ h114.size := Nat.le_trans Z100 E114.1
  have K114 : Keep h0 h114 [aa] := K100.ext E114
  obtain ⟨T134, h134, X134, e134, W134, st134⟩ := putF X114 hx hZ hown (host := "") (Or.inl (hw _ (List.mem_of_getElem? (i := 19) rfl))) Via.refl e114 F_121 E_120 (Or.inl (hw _ (List.mem_of_getElem? (i := 20) rfl))) (hw _ (List.mem_of_getElem? (i := 1) rfl)) (ty := (.array .int)) (by decide) rfl rfl (g := (mkF m 41 #[.val (.ref aa)] [(.ref b114), (.ref aa)])) rfl rfl (hb hby d1_41)
  have Fw134 : Fld Z h134 aa "com/example/berthline/berthline/engine/replay/EstimatedEnds" "left" "[I" (.ref b114) := Fld.same W134 F_121
  have E_135 := E_120.wr W134
  have F_136 := F_122.other W134 (Or.inr (slot_ne (Or.inl (hw _ (List.mem_of_getElem? (i := 22) rfl))) (Or.inl (hw _ (List.mem_of_getElem? (i := 20) rfl))) (by decide) (t := (.array .int)) (t' := (.array .int)) (by decide) (by decide)))
  have F_137 := F_123.other W134 (Or.inr (slot_ne (Or.inl (hw _ (List.mem_of_getElem? (i := 24) rfl))) (Or.inl (hw _ (List.mem_of_getElem? (i := 20) rfl))) (by decide) (t := .int) (t' := (.array .int)) (by decide) (by decide)))
  have F_138 := F_124.other W134 (Or.inr (slot_ne (Or.inl (hw _ (List.mem_of_getElem? (i := 26) rfl))) (Or.inl (hw _ (List.mem_of_getElem? (i := 20) rfl))) (by decide) (t := .int) (t' := (.array .int)) (by decide) (by decide)))
  have F_139 := F_125.other W134 (Or.inr (slot_ne (Or.inl (hw _ (List.mem_of_getElem? (i := 28) rfl))) (Or.inl (hw _ (List.mem_of_getElem? (i := 20) rfl))) (by decide) (t := .int) (t' := (.array .int)) (by decide) (by decide)))
  have V_140 := V_126.other W134 (Ne.symm ne_5)
  have F_141 := F_127.other W134 (Or.inr (slot_ne (Or.inl (hw _ (List.mem_of_getElem? (i := 11) rfl))) (Or.inl (hw _ (List.mem_of_getElem? (i := 20) rfl))) (by decide) (t := (.array .long)) (t' := (.array .int)) (by decide) (by decide)))
  have V_142 := V_128.other W134 (Ne.symm ne_28)
  have F_143 := F_129.other W134 (Or.inr (slot_ne (Or.inl (hw _ (List.mem_of_getElem? (i := 13) rfl))) (Or.inl (hw _ (List.mem_of_getElem? (i := 20) rfl))) (by decide) (t := (.array .long)) (t' := (.array .int)) (by decide) (by decide)))
  have V_144 := V_130.other W134 (Ne.symm ne_54)
  have F_145 := F_131.other W134 (Or.inr (slot_ne (Or.inl (hw _ (List.mem_of_getElem? (i := 15) rfl))) (Or.inl (hw _ (List.mem_of_getElem? (i := 20) rfl))) (by decide) (t := (.array .long)) (t' := (.array .int)) (by decide) (by decide)))
  have V_146 := V_132.other W134 (Ne.symm ne_83)
  have F_147 := F_133.other W134 (Or.inr (slot_ne (Or.inl (hw _ (List.mem_of_getElem? (i := 18) rfl))) (Or.inl (hw _ (List.mem_of_getElem? (i := 20) rfl))) (by decide) (t := (.array .int)) (t' := (.array .int)) (by decide) (by decide)))
  have V_148 := A114.other W134 (Ne.symm ne_115)
  have N134 := Fr.snoc X134 N100 g_a
  have Z134 : n0 ≤ h134.size := Nat.le_trans Z114 (Keep.of_wr W134).1
  have K134 : Keep h0 h134 [aa] := K114.wr W134 (Or.inl (List.mem_of_getElem? (i := 0) rfl))
  obtain ⟨T149, h149, X149, e149, E149, A149, st149⟩ := IA.make X134 hx hZ (hw _ (List.mem_of_getElem? (i := 16) rfl)) e134 (g := (mkF m 47 #[.val (.ref aa)] [(.int (16 : Int32)), (.ref aa)])) rfl (hb hby d1_47) rfl 16 (by decide) (by decide) (by decide) (by decide) (by decide)
  obtain ⟨b149, g149⟩ : ∃ z, z = h134.size := ⟨_, rfl⟩
  rw [← g149] at A149 st149
  have ne_150 : aa ≠ b149 := Nat.ne_of_lt (Nat.lt_of_lt_of_le E_135.lt (Nat.le_of_eq g149.symm))
  have ne_151 : b4 ≠ b149 := Nat.ne_of_lt (Nat.lt_of_lt_of_le V_140.lt (Nat.le_of_eq g149.symm))
  have ne_152 : b27 ≠ b149 := Nat.ne_of_lt (Nat.lt_of_lt_of_le V_142.lt (Nat.le_of_eq g149.symm))
  have ne_153 : b53 ≠ b149 := Nat.ne_of_lt (Nat.lt_of_lt_of_le V_144.lt (Nat.le_of_eq g149.symm))
  have ne_154 : b82 ≠ b149 := Nat.ne_of_lt (Nat.lt_of_lt_of_le V_146.lt (Nat.le_of_eq g149.symm))
  have ne_155 : b114 ≠ b149 := Nat.ne_of_lt (Nat.lt_of_lt_of_le V_148.lt (Nat.le_of_eq g149.symm))
  have E_156 := E_135.ext E149
  have F_157 := F_136.ext E149
  have F_158 := F_137.ext E149
  have F_159 := F_138.ext E149
  have F_160 := F_139.ext E149
  have V_161 := V_140.ext E149
  have F_162 := F_141.ext E149
  have V_163 := V_142.ext E149
  have F_164 := F_143.ext E149
  have V_165 := V_144.ext E149
  have F_166 := F_145.ext E149
  have V_167 := V_146.ext E149
  have F_168 := F_147.ext E149
  have V_169 := V_148.ext E149
  have F_170 := Fw134.ext E149
  have ge_b149 : n0 ≤ b149 := Nat.le_trans Z134 (Nat.le_of_eq g149.symm)
  have sz_b149 : h0.size ≤ b149 := Nat.le_trans K134.1 (Nat.le_of_eq g149.symm)
  have Z149 : n0 ≤ h149.size := Nat.le_trans Z134 E149.1
  have K149 : Keep h0 h149 [aa] := K134.ext E149
  obtain ⟨T171, h171, X171, e171, W171, st171⟩ := putF X149 hx hZ hown (host := "") (Or.inl (hw _ (List.mem_of_getElem? (i := 21) rfl))) Via.refl e149 F_157 E_156 (Or.inl (hw _ (List.mem_of_getElem? (i := 22) rfl))) (hw _ (List.mem_of_getElem? (i := 1) rfl)) (ty := (.array .int)) (by decide) rfl rfl (g := (mkF m 49 #[.val (.ref aa)] [(.ref b149), (.ref aa)])) rfl rfl (hb hby d1_49)
  have Fw171 : Fld Z h171 aa "com/example/berthline/berthline/engine/replay/EstimatedEnds" "right" "[I" (.ref b149) := Fld.same W171 F_157
  have E_172 := E_156.wr W171
  have F_173 := F_158.other W171 (Or.inr (slot_ne (Or.inl (hw _ (List.mem_of_getElem? (i := 24) rfl))) (Or.inl (hw _ (List.mem_of_getElem? (i := 22) rfl))) (by decide) (t := .int) (t' := (.array .int)) (by decide) (by decide)))
  have F_174 := F_159.other W171 (Or.inr (slot_ne (Or.inl (hw _ (List.mem_of_getElem? (i := 26) rfl))) (Or.inl (hw _ (List.mem_of_getElem? (i := 22) rfl))) (by decide) (t := .int) (t' := (.array .int)) (by decide) (by decide)))
  have F_175 := F_160.other W171 (Or.inr (slot_ne (Or.inl (hw _ (List.mem_of_getElem? (i := 28) rfl))) (Or.inl (hw _ (List.mem_of_getElem? (i := 22) rfl))) (by decide) (t := .int) (t' := (.array .int)) (by decide) (by decide)))
  have V_176 := V_161.other W171 (Ne.symm ne_5)
  have F_177 := F_162.other W171 (Or.inr (slot_ne (Or.inl (hw _ (List.mem_of_getElem? (i := 11) rfl))) (Or.inl (hw _ (List.mem_of_getElem? (i := 22) rfl))) (by decide) (t := (.array .long)) (t' := (.array .int)) (by decide) (by decide)))
  have V_178 := V_163.other W171 (Ne.symm ne_28)
  have F_179 := F_164.other W171 (Or.inr (slot_ne (Or.inl (hw _ (List.mem_of_getElem? (i := 13) rfl))) (Or.inl (hw _ (List.mem_of_getElem? (i := 22) rfl))) (by decide) (t := (.array .long)) (t' := (.array .int)) (by decide) (by decide)))
  have V_180 := V_165.other W171 (Ne.symm ne_54)
  have F_181 := F_166.other W171 (Or.inr (slot_ne (Or.inl (hw _ (List.mem_of_getElem? (i := 15) rfl))) (Or.inl (hw _ (List.mem_of_getElem? (i := 22) rfl))) (by decide) (t := (.array .long)) (t' := (.array .int)) (by decide) (by decide)))
  have V_182 := V_167.other W171 (Ne.symm ne_83)
  have F_183 := F_168.other W171 (Or.inr (slot_ne (Or.inl (hw _ (List.mem_of_getElem? (i := 18) rfl))) (Or.inl (hw _ (List.mem_of_getElem? (i := 22) rfl))) (by decide) (t := (.array .int)) (t' := (.array .int)) (by decide) (by decide)))
  have V_184 := V_169.other W171 (Ne.symm ne_115)
  have F_185 := F_170.other W171 (Or.inr (slot_ne (Or.inl (hw _ (List.mem_of_getElem? (i := 20) rfl))) (Or.inl (hw _ (List.mem_of_getElem? (i := 22) rfl))) (by decide) (t := (.array .int)) (t' := (.array .int)) (by decide) (by decide)))
  have V_186 := A149.other W171 (Ne.symm ne_150)
  have N171 := Fr.snoc X171 N134 g_a
  have Z171 : n0 ≤ h171.size := Nat.le_trans Z149 (Keep.of_wr W171).1
  have K171 : Keep h0 h171 [aa] := K149.wr W171 (Or.inl (List.mem_of_getElem? (i := 0) rfl))
  obtain ⟨T187, h187, X187, e187, W187, st187⟩ := putF X171 hx hZ hown (host := "") (Or.inl (hw _ (List.mem_of_getElem? (i := 23) rfl))) Via.refl e171 F_173 E_172 (Or.inl (hw _ (List.mem_of_getElem? (i := 24) rfl))) (hw _ (List.mem_of_getElem? (i := 1) rfl)) (ty := .int) (by decide) rfl rfl (g := (mkF m 54 #[.val (.ref aa)] [(.int (0 : Int32)), (.ref aa)])) rfl rfl (hb hby d1_54)
  have Fw187 : Fld Z h187 aa "com/example/berthline/berthline/engine/replay/EstimatedEnds" "root" "I" (.int (0 : Int32)) := Fld.same W187 F_173
  have E_188 := E_172.wr W187
  have F_189 := F_174.other W187 (Or.inr (slot_ne (Or.inl (hw _ (List.mem_of_getElem? (i := 26) rfl))) (Or.inl (hw _ (List.mem_of_getElem? (i := 24) rfl))) (by decide) (t := .int) (t' := .int) (by decide) (by decide)))
  have F_190 := F_175.other W187 (Or.inr (slot_ne (Or.inl (hw _ (List.mem_of_getElem? (i := 28) rfl))) (Or.inl (hw _ (List.mem_of_getElem? (i := 24) rfl))) (by decide) (t := .int) (t' := .int) (by decide) (by decide)))
  have V_191 := V_176.other W187 (Ne.symm ne_5)
  have F_192 := F_177.other W187 (Or.inr (slot_ne (Or.inl (hw _ (List.mem_of_getElem? (i := 11) rfl))) (Or.inl (hw _ (List.mem_of_getElem? (i := 24) rfl))) (by decide) (t := (.array .long)) (t' := .int) (by decide) (by decide)))
  have V_193 := V_178.other W187 (Ne.symm ne_28)
  have F_194 := F_179.other W187 (Or.inr (slot_ne (Or.inl (hw _ (List.mem_of_getElem? (i := 13) rfl))) (Or.inl (hw _ (List.mem_of_getElem? (i := 24) rfl))) (by decide) (t := (.array .long)) (t' := .int) (by decide) (by decide)))
  have V_195 := V_180.other W187 (Ne.symm ne_54)
  have F_196 := F_181.other W187 (Or.inr (slot_ne (Or.inl (hw _ (List.mem_of_getElem? (i := 15) rfl))) (Or.inl (hw _ (List.mem_of_getElem? (i := 24) rfl))) (by decide) (t := (.array .long)) (t' := .int) (by decide) (by decide)))
  have V_197 := V_182.other W187 (Ne.symm ne_83)
  have F_198 := F_183.other W187 (Or.inr (slot_ne (Or.inl (hw _ (List.mem_of_getElem? (i := 18) rfl))) (Or.inl (hw _ (List.mem_of_getElem? (i := 24) rfl))) (by decide) (t := (.array .int)) (t' := .int) (by decide) (by decide)))
  have V_199 := V_184.other W187 (Ne.symm ne_115)
  have F_200 := F_185.other W187 (Or.inr (slot_ne (Or.inl (hw _ (List.mem_of_getElem? (i := 20) rfl))) (Or.inl (hw _ (List.mem_of_getElem? (i := 24) rfl))) (by decide) (t := (.array .int)) (t' := .int) (by decide) (by decide)))
  have V_201 := V_186.other W187 (Ne.symm ne_150)
  have F_202 := Fw171.other W187 (Or.inr (slot_ne (Or.inl (hw _ (List.mem_of_getElem? (i := 22) rfl))) (Or.inl (hw _ (List.mem_of_getElem? (i := 24) rfl))) (by decide) (t := (.array .int)) (t' := .int) (by decide) (by decide)))
  have N187 := Fr.snoc X187 N171 g_a
  have Z187 : n0 ≤ h187.size := Nat.le_trans Z171 (Keep.of_wr W187).1
  have K187 : Keep h0 h187 [aa] := K171.wr W187 (Or.inl (List.mem_of_getElem? (i := 0) rfl))
  obtain ⟨T203, h203, X203, e203, W203, st203⟩ := putF X187 hx hZ hown (host := "") (Or.inl (hw _ (List.mem_of_getElem? (i := 25) rfl))) Via.refl e187 F_189 E_188 (Or.inl (hw _ (List.mem_of_getElem? (i := 26) rfl))) (hw _ (List.mem_of_getElem? (i := 1) rfl)) (ty := .int) (by decide) rfl rfl (g := (mkF m 59 #[.val (.ref aa)] [(.int (1 : Int32)), (.ref aa)])) rfl rfl (hb hby d1_59)
  have Fw203 : Fld Z h203 aa "com/example/berthline/berthline/engine/replay/EstimatedEnds" "made" "I" (.int (1 : Int32)) := Fld.same W203 F_189
  have E_204 := E_188.wr W203
  have F_205 := F_190.other W203 (Or.inr (slot_ne (Or.inl (hw _ (List.mem_of_getElem? (i := 28) rfl))) (Or.inl (hw _ (List.mem_of_getElem? (i := 26) rfl))) (by decide) (t := .int) (t' := .int) (by decide) (by decide)))
  have V_206 := V_191.other W203 (Ne.symm ne_5)
  have F_207 := F_192.other W203 (Or.inr (slot_ne (Or.inl (hw _ (List.mem_of_getElem? (i := 11) rfl))) (Or.inl (hw _ (List.mem_of_getElem? (i := 26) rfl))) (by decide) (t := (.array .long)) (t' := .int) (by decide) (by decide)))
  have V_208 := V_193.other W203 (Ne.symm ne_28)
  have F_209 := F_194.other W203 (Or.inr (slot_ne (Or.inl (hw _ (List.mem_of_getElem? (i := 13) rfl))) (Or.inl (hw _ (List.mem_of_getElem? (i := 26) rfl))) (by decide) (t := (.array .long)) (t' := .int) (by decide) (by decide)))
  have V_210 := V_195.other W203 (Ne.symm ne_54)
  have F_211 := F_196.other W203 (Or.inr (slot_ne (Or.inl (hw _ (List.mem_of_getElem? (i := 15) rfl))) (Or.inl (hw _ (List.mem_of_getElem? (i := 26) rfl))) (by decide) (t := (.array .long)) (t' := .int) (by decide) (by decide)))
  have V_212 := V_197.other W203 (Ne.symm ne_83)
  have F_213 := F_198.other W203 (Or.inr (slot_ne (Or.inl (hw _ (List.mem_of_getElem? (i := 18) rfl))) (Or.inl (hw _ (List.mem_of_getElem? (i := 26) rfl))) (by decide) (t := (.array .int)) (t' := .int) (by decide) (by decide)))
  have V_214 := V_199.other W203 (Ne.symm ne_115)
  have F_215 := F_200.other W203 (Or.inr (slot_ne (Or.inl (hw _ (List.mem_of_getElem? (i := 20) rfl))) (Or.inl (hw _ (List.mem_of_getElem? (i := 26) rfl))) (by decide) (t := (.array .int)) (t' := .int) (by decide) (by decide)))
  have V_216 := V_201.other W203 (Ne.symm ne_150)
  have F_217 := F_202.other W203 (Or.inr (slot_ne (Or.inl (hw _ (List.mem_of_getElem? (i := 22) rfl))) (Or.inl (hw _ (List.mem_of_getElem? (i := 26) rfl))) (by decide) (t := (.array .int)) (t' := .int) (by decide) (by decide)))
  have F_218 := Fw187.other W203 (Or.inr (slot_ne (Or.inl (hw _ (List.mem_of_getElem? (i := 24) rfl))) (Or.inl (hw _ (List.mem_of_getElem? (i := 26) rfl))) (by decide) (t := .int) (t' := .int) (by decide) (by decide)))
  have N203 := Fr.snoc X203 N187 g_a
  have Z203 : n0 ≤ h203.size := Nat.le_trans Z187 (Keep.of_wr W203).1
  have K203 : Keep h0 h203 [aa] := K187.wr W203 (Or.inl (List.mem_of_getElem? (i := 0) rfl))
  obtain ⟨T219, h219, X219, e219, W219, st219⟩ := putF X203 hx hZ hown (host := "") (Or.inl (hw _ (List.mem_of_getElem? (i := 27) rfl))) Via.refl e203 F_205 E_204 (Or.inl (hw _ (List.mem_of_getElem? (i := 28) rfl))) (hw _ (List.mem_of_getElem? (i := 1) rfl)) (ty := .int) (by decide) rfl rfl (g := (mkF m 64 #[.val (.ref aa)] [(.int (0 : Int32)), (.ref aa)])) rfl rfl (hb hby d1_64)
  have Fw219 : Fld Z h219 aa "com/example/berthline/berthline/engine/replay/EstimatedEnds" "unused" "I" (.int (0 : Int32)) := Fld.same W219 F_205
  have E_220 := E_204.wr W219
  have V_221 := V_206.other W219 (Ne.symm ne_5)
  have F_222 := F_207.other W219 (Or.inr (slot_ne (Or.inl (hw _ (List.mem_of_getElem? (i := 11) rfl))) (Or.inl (hw _ (List.mem_of_getElem? (i := 28) rfl))) (by decide) (t := (.array .long)) (t' := .int) (by decide) (by decide)))
  have V_223 := V_208.other W219 (Ne.symm ne_28)
  have F_224 := F_209.other W219 (Or.inr (slot_ne (Or.inl (hw _ (List.mem_of_getElem? (i := 13) rfl))) (Or.inl (hw _ (List.mem_of_getElem? (i := 28) rfl))) (by decide) (t := (.array .long)) (t' := .int) (by decide) (by decide)))
  have V_225 := V_210.other W219 (Ne.symm ne_54)
  have F_226 := F_211.other W219 (Or.inr (slot_ne (Or.inl (hw _ (List.mem_of_getElem? (i := 15) rfl))) (Or.inl (hw _ (List.mem_of_getElem? (i := 28) rfl))) (by decide) (t := (.array .long)) (t' := .int) (by decide) (by decide)))
  have V_227 := V_212.other W219 (Ne.symm ne_83)
  have F_228 := F_213.other W219 (Or.inr (slot_ne (Or.inl (hw _ (List.mem_of_getElem? (i := 18) rfl))) (Or.inl (hw _ (List.mem_of_getElem? (i := 28) rfl))) (by decide) (t := (.array .int)) (t' := .int) (by decide) (by decide)))
  have V_229 := V_214.other W219 (Ne.symm ne_115)
  have F_230 := F_215.other W219 (Or.inr (slot_ne (Or.inl (hw _ (List.mem_of_getElem? (i := 20) rfl))) (Or.inl (hw _ (List.mem_of_getElem? (i := 28) rfl))) (by decide) (t := (.array .int)) (t' := .int) (by decide) (by decide)))
  have V_231 := V_216.other W219 (Ne.symm ne_150)
  have F_232 := F_217.other W219 (Or.inr (slot_ne (Or.inl (hw _ (List.mem_of_getElem? (i := 22) rfl))) (Or.inl (hw _ (List.mem_of_getElem? (i := 28) rfl))) (by decide) (t := (.array .int)) (t' := .int) (by decide) (by decide)))
  have F_233 := F_218.other W219 (Or.inr (slot_ne (Or.inl (hw _ (List.mem_of_getElem? (i := 24) rfl))) (Or.inl (hw _ (List.mem_of_getElem? (i := 28) rfl))) (by decide) (t := .int) (t' := .int) (by decide) (by decide)))
  have F_234 := Fw203.other W219 (Or.inr (slot_ne (Or.inl (hw _ (List.mem_of_getElem? (i := 26) rfl))) (Or.inl (hw _ (List.mem_of_getElem? (i := 28) rfl))) (by decide) (t := .int) (t' := .int) (by decide) (by decide)))
  have N219 := Fr.snoc X219 N203 g_a
  have Z219 : n0 ≤ h219.size := Nat.le_trans Z203 (Keep.of_wr W219).1
  have K219 : Keep h0 h219 [aa] := K203.wr W219 (Or.inl (List.mem_of_getElem? (i := 0) rfl))
  obtain ⟨fs, hr, hrun, hended, hW, hsame⟩ := X219.leave (v := none) (fun _ => rfl)
  refine ⟨_, _, pre0 _ ?_, hrun, hended, _, _, rfl, ?_, ⟨_, rfl⟩, hW, hsame.mono (by decide) (by decide)⟩
  · show Steps p.tables e below (s₁.setTop (mkF m 0 #[.val (.ref aa)] [])) _
    refine XS.aloadN X0.here hx rfl (hb hby d1_0) rfl rfl ?_
    show Steps p.tables e below (s₁.setTop (mkF m 1 #[.val (.ref aa)] [(.ref aa)])) _
    refine st3 _ ?_
    show Steps p.tables e below (T3.setTop (mkF m 4 #[.val (.ref aa)] [])) _
    refine XS.aloadN X3.here hx rfl (hb hby d1_4) rfl rfl ?_
    show Steps p.tables e below (T3.setTop (mkF m 5 #[.val (.ref aa)] [(.ref aa)])) _
    refine XS.bipush X3.here hx rfl (hb hby d1_5) ?_
    show Steps p.tables e below (T3.setTop (mkF m 7 #[.val (.ref aa)] [(.int (16 : Int32)), (.ref aa)])) _
    refine st4 _ ?_
    show Steps p.tables e below (T4.setTop (mkF m 9 #[.val (.ref aa)] [(.ref b4), (.ref aa)])) _
    refine st16 _ ?_
    show Steps p.tables e below (T16.setTop (mkF m 12 #[.val (.ref aa)] [])) _
    refine XS.aloadN X16.here hx rfl (hb hby d1_12) rfl rfl ?_
    show Steps p.tables e below (T16.setTop (mkF m 13 #[.val (.ref aa)] [(.ref aa)])) _
    refine XS.bipush X16.here hx rfl (hb hby d1_13) ?_
    show Steps p.tables e below (T16.setTop (mkF m 15 #[.val (.ref aa)] [(.int (16 : Int32)), (.ref aa)])) _
    refine st27 _ ?_
    show Steps p.tables e below (T27.setTop (mkF m 17 #[.val (.ref aa)] [(.ref b27), (.ref aa)])) _
    refine st41 _ ?_
    show Steps p.tables e below (T41.setTop (mkF m 20 #[.val (.ref aa)] [])) _
    refine XS.aloadN X41.here hx rfl (hb hby d1_20) rfl rfl ?_
    show Steps p.tables e below (T41.setTop (mkF m 21 #[.val (.ref aa)] [(.ref aa)])) _
    refine XS.bipush X41.here hx rfl (hb hby d1_21) ?_
    show Steps p.tables e below (T41.setTop (mkF m 23 #[.val (.ref aa)] [(.int (16 : Int32)), (.ref aa)])) _
    refine st53 _ ?_
    show Steps p.tables e below (T53.setTop (mkF m 25 #[.val (.ref aa)] [(.ref b53), (.ref aa)])) _
    refine st69 _ ?_
    show Steps p.tables e below (T69.setTop (mkF m 28 #[.val (.ref aa)] [])) _
    refine XS.aloadN X69.here hx rfl (hb hby d1_28) rfl rfl ?_
    show Steps p.tables e below (T69.setTop (mkF m 29 #[.val (.ref aa)] [(.ref aa)])) _
    refine XS.bipush X69.here hx rfl (hb hby d1_29) ?_
    show Steps p.tables e below (T69.setTop (mkF m 31 #[.val (.ref aa)] [(.int (16 : Int32)), (.ref aa)])) _
    refine st82 _ ?_
    show Steps p.tables e below (T82.setTop (mkF m 33 #[.val (.ref aa)] [(.ref b82), (.ref aa)])) _
    refine st100 _ ?_
    show Steps p.tables e below (T100.setTop (mkF m 36 #[.val (.ref aa)] [])) _
    refine XS.aloadN X100.here hx rfl (hb hby d1_36) rfl rfl ?_
    show Steps p.tables e below (T100.setTop (mkF m 37 #[.val (.ref aa)] [(.ref aa)])) _
    refine XS.bipush X100.here hx rfl (hb hby d1_37) ?_
    show Steps p.tables e below (T100.setTop (mkF m 39 #[.val (.ref aa)] [(.int (16 : Int32)), (.ref aa)])) _
    refine st114 _ ?_
    show Steps p.tables e below (T114.setTop (mkF m 41 #[.val (.ref aa)] [(.ref b114), (.ref aa)])) _
    refine st134 _ ?_
    show Steps p.tables e below (T134.setTop (mkF m 44 #[.val (.ref aa)] [])) _
    refine XS.aloadN X134.here hx rfl (hb hby d1_44) rfl rfl ?_
    show Steps p.tables e below (T134.setTop (mkF m 45 #[.val (.ref aa)] [(.ref aa)])) _
    refine XS.bipush X134.here hx rfl (hb hby d1_45) ?_
    show Steps p.tables e below (T134.setTop (mkF m 47 #[.val (.ref aa)] [(.int (16 : Int32)), (.ref aa)])) _
    refine st149 _ ?_
    show Steps p.tables e below (T149.setTop (mkF m 49 #[.val (.ref aa)] [(.ref b149), (.ref aa)])) _
    refine st171 _ ?_
    show Steps p.tables e below (T171.setTop (mkF m 52 #[.val (.ref aa)] [])) _
    refine XS.aloadN X171.here hx rfl (hb hby d1_52) rfl rfl ?_
    show Steps p.tables e below (T171.setTop (mkF m 53 #[.val (.ref aa)] [(.ref aa)])) _
    refine XS.iconst X171.here hx rfl (hb hby d1_53) ?_
    show Steps p.tables e below (T171.setTop (mkF m 54 #[.val (.ref aa)] [(.int (0 : Int32)), (.ref aa)])) _
    refine st187 _ ?_
    show Steps p.tables e below (T187.setTop (mkF m 57 #[.val (.ref aa)] [])) _
    refine XS.aloadN X187.here hx rfl (hb hby d1_57) rfl rfl ?_
    show Steps p.tables e below (T187.setTop (mkF m 58 #[.val (.ref aa)] [(.ref aa)])) _
    refine XS.iconst X187.here hx rfl (hb hby d1_58) ?_
    show Steps p.tables e below (T187.setTop (mkF m 59 #[.val (.ref aa)] [(.int (1 : Int32)), (.ref aa)])) _
    refine st203 _ ?_
    show Steps p.tables e below (T203.setTop (mkF m 62 #[.val (.ref aa)] [])) _
    refine XS.aloadN X203.here hx rfl (hb hby d1_62) rfl rfl ?_
    show Steps p.tables e below (T203.setTop (mkF m 63 #[.val (.ref aa)] [(.ref aa)])) _
    refine XS.iconst X203.here hx rfl (hb hby d1_63) ?_
    show Steps p.tables e below (T203.setTop (mkF m 64 #[.val (.ref aa)] [(.int (0 : Int32)), (.ref aa)])) _
    refine st219 _ ?_
    show Steps p.tables e below (T219.setTop (mkF m 67 #[.val (.ref aa)] [])) _
    exact X219.returnOut hx Bd.returns (hb hby d1_67) hr
  · show Q1 Z aa h0 n0 _ T219.heap _
    rw [e219]
    exact ⟨b4, b27, b53, b82, b114, b149, rfl, N219, K219, (TR.mk (S := own_S0) E_220 F_222 F_224 F_226 F_228 F_230 F_232 F_233 F_234 Fw219 V_221 V_223 V_225 V_227 V_229 V_231), (own_D.mk ne_5 ne_28 ne_54 ne_83 ne_115 ne_150 ne_29 ne_55 ne_84 ne_116 ne_151 ne_56 ne_85 ne_117 ne_152 ne_86 ne_118 ne_153 ne_119 ne_154 ne_155), ge_b4, ge_b27, ge_b53, ge_b82, ge_b114, ge_b149⟩

theorem d8_0 : decode prog_107_method_16_code 0 = .ok (.aload_n 0, 1) := by decide +kernel
theorem d8_1 : decode prog_107_method_16_code 1 = .ok (.getfield 23, 3) := by decide +kernel
theorem d8_4 : decode prog_107_method_16_code 4 = .ok (.iload_n 1, 1) := by decide +kernel
theorem d8_5 : decode prog_107_method_16_code 5 = .ok (.iaload, 1) := by decide +kernel
theorem d8_6 : decode prog_107_method_16_code 6 = .ok (.istore_n 2, 1) := by decide +kernel
theorem d8_7 : decode prog_107_method_16_code 7 = .ok (.aload_n 0, 1) := by decide +kernel
theorem d8_8 : decode prog_107_method_16_code 8 = .ok (.getfield 26, 3) := by decide +kernel
theorem d8_11 : decode prog_107_method_16_code 11 = .ok (.iload_n 1, 1) := by decide +kernel
theorem d8_12 : decode prog_107_method_16_code 12 = .ok (.iaload, 1) := by decide +kernel
theorem d8_13 : decode prog_107_method_16_code 13 = .ok (.istore_n 3, 1) := by decide +kernel
theorem d8_14 : decode prog_107_method_16_code 14 = .ok (.aload_n 0, 1) := by decide +kernel
theorem d8_15 : decode prog_107_method_16_code 15 = .ok (.getfield 19, 3) := by decide +kernel
theorem d8_18 : decode prog_107_method_16_code 18 = .ok (.iload_n 1, 1) := by decide +kernel
theorem d8_19 : decode prog_107_method_16_code 19 = .ok (.iconst 1, 1) := by decide +kernel
theorem d8_20 : decode prog_107_method_16_code 20 = .ok (.aload_n 0, 1) := by decide +kernel
theorem d8_21 : decode prog_107_method_16_code 21 = .ok (.getfield 19, 3) := by decide +kernel
theorem d8_24 : decode prog_107_method_16_code 24 = .ok (.iload_n 2, 1) := by decide +kernel
theorem d8_25 : decode prog_107_method_16_code 25 = .ok (.iaload, 1) := by decide +kernel
theorem d8_26 : decode prog_107_method_16_code 26 = .ok (.aload_n 0, 1) := by decide +kernel
theorem d8_27 : decode prog_107_method_16_code 27 = .ok (.getfield 19, 3) := by decide +kernel
theorem d8_30 : decode prog_107_method_16_code 30 = .ok (.iload_n 3, 1) := by decide +kernel
theorem d8_31 : decode prog_107_method_16_code 31 = .ok (.iaload, 1) := by decide +kernel
theorem d8_32 : decode prog_107_method_16_code 32 = .ok (.invokestatic 108, 3) := by decide +kernel
theorem pd_710716 : parseMethodDescriptor "(II)I" = some ⟨[.int, .int], some .int⟩ := by decide +kernel
theorem d8_35 : decode prog_107_method_16_code 35 = .ok (.iadd, 1) := by decide +kernel
theorem d8_36 : decode prog_107_method_16_code 36 = .ok (.iastore, 1) := by decide +kernel
theorem d8_37 : decode prog_107_method_16_code 37 = .ok (.aload_n 0, 1) := by decide +kernel
theorem d8_38 : decode prog_107_method_16_code 38 = .ok (.getfield 16, 3) := by decide +kernel
theorem d8_41 : decode prog_107_method_16_code 41 = .ok (.iload_n 1, 1) := by decide +kernel
theorem d8_42 : decode prog_107_method_16_code 42 = .ok (.aload_n 0, 1) := by decide +kernel
theorem d8_43 : decode prog_107_method_16_code 43 = .ok (.getfield 16, 3) := by decide +kernel
theorem d8_46 : decode prog_107_method_16_code 46 = .ok (.iload_n 2, 1) := by decide +kernel
theorem d8_47 : decode prog_107_method_16_code 47 = .ok (.laload, 1) := by decide +kernel
theorem d8_48 : decode prog_107_method_16_code 48 = .ok (.aload_n 0, 1) := by decide +kernel
theorem d8_49 : decode prog_107_method_16_code 49 = .ok (.getfield 16, 3) := by decide +kernel
theorem d8_52 : decode prog_107_method_16_code 52 = .ok (.iload_n 3, 1) := by decide +kernel
theorem d8_53 : decode prog_107_method_16_code 53 = .ok (.laload, 1) := by decide +kernel
theorem d8_54 : decode prog_107_method_16_code 54 = .ok (.ladd, 1) := by decide +kernel
theorem d8_55 : decode prog_107_method_16_code 55 = .ok (.aload_n 0, 1) := by decide +kernel
theorem d8_56 : decode prog_107_method_16_code 56 = .ok (.getfield 13, 3) := by decide +kernel
theorem d8_59 : decode prog_107_method_16_code 59 = .ok (.iload_n 1, 1) := by decide +kernel
theorem d8_60 : decode prog_107_method_16_code 60 = .ok (.laload, 1) := by decide +kernel
theorem d8_61 : decode prog_107_method_16_code 61 = .ok (.ladd, 1) := by decide +kernel
theorem d8_62 : decode prog_107_method_16_code 62 = .ok (.lastore, 1) := by decide +kernel
theorem d8_63 : decode prog_107_method_16_code 63 = .ok (.return_, 1) := by decide +kernel
theorem ef_8 (m : MethodId) (aa : Addr) : entryFrame m #[(.ref aa), (.int (Int32.ofNat i))] 4 = mkF m 0 #[.val (.ref aa), .val (.int (Int32.ofNat i)), .unset, .unset] [] := by first | (simp [entryFrame, mkF, argsToLocals, Value.category]; done) | rfl
def Q8 (Z : State) (aa : Addr) (ae : Addr) (ap : Addr) (aS : Addr) (ah : Addr) (al : Addr) (ar : Addr) (S : own_S) (rt : Nat) (md : Nat) (i : Nat) (B : Nat) (h0 : Heap) (n0 : Nat) (v : Option Value) (h : Heap) (L : List Loc) : Prop := v = none ∧ Fr n0 L ∧ Keep h0 h [aa, ae, ap, aS, ah, al, ar] ∧ TR Z h aa ae ap aS ah al ar (own_update S i) rt md
set_option maxRecDepth 65536 in
set_option maxHeartbeats 40000000 in
theorem rm8 (l : Launch) (Z : State) (a0 : Array Value) (hw : ∀ d ∈ tables_1, d.before a0 Z = true) (ws : List Jvm.Cond) (aa : Addr) (ae : Addr) (ap : Addr) (aS : Addr) (ah : Addr) (al : Addr) (ar : Addr) (S : own_S) (rt : Nat) (md : Nat) (i : Nat) (B : Nat) (h0 : Heap) (n0 : Nat) (Z0 : n0 ≤ h0.size) (g_aa : n0 ≤ aa) (g_ae : n0 ≤ ae) (g_ap : n0 ≤ ap) (g_aS : n0 ≤ aS) (g_ah : n0 ≤ ah) (g_al : n0 ≤ al) (g_ar : n0 ≤ ar) (hD : own_D aa ae ap aS ah al ar) (hTR : TR Z h0 aa ae ap aS ah al ar S rt md) (hi : i < 16) (hok : own_ok B S) (hB : B < 1000000) :
    MetFree l (⟨"com/example/berthline/berthline/engine/replay/EstimatedEnds", "update", "(I)V"⟩ : MethodName) (head1 (Jvm.Cond.code (⟨"com/example/berthline/berthline/engine/replay/EstimatedEnds", "update", "(I)V"⟩ : MethodName) prog_107_method_16_code 4 none :: ws) ({ frames := 1, cells := 0, slots := 0, locals := 16 } : Room)) (fun a U => a = #[(.ref aa), (.int (Int32.ofNat i))] ∧ Z.Warmed39 U.vm ∧ U.heap = h0) (fun _ _ _ _ _ => True) (fun _ U o U' => ∃ v L, o = .returned v ∧ Q8 Z aa ae ap aS ah al ar S rt md i B h0 n0 v U'.heap L ∧ FrameEnd U o U' L ({ frames := 1, cells := 0, slots := 0, locals := 16 } : Room).cells ({ frames := 1, cells := 0, slots := 0, locals := 16 } : Room).slots) := by
  refine MetFree.of_bodySF (plainFor_of_name pn_com_example_berthline_berthline_engine_replay_EstimatedEnds) hisR ?_
  intro p e s m args below meth c s₁ Bd hml0 hP hK
  obtain ⟨rfl, hZ, hh⟩ := hP
  have hx := Bd.exec
  have hby := Bd.bytes
  have hml : c.maxLocals = 4 := hml0
  have hown : s.vm.findClass "com/example/berthline/berthline/engine/replay/EstimatedEnds" = some m.cls := findClass_of_methodNamed Bd.named
  have hnm := (name_of_methodNamed Bd.named Bd.method).1
  have X0 : Stand p l e ({ frames := 1, cells := 0, slots := 0, locals := 16 } : Room) s m #[(.ref aa), (.int (Int32.ofNat i))] below meth c s₁ [] 0 0 := Stand.of_body Bd
  have e0 : s₁.heap = h0 := by rw [← hh, Bd.state]; rfl
  have N0 := Fr.nil n0
  have pre0 : ∀ t, Steps p.tables e below (s₁.setTop (mkF m 0 #[.val (.ref aa), .val (.int (Int32.ofNat i)), .unset, .unset] [])) t → Steps p.tables e below (s₁.setTop (entryFrame m #[(.ref aa), (.int (Int32.ofNat i))] 4)) t := fun t k => castTop (ef_8 m aa) k
  obtain ⟨dd235_0, dd235_1, dd235_2, dd235_3, dd235_4, dd235_5, dd235_6, dd235_7, dd235_8, dd235_9, dd235_10, dd235_11, dd235_12, dd235_13, dd235_14, dd235_15, dd235_16, dd235_17, dd235_18, dd235_19, dd235_20⟩ := id hD
  obtain ⟨t236_0, t236_1, t236_2, t236_3, t236_4, t236_5, t236_6, t236_7, t236_8, t236_9, t236_10, t236_11, t236_12, t236_13, t236_14, t236_15⟩ := hTR
  obtain ⟨T237, X237, e237, st237⟩ := getF X0 hx hZ hown (host := "") (Or.inl (hw _ (List.mem_of_getElem? (i := 19) rfl))) Via.refl e0 t236_5 (g := (mkF m 1 #[.val (.ref aa), .val (.int (Int32.ofNat i)), .unset, .unset] [(.ref aa)])) rfl rfl (hb hby d8_1)
  obtain ⟨T238, X238, e238, st238⟩ := getF X237 hx hZ hown (host := "") (Or.inl (hw _ (List.mem_of_getElem? (i := 21) rfl))) Via.refl e237 t236_6 (g := (mkF m 8 #[.val (.ref aa), .val (.int (Int32.ofNat i)), .val (.int (Int32.ofNat ((own_l S) i))), .unset] [(.ref aa)])) rfl rfl (hb hby d8_8)
  obtain ⟨T239, X239, e239, st239⟩ := getF X238 hx hZ hown (host := "") (Or.inl (hw _ (List.mem_of_getElem? (i := 17) rfl))) Via.refl e238 t236_4 (g := (mkF m 15 #[.val (.ref aa), .val (.int (Int32.ofNat i)), .val (.int (Int32.ofNat ((own_l S) i))), .val (.int (Int32.ofNat ((own_r S) i)))] [(.ref aa)])) rfl rfl (hb hby d8_15)
  obtain ⟨T240, X240, e240, st240⟩ := getF X239 hx hZ hown (host := "") (Or.inl (hw _ (List.mem_of_getElem? (i := 17) rfl))) Via.refl e239 t236_4 (g := (mkF m 21 #[.val (.ref aa), .val (.int (Int32.ofNat i)), .val (.int (Int32.ofNat ((own_l S) i))), .val (.int (Int32.ofNat ((own_r S) i)))] [(.ref aa), (.int (1 : Int32)), (.int (Int32.ofNat i)), (.ref ah)])) rfl rfl (hb hby d8_21)
  obtain ⟨T241, X241, e241, st241⟩ := getF X240 hx hZ hown (host := "") (Or.inl (hw _ (List.mem_of_getElem? (i := 17) rfl))) Via.refl e240 t236_4 (g := (mkF m 27 #[.val (.ref aa), .val (.int (Int32.ofNat i)), .val (.int (Int32.ofNat ((own_l S) i))), .val (.int (Int32.ofNat ((own_r S) i)))] [(.ref aa), (.int (Int32.ofNat ((own_h S) ((own_l S) i)))), (.int (1 : Int32)), (.int (Int32.ofNat i)), (.ref ah)])) rfl rfl (hb hby d8_27)
  obtain ⟨_, _, ⟨T242, L242, k242, n242⟩, -, X242, ⟨Lc242, hQ242, l242, y242, z242⟩, st242⟩ := Jvm.LawKit.callS X241 hx (y := (⟨"java/lang/Math", "max", "(II)I"⟩ : MethodName)) hown (mvT hZ (hw _ (List.mem_of_getElem? (i := 55) rfl))) (mvT hZ (hw _ (List.mem_of_getElem? (i := 56) rfl))) (mvT hZ (hw _ (List.mem_of_getElem? (i := 57) rfl))) (mvT hZ (hw _ (List.mem_of_getElem? (i := 58) rfl))) (by decide) (backOf (W := 3) (rm9 l Z a0 hw [] (Int32.ofNat ((own_h S) ((own_l S) i))) (Int32.ofNat ((own_h S) ((own_r S) i))) h0 n0 Z0 ) hZ (hw _ (List.mem_of_getElem? (i := 58) rfl)) (hw _ (List.mem_of_getElem? (i := 57) rfl)) (by decide) (by decide)) (g := (mkF m 32 #[.val (.ref aa), .val (.int (Int32.ofNat i)), .val (.int (Int32.ofNat ((own_l S) i))), .val (.int (Int32.ofNat ((own_r S) i)))] [(.int (Int32.ofNat ((own_h S) ((own_r S) i)))), (.int (Int32.ofNat ((own_h S) ((own_l S) i)))), (.int (1 : Int32)), (.int (Int32.ofNat i)), (.ref ah)])) rfl (by rw [hml]; rfl) (argsL := [(.int (Int32.ofNat ((own_h S) ((own_l S) i)))), (.int (Int32.ofNat ((own_h S) ((own_r S) i))))]) (rest := [(.int (1 : Int32)), (.int (Int32.ofNat i)), (.ref ah)]) (lenOf pd_710716 rfl) rfl (by show 2 * 0 + _ ≤ _; exact Nat.le_of_eq rfl) (hb hby d8_32) (fun _ _ => ⟨rfl, e241, (by decide : 0 + 0 ≤ _), (by decide : 0 + 0 ≤ _)⟩)
  dsimp only [Pt.U, Pt.locs, Pt.cells, Pt.slots] at X242 l242 y242 z242 st242 hQ242
  subst l242 y242 z242
  obtain ⟨rfl, N242q, K242c⟩ := hQ242
  have N242 := Fr.app N0 N242q
  obtain ⟨T243, h243, X243, e243, W243, V243, st243⟩ := IA.store X242 hx hZ K242c t236_13 i (own_cl hi (by decide)) (own_nn hi (by decide)) hi (x := (1 + max ((own_h S) ((own_l S) i)) ((own_h S) ((own_r S) i)))) (g := (mkF m 36 #[.val (.ref aa), .val (.int (Int32.ofNat i)), .val (.int (Int32.ofNat ((own_l S) i))), .val (.int (Int32.ofNat ((own_r S) i)))] [(.int (Int32.ofNat (1 + max ((own_h S) ((own_l S) i)) ((own_h S) ((own_r S) i))))), (.int (Int32.ofNat i)), (.ref ah)])) rfl rfl (hb hby d8_36)
  have E_244 := t236_0.wr W243
  have F_245 := t236_1.other W243 (Or.inl dd235_3)
  have F_246 := t236_2.other W243 (Or.inl dd235_3)
  have F_247 := t236_3.other W243 (Or.inl dd235_3)
  have F_248 := t236_4.other W243 (Or.inl dd235_3)
  have F_249 := t236_5.other W243 (Or.inl dd235_3)
  have F_250 := t236_6.other W243 (Or.inl dd235_3)
  have F_251 := t236_7.other W243 (Or.inl dd235_3)
  have F_252 := t236_8.other W243 (Or.inl dd235_3)
  have F_253 := t236_9.other W243 (Or.inl dd235_3)
  have V_254 := t236_10.other W243 dd235_8
  have V_255 := t236_11.other W243 dd235_12
  have V_256 := t236_12.other W243 dd235_15
  have V_257 := t236_14.other W243 (Ne.symm dd235_18)
  have V_258 := t236_15.other W243 (Ne.symm dd235_19)
  have N243 := Fr.snoc X243 N242 g_ah
  have Z243 : n0 ≤ h243.size := Nat.le_trans Z0 (Keep.of_wr W243).1
  have K243 : Keep h0 h243 [aa, ae, ap, aS, ah, al, ar] := (Keep.refl h0 [aa, ae, ap, aS, ah, al, ar]).wr W243 (Or.inl (List.mem_of_getElem? (i := 4) rfl))
  obtain ⟨T259, X259, e259, st259⟩ := getF X243 hx hZ hown (host := "") (Or.inl (hw _ (List.mem_of_getElem? (i := 14) rfl))) Via.refl e243 F_247 (g := (mkF m 38 #[.val (.ref aa), .val (.int (Int32.ofNat i)), .val (.int (Int32.ofNat ((own_l S) i))), .val (.int (Int32.ofNat ((own_r S) i)))] [(.ref aa)])) rfl rfl (hb hby d8_38)
  obtain ⟨T260, X260, e260, st260⟩ := getF X259 hx hZ hown (host := "") (Or.inl (hw _ (List.mem_of_getElem? (i := 14) rfl))) Via.refl e259 F_247 (g := (mkF m 43 #[.val (.ref aa), .val (.int (Int32.ofNat i)), .val (.int (Int32.ofNat ((own_l S) i))), .val (.int (Int32.ofNat ((own_r S) i)))] [(.ref aa), (.int (Int32.ofNat i)), (.ref aS)])) rfl rfl (hb hby d8_43)
  obtain ⟨T261, X261, e261, st261⟩ := getF X260 hx hZ hown (host := "") (Or.inl (hw _ (List.mem_of_getElem? (i := 14) rfl))) Via.refl e260 F_247 (g := (mkF m 49 #[.val (.ref aa), .val (.int (Int32.ofNat i)), .val (.int (Int32.ofNat ((own_l S) i))), .val (.int (Int32.ofNat ((own_r S) i)))] [(.ref aa), (.long ((own_s S) ((own_l S) i))), (.int (Int32.ofNat i)), (.ref aS)])) rfl rfl (hb hby d8_49)
  obtain ⟨T262, X262, e262, st262⟩ := getF X261 hx hZ hown (host := "") (Or.inl (hw _ (List.mem_of_getElem? (i := 12) rfl))) Via.refl e261 F_246 (g := (mkF m 56 #[.val (.ref aa), .val (.int (Int32.ofNat i)), .val (.int (Int32.ofNat ((own_l S) i))), .val (.int (Int32.ofNat ((own_r S) i)))] [(.ref aa), (.long (((own_s S) ((own_l S) i)) + ((own_s S) ((own_r S) i)))), (.int (Int32.ofNat i)), (.ref aS)])) rfl rfl (hb hby d8_56)
  obtain ⟨T263, h263, X263, e263, W263, V263, st263⟩ := JA.store X262 hx hZ e262 V_256 i (own_cl hi (by decide)) (own_nn hi (by decide)) hi (x := ((((own_s S) ((own_l S) i)) + ((own_s S) ((own_r S) i))) + ((own_p S) i))) (g := (mkF m 62 #[.val (.ref aa), .val (.int (Int32.ofNat i)), .val (.int (Int32.ofNat ((own_l S) i))), .val (.int (Int32.ofNat ((own_r S) i)))] [(.long ((((own_s S) ((own_l S) i)) + ((own_s S) ((own_r S) i))) + ((own_p S) i))), (.int (Int32.ofNat i)), (.ref aS)])) rfl rfl (hb hby d8_62)
  have E_264 := E_244.wr W263
  have F_265 := F_245.other W263 (Or.inl dd235_2)
  have F_266 := F_246.other W263 (Or.inl dd235_2)
  have F_267 := F_247.other W263 (Or.inl dd235_2)
  have F_268 := F_248.other W263 (Or.inl dd235_2)
  have F_269 := F_249.other W263 (Or.inl dd235_2)
  have F_270 := F_250.other W263 (Or.inl dd235_2)
  have F_271 := F_251.other W263 (Or.inl dd235_2)
  have F_272 := F_252.other W263 (Or.inl dd235_2)
  have F_273 := F_253.other W263 (Or.inl dd235_2)
  have V_274 := V_254.other W263 dd235_7
  have V_275 := V_255.other W263 dd235_11
  have V_276 := V_257.other W263 (Ne.symm dd235_16)
  have V_277 := V_258.other W263 (Ne.symm dd235_17)
  have V_278 := V243.other W263 (Ne.symm dd235_15)
  have N263 := Fr.snoc X263 N243 g_aS
  have Z263 : n0 ≤ h263.size := Nat.le_trans Z243 (Keep.of_wr W263).1
  have K263 : Keep h0 h263 [aa, ae, ap, aS, ah, al, ar] := K243.wr W263 (Or.inl (List.mem_of_getElem? (i := 3) rfl))
  obtain ⟨fs, hr, hrun, hended, hW, hsame⟩ := X263.leave (v := none) (fun _ => rfl)
  refine ⟨_, _, pre0 _ ?_, hrun, hended, _, _, rfl, ?_, ⟨_, rfl⟩, hW, hsame.mono (by decide) (by decide)⟩
  · show Steps p.tables e below (s₁.setTop (mkF m 0 #[.val (.ref aa), .val (.int (Int32.ofNat i)), .unset, .unset] [])) _
    refine XS.aloadN X0.here hx rfl (hb hby d8_0) rfl rfl ?_
    show Steps p.tables e below (s₁.setTop (mkF m 1 #[.val (.ref aa), .val (.int (Int32.ofNat i)), .unset, .unset] [(.ref aa)])) _
    refine st237 _ ?_
    show Steps p.tables e below (T237.setTop (mkF m 4 #[.val (.ref aa), .val (.int (Int32.ofNat i)), .unset, .unset] [(.ref al)])) _
    refine XS.iloadN X237.here hx rfl (hb hby d8_4) rfl ?_
    show Steps p.tables e below (T237.setTop (mkF m 5 #[.val (.ref aa), .val (.int (Int32.ofNat i)), .unset, .unset] [(.int (Int32.ofNat i)), (.ref al)])) _
    refine IA.load X237 hx hZ e237 t236_14 i (own_cl hi (by decide)) (own_nn hi (by decide)) hi (g := (mkF m 5 #[.val (.ref aa), .val (.int (Int32.ofNat i)), .unset, .unset] [(.int (Int32.ofNat i)), (.ref al)])) rfl rfl (hb hby d8_5) _ ?_
    show Steps p.tables e below (T237.setTop (mkF m 6 #[.val (.ref aa), .val (.int (Int32.ofNat i)), .unset, .unset] [(.int (Int32.ofNat ((own_l S) i)))])) _
    refine XS.istoreN X237.here hx rfl (hb hby d8_6) rfl (l' := #[.val (.ref aa), .val (.int (Int32.ofNat i)), .val (.int (Int32.ofNat ((own_l S) i))), .unset]) rfl ?_
    show Steps p.tables e below (T237.setTop (mkF m 7 #[.val (.ref aa), .val (.int (Int32.ofNat i)), .val (.int (Int32.ofNat ((own_l S) i))), .unset] [])) _
    refine XS.aloadN X237.here hx rfl (hb hby d8_7) rfl rfl ?_
    show Steps p.tables e below (T237.setTop (mkF m 8 #[.val (.ref aa), .val (.int (Int32.ofNat i)), .val (.int (Int32.ofNat ((own_l S) i))), .unset] [(.ref aa)])) _
    refine st238 _ ?_
    show Steps p.tables e below (T238.setTop (mkF m 11 #[.val (.ref aa), .val (.int (Int32.ofNat i)), .val (.int (Int32.ofNat ((own_l S) i))), .unset] [(.ref ar)])) _
    refine XS.iloadN X238.here hx rfl (hb hby d8_11) rfl ?_
    show Steps p.tables e below (T238.setTop (mkF m 12 #[.val (.ref aa), .val (.int (Int32.ofNat i)), .val (.int (Int32.ofNat ((own_l S) i))), .unset] [(.int (Int32.ofNat i)), (.ref ar)])) _
    refine IA.load X238 hx hZ e238 t236_15 i (own_cl hi (by decide)) (own_nn hi (by decide)) hi (g := (mkF m 12 #[.val (.ref aa), .val (.int (Int32.ofNat i)), .val (.int (Int32.ofNat ((own_l S) i))), .unset] [(.int (Int32.ofNat i)), (.ref ar)])) rfl rfl (hb hby d8_12) _ ?_
    show Steps p.tables e below (T238.setTop (mkF m 13 #[.val (.ref aa), .val (.int (Int32.ofNat i)), .val (.int (Int32.ofNat ((own_l S) i))), .unset] [(.int (Int32.ofNat ((own_r S) i)))])) _
    refine XS.istoreN X238.here hx rfl (hb hby d8_13) rfl (l' := #[.val (.ref aa), .val (.int (Int32.ofNat i)), .val (.int (Int32.ofNat ((own_l S) i))), .val (.int (Int32.ofNat ((own_r S) i)))]) rfl ?_
    show Steps p.tables e below (T238.setTop (mkF m 14 #[.val (.ref aa), .val (.int (Int32.ofNat i)), .val (.int (Int32.ofNat ((own_l S) i))), .val (.int (Int32.ofNat ((own_r S) i)))] [])) _
    refine XS.aloadN X238.here hx rfl (hb hby d8_14) rfl rfl ?_
    show Steps p.tables e below (T238.setTop (mkF m 15 #[.val (.ref aa), .val (.int (Int32.ofNat i)), .val (.int (Int32.ofNat ((own_l S) i))), .val (.int (Int32.ofNat ((own_r S) i)))] [(.ref aa)])) _
    refine st239 _ ?_
    show Steps p.tables e below (T239.setTop (mkF m 18 #[.val (.ref aa), .val (.int (Int32.ofNat i)), .val (.int (Int32.ofNat ((own_l S) i))), .val (.int (Int32.ofNat ((own_r S) i)))] [(.ref ah)])) _
    refine XS.iloadN X239.here hx rfl (hb hby d8_18) rfl ?_
    show Steps p.tables e below (T239.setTop (mkF m 19 #[.val (.ref aa), .val (.int (Int32.ofNat i)), .val (.int (Int32.ofNat ((own_l S) i))), .val (.int (Int32.ofNat ((own_r S) i)))] [(.int (Int32.ofNat i)), (.ref ah)])) _
    refine XS.iconst X239.here hx rfl (hb hby d8_19) ?_
    show Steps p.tables e below (T239.setTop (mkF m 20 #[.val (.ref aa), .val (.int (Int32.ofNat i)), .val (.int (Int32.ofNat ((own_l S) i))), .val (.int (Int32.ofNat ((own_r S) i)))] [(.int (1 : Int32)), (.int (Int32.ofNat i)), (.ref ah)])) _
    refine XS.aloadN X239.here hx rfl (hb hby d8_20) rfl rfl ?_
    show Steps p.tables e below (T239.setTop (mkF m 21 #[.val (.ref aa), .val (.int (Int32.ofNat i)), .val (.int (Int32.ofNat ((own_l S) i))), .val (.int (Int32.ofNat ((own_r S) i)))] [(.ref aa), (.int (1 : Int32)), (.int (Int32.ofNat i)), (.ref ah)])) _
    refine st240 _ ?_
    show Steps p.tables e below (T240.setTop (mkF m 24 #[.val (.ref aa), .val (.int (Int32.ofNat i)), .val (.int (Int32.ofNat ((own_l S) i))), .val (.int (Int32.ofNat ((own_r S) i)))] [(.ref ah), (.int (1 : Int32)), (.int (Int32.ofNat i)), (.ref ah)])) _
    refine XS.iloadN X240.here hx rfl (hb hby d8_24) rfl ?_
    show Steps p.tables e below (T240.setTop (mkF m 25 #[.val (.ref aa), .val (.int (Int32.ofNat i)), .val (.int (Int32.ofNat ((own_l S) i))), .val (.int (Int32.ofNat ((own_r S) i)))] [(.int (Int32.ofNat ((own_l S) i))), (.ref ah), (.int (1 : Int32)), (.int (Int32.ofNat i)), (.ref ah)])) _
    refine IA.load X240 hx hZ e240 t236_13 ((own_l S) i) (own_cl (by first | assumption | exact hok.1 _ | exact hok.2.1 _ | omega) (by decide)) (own_nn (by first | assumption | exact hok.1 _ | exact hok.2.1 _ | omega) (by decide)) (by first | assumption | exact hok.1 _ | exact hok.2.1 _ | omega) (g := (mkF m 25 #[.val (.ref aa), .val (.int (Int32.ofNat i)), .val (.int (Int32.ofNat ((own_l S) i))), .val (.int (Int32.ofNat ((own_r S) i)))] [(.int (Int32.ofNat ((own_l S) i))), (.ref ah), (.int (1 : Int32)), (.int (Int32.ofNat i)), (.ref ah)])) rfl rfl (hb hby d8_25) _ ?_
    show Steps p.tables e below (T240.setTop (mkF m 26 #[.val (.ref aa), .val (.int (Int32.ofNat i)), .val (.int (Int32.ofNat ((own_l S) i))), .val (.int (Int32.ofNat ((own_r S) i)))] [(.int (Int32.ofNat ((own_h S) ((own_l S) i)))), (.int (1 : Int32)), (.int (Int32.ofNat i)), (.ref ah)])) _
    refine XS.aloadN X240.here hx rfl (hb hby d8_26) rfl rfl ?_
    show Steps p.tables e below (T240.setTop (mkF m 27 #[.val (.ref aa), .val (.int (Int32.ofNat i)), .val (.int (Int32.ofNat ((own_l S) i))), .val (.int (Int32.ofNat ((own_r S) i)))] [(.ref aa), (.int (Int32.ofNat ((own_h S) ((own_l S) i)))), (.int (1 : Int32)), (.int (Int32.ofNat i)), (.ref ah)])) _
    refine st241 _ ?_
    show Steps p.tables e below (T241.setTop (mkF m 30 #[.val (.ref aa), .val (.int (Int32.ofNat i)), .val (.int (Int32.ofNat ((own_l S) i))), .val (.int (Int32.ofNat ((own_r S) i)))] [(.ref ah), (.int (Int32.ofNat ((own_h S) ((own_l S) i)))), (.int (1 : Int32)), (.int (Int32.ofNat i)), (.ref ah)])) _
    refine XS.iloadN X241.here hx rfl (hb hby d8_30) rfl ?_
    show Steps p.tables e below (T241.setTop (mkF m 31 #[.val (.ref aa), .val (.int (Int32.ofNat i)), .val (.int (Int32.ofNat ((own_l S) i))), .val (.int (Int32.ofNat ((own_r S) i)))] [(.int (Int32.ofNat ((own_r S) i))), (.ref ah), (.int (Int32.ofNat ((own_h S) ((own_l S) i)))), (.int (1 : Int32)), (.int (Int32.ofNat i)), (.ref ah)])) _
    refine IA.load X241 hx hZ e241 t236_13 ((own_r S) i) (own_cl (by first | assumption | exact hok.1 _ | exact hok.2.1 _ | omega) (by decide)) (own_nn (by first | assumption | exact hok.1 _ | exact hok.2.1 _ | omega) (by decide)) (by first | assumption | exact hok.1 _ | exact hok.2.1 _ | omega) (g := (mkF m 31 #[.val (.ref aa), .val (.int (Int32.ofNat i)), .val (.int (Int32.ofNat ((own_l S) i))), .val (.int (Int32.ofNat ((own_r S) i)))] [(.int (Int32.ofNat ((own_r S) i))), (.ref ah), (.int (Int32.ofNat ((own_h S) ((own_l S) i)))), (.int (1 : Int32)), (.int (Int32.ofNat i)), (.ref ah)])) rfl rfl (hb hby d8_31) _ ?_
    show Steps p.tables e below (T241.setTop (mkF m 32 #[.val (.ref aa), .val (.int (Int32.ofNat i)), .val (.int (Int32.ofNat ((own_l S) i))), .val (.int (Int32.ofNat ((own_r S) i)))] [(.int (Int32.ofNat ((own_h S) ((own_r S) i)))), (.int (Int32.ofNat ((own_h S) ((own_l S) i)))), (.int (1 : Int32)), (.int (Int32.ofNat i)), (.ref ah)])) _
    refine st242 _ ?_
    show Steps p.tables e below (T242.setTop (mkF m 35 #[.val (.ref aa), .val (.int (Int32.ofNat i)), .val (.int (Int32.ofNat ((own_l S) i))), .val (.int (Int32.ofNat ((own_r S) i)))] [(.int (own_maxI (Int32.ofNat ((own_h S) ((own_l S) i))) (Int32.ofNat ((own_h S) ((own_r S) i))))), (.int (1 : Int32)), (.int (Int32.ofNat i)), (.ref ah)])) _
    refine XS.iadd X242.here hx rfl (hb hby d8_35) rfl ?_
    show Steps p.tables e below (T242.setTop (mkF m 36 #[.val (.ref aa), .val (.int (Int32.ofNat i)), .val (.int (Int32.ofNat ((own_l S) i))), .val (.int (Int32.ofNat ((own_r S) i)))] [(.int ((1 : Int32) + (own_maxI (Int32.ofNat ((own_h S) ((own_l S) i))) (Int32.ofNat ((own_h S) ((own_r S) i)))))), (.int (Int32.ofNat i)), (.ref ah)])) _
    refine castTop (g' := (mkF m 36 #[.val (.ref aa), .val (.int (Int32.ofNat i)), .val (.int (Int32.ofNat ((own_l S) i))), .val (.int (Int32.ofNat ((own_r S) i)))] [(.int (Int32.ofNat (1 + max ((own_h S) ((own_l S) i)) ((own_h S) ((own_r S) i))))), (.int (Int32.ofNat i)), (.ref ah)])) (by rw [own_hmax (hok.2.2.1 _) (hok.2.2.1 _) hB]) ?_
    show Steps p.tables e below (T242.setTop (mkF m 36 #[.val (.ref aa), .val (.int (Int32.ofNat i)), .val (.int (Int32.ofNat ((own_l S) i))), .val (.int (Int32.ofNat ((own_r S) i)))] [(.int (Int32.ofNat (1 + max ((own_h S) ((own_l S) i)) ((own_h S) ((own_r S) i))))), (.int (Int32.ofNat i)), (.ref ah)])) _
    refine st243 _ ?_
    show Steps p.tables e below (T243.setTop (mkF m 37 #[.val (.ref aa), .val (.int (Int32.ofNat i)), .val (.int (Int32.ofNat ((own_l S) i))), .val (.int (Int32.ofNat ((own_r S) i)))] [])) _
    refine XS.aloadN X243.here hx rfl (hb hby d8_37) rfl rfl ?_
    show Steps p.tables e below (T243.setTop (mkF m 38 #[.val (.ref aa), .val (.int (Int32.ofNat i)), .val (.int (Int32.ofNat ((own_l S) i))), .val (.int (Int32.ofNat ((own_r S) i)))] [(.ref aa)])) _
    refine st259 _ ?_
    show Steps p.tables e below (T259.setTop (mkF m 41 #[.val (.ref aa), .val (.int (Int32.ofNat i)), .val (.int (Int32.ofNat ((own_l S) i))), .val (.int (Int32.ofNat ((own_r S) i)))] [(.ref aS)])) _
    refine XS.iloadN X259.here hx rfl (hb hby d8_41) rfl ?_
    show Steps p.tables e below (T259.setTop (mkF m 42 #[.val (.ref aa), .val (.int (Int32.ofNat i)), .val (.int (Int32.ofNat ((own_l S) i))), .val (.int (Int32.ofNat ((own_r S) i)))] [(.int (Int32.ofNat i)), (.ref aS)])) _
    refine XS.aloadN X259.here hx rfl (hb hby d8_42) rfl rfl ?_
    show Steps p.tables e below (T259.setTop (mkF m 43 #[.val (.ref aa), .val (.int (Int32.ofNat i)), .val (.int (Int32.ofNat ((own_l S) i))), .val (.int (Int32.ofNat ((own_r S) i)))] [(.ref aa), (.int (Int32.ofNat i)), (.ref aS)])) _
    refine st260 _ ?_
    show Steps p.tables e below (T260.setTop (mkF m 46 #[.val (.ref aa), .val (.int (Int32.ofNat i)), .val (.int (Int32.ofNat ((own_l S) i))), .val (.int (Int32.ofNat ((own_r S) i)))] [(.ref aS), (.int (Int32.ofNat i)), (.ref aS)])) _
    refine XS.iloadN X260.here hx rfl (hb hby d8_46) rfl ?_
    show Steps p.tables e below (T260.setTop (mkF m 47 #[.val (.ref aa), .val (.int (Int32.ofNat i)), .val (.int (Int32.ofNat ((own_l S) i))), .val (.int (Int32.ofNat ((own_r S) i)))] [(.int (Int32.ofNat ((own_l S) i))), (.ref aS), (.int (Int32.ofNat i)), (.ref aS)])) _
    refine JA.load X260 hx hZ e260 V_256 ((own_l S) i) (own_cl (by first | assumption | exact hok.1 _ | exact hok.2.1 _ | omega) (by decide)) (own_nn (by first | assumption | exact hok.1 _ | exact hok.2.1 _ | omega) (by decide)) (by first | assumption | exact hok.1 _ | exact hok.2.1 _ | omega) (g := (mkF m 47 #[.val (.ref aa), .val (.int (Int32.ofNat i)), .val (.int (Int32.ofNat ((own_l S) i))), .val (.int (Int32.ofNat ((own_r S) i)))] [(.int (Int32.ofNat ((own_l S) i))), (.ref aS), (.int (Int32.ofNat i)), (.ref aS)])) rfl rfl (hb hby d8_47) _ ?_
    show Steps p.tables e below (T260.setTop (mkF m 48 #[.val (.ref aa), .val (.int (Int32.ofNat i)), .val (.int (Int32.ofNat ((own_l S) i))), .val (.int (Int32.ofNat ((own_r S) i)))] [(.long ((own_s S) ((own_l S) i))), (.int (Int32.ofNat i)), (.ref aS)])) _
    refine XS.aloadN X260.here hx rfl (hb hby d8_48) rfl rfl ?_
    show Steps p.tables e below (T260.setTop (mkF m 49 #[.val (.ref aa), .val (.int (Int32.ofNat i)), .val (.int (Int32.ofNat ((own_l S) i))), .val (.int (Int32.ofNat ((own_r S) i)))] [(.ref aa), (.long ((own_s S) ((own_l S) i))), (.int (Int32.ofNat i)), (.ref aS)])) _
    refine st261 _ ?_
    show Steps p.tables e below (T261.setTop (mkF m 52 #[.val (.ref aa), .val (.int (Int32.ofNat i)), .val (.int (Int32.ofNat ((own_l S) i))), .val (.int (Int32.ofNat ((own_r S) i)))] [(.ref aS), (.long ((own_s S) ((own_l S) i))), (.int (Int32.ofNat i)), (.ref aS)])) _
    refine XS.iloadN X261.here hx rfl (hb hby d8_52) rfl ?_
    show Steps p.tables e below (T261.setTop (mkF m 53 #[.val (.ref aa), .val (.int (Int32.ofNat i)), .val (.int (Int32.ofNat ((own_l S) i))), .val (.int (Int32.ofNat ((own_r S) i)))] [(.int (Int32.ofNat ((own_r S) i))), (.ref aS), (.long ((own_s S) ((own_l S) i))), (.int (Int32.ofNat i)), (.ref aS)])) _
    refine JA.load X261 hx hZ e261 V_256 ((own_r S) i) (own_cl (by first | assumption | exact hok.1 _ | exact hok.2.1 _ | omega) (by decide)) (own_nn (by first | assumption | exact hok.1 _ | exact hok.2.1 _ | omega) (by decide)) (by first | assumption | exact hok.1 _ | exact hok.2.1 _ | omega) (g := (mkF m 53 #[.val (.ref aa), .val (.int (Int32.ofNat i)), .val (.int (Int32.ofNat ((own_l S) i))), .val (.int (Int32.ofNat ((own_r S) i)))] [(.int (Int32.ofNat ((own_r S) i))), (.ref aS), (.long ((own_s S) ((own_l S) i))), (.int (Int32.ofNat i)), (.ref aS)])) rfl rfl (hb hby d8_53) _ ?_
    show Steps p.tables e below (T261.setTop (mkF m 54 #[.val (.ref aa), .val (.int (Int32.ofNat i)), .val (.int (Int32.ofNat ((own_l S) i))), .val (.int (Int32.ofNat ((own_r S) i)))] [(.long ((own_s S) ((own_r S) i))), (.long ((own_s S) ((own_l S) i))), (.int (Int32.ofNat i)), (.ref aS)])) _
    refine XS.ladd X261.here hx rfl (hb hby d8_54) rfl ?_
    show Steps p.tables e below (T261.setTop (mkF m 55 #[.val (.ref aa), .val (.int (Int32.ofNat i)), .val (.int (Int32.ofNat ((own_l S) i))), .val (.int (Int32.ofNat ((own_r S) i)))] [(.long (((own_s S) ((own_l S) i)) + ((own_s S) ((own_r S) i)))), (.int (Int32.ofNat i)), (.ref aS)])) _
    refine XS.aloadN X261.here hx rfl (hb hby d8_55) rfl rfl ?_
    show Steps p.tables e below (T261.setTop (mkF m 56 #[.val (.ref aa), .val (.int (Int32.ofNat i)), .val (.int (Int32.ofNat ((own_l S) i))), .val (.int (Int32.ofNat ((own_r S) i)))] [(.ref aa), (.long (((own_s S) ((own_l S) i)) + ((own_s S) ((own_r S) i)))), (.int (Int32.ofNat i)), (.ref aS)])) _
    refine st262 _ ?_
    show Steps p.tables e below (T262.setTop (mkF m 59 #[.val (.ref aa), .val (.int (Int32.ofNat i)), .val (.int (Int32.ofNat ((own_l S) i))), .val (.int (Int32.ofNat ((own_r S) i)))] [(.ref ap), (.long (((own_s S) ((own_l S) i)) + ((own_s S) ((own_r S) i)))), (.int (Int32.ofNat i)), (.ref aS)])) _
    refine XS.iloadN X262.here hx rfl (hb hby d8_59) rfl ?_
    show Steps p.tables e below (T262.setTop (mkF m 60 #[.val (.ref aa), .val (.int (Int32.ofNat i)), .val (.int (Int32.ofNat ((own_l S) i))), .val (.int (Int32.ofNat ((own_r S) i)))] [(.int (Int32.ofNat i)), (.ref ap), (.long (((own_s S) ((own_l S) i)) + ((own_s S) ((own_r S) i)))), (.int (Int32.ofNat i)), (.ref aS)])) _
    refine JA.load X262 hx hZ e262 V_255 i (own_cl hi (by decide)) (own_nn hi (by decide)) hi (g := (mkF m 60 #[.val (.ref aa), .val (.int (Int32.ofNat i)), .val (.int (Int32.ofNat ((own_l S) i))), .val (.int (Int32.ofNat ((own_r S) i)))] [(.int (Int32.ofNat i)), (.ref ap), (.long (((own_s S) ((own_l S) i)) + ((own_s S) ((own_r S) i)))), (.int (Int32.ofNat i)), (.ref aS)])) rfl rfl (hb hby d8_60) _ ?_
    show Steps p.tables e below (T262.setTop (mkF m 61 #[.val (.ref aa), .val (.int (Int32.ofNat i)), .val (.int (Int32.ofNat ((own_l S) i))), .val (.int (Int32.ofNat ((own_r S) i)))] [(.long ((own_p S) i)), (.long (((own_s S) ((own_l S) i)) + ((own_s S) ((own_r S) i)))), (.int (Int32.ofNat i)), (.ref aS)])) _
    refine XS.ladd X262.here hx rfl (hb hby d8_61) rfl ?_
    show Steps p.tables e below (T262.setTop (mkF m 62 #[.val (.ref aa), .val (.int (Int32.ofNat i)), .val (.int (Int32.ofNat ((own_l S) i))), .val (.int (Int32.ofNat ((own_r S) i)))] [(.long ((((own_s S) ((own_l S) i)) + ((own_s S) ((own_r S) i))) + ((own_p S) i))), (.int (Int32.ofNat i)), (.ref aS)])) _
    refine st263 _ ?_
    show Steps p.tables e below (T263.setTop (mkF m 63 #[.val (.ref aa), .val (.int (Int32.ofNat i)), .val (.int (Int32.ofNat ((own_l S) i))), .val (.int (Int32.ofNat ((own_r S) i)))] [])) _
    exact X263.returnOut hx Bd.returns (hb hby d8_63) hr
  · show Q8 Z aa ae ap aS ah al ar S rt md i B h0 n0 _ T263.heap _
    rw [e263]
    exact ⟨rfl, N263, K263, (TR.mk (S := (own_setS (own_setH S i (1 + max ((own_h S) ((own_l S) i)) ((own_h S) ((own_r S) i)))) i ((((own_s S) ((own_l S) i)) + ((own_s S) ((own_r S) i))) + ((own_p S) i)))) E_264 F_265 F_266 F_267 F_268 F_269 F_270 F_271 F_272 F_273 V_274 V_275 V263 V_278 V_276 V_277)⟩

theorem d10_0 : decode prog_107_method_14_code 0 = .ok (.aload_n 0, 1) := by decide +kernel
theorem d10_1 : decode prog_107_method_14_code 1 = .ok (.getfield 23, 3) := by decide +kernel
theorem d10_4 : decode prog_107_method_14_code 4 = .ok (.iload_n 1, 1) := by decide +kernel
theorem d10_5 : decode prog_107_method_14_code 5 = .ok (.iaload, 1) := by decide +kernel
theorem d10_6 : decode prog_107_method_14_code 6 = .ok (.istore_n 2, 1) := by decide +kernel
theorem d10_7 : decode prog_107_method_14_code 7 = .ok (.aload_n 0, 1) := by decide +kernel
theorem d10_8 : decode prog_107_method_14_code 8 = .ok (.getfield 23, 3) := by decide +kernel
theorem d10_11 : decode prog_107_method_14_code 11 = .ok (.iload_n 1, 1) := by decide +kernel
theorem d10_12 : decode prog_107_method_14_code 12 = .ok (.aload_n 0, 1) := by decide +kernel
theorem d10_13 : decode prog_107_method_14_code 13 = .ok (.getfield 26, 3) := by decide +kernel
theorem d10_16 : decode prog_107_method_14_code 16 = .ok (.iload_n 2, 1) := by decide +kernel
theorem d10_17 : decode prog_107_method_14_code 17 = .ok (.iaload, 1) := by decide +kernel
theorem d10_18 : decode prog_107_method_14_code 18 = .ok (.iastore, 1) := by decide +kernel
theorem d10_19 : decode prog_107_method_14_code 19 = .ok (.aload_n 0, 1) := by decide +kernel
theorem d10_20 : decode prog_107_method_14_code 20 = .ok (.getfield 26, 3) := by decide +kernel
theorem d10_23 : decode prog_107_method_14_code 23 = .ok (.iload_n 2, 1) := by decide +kernel
theorem d10_24 : decode prog_107_method_14_code 24 = .ok (.iload_n 1, 1) := by decide +kernel
theorem d10_25 : decode prog_107_method_14_code 25 = .ok (.iastore, 1) := by decide +kernel
theorem d10_26 : decode prog_107_method_14_code 26 = .ok (.aload_n 0, 1) := by decide +kernel
theorem d10_27 : decode prog_107_method_14_code 27 = .ok (.iload_n 1, 1) := by decide +kernel
theorem d10_28 : decode prog_107_method_14_code 28 = .ok (.invokevirtual 98, 3) := by decide +kernel
theorem pd_603724 : parseMethodDescriptor "(I)V" = some ⟨[.int], none⟩ := by decide +kernel
theorem d10_31 : decode prog_107_method_14_code 31 = .ok (.aload_n 0, 1) := by decide +kernel
theorem d10_32 : decode prog_107_method_14_code 32 = .ok (.iload_n 2, 1) := by decide +kernel
theorem d10_33 : decode prog_107_method_14_code 33 = .ok (.invokevirtual 98, 3) := by decide +kernel
theorem d10_36 : decode prog_107_method_14_code 36 = .ok (.iload_n 2, 1) := by decide +kernel
theorem d10_37 : decode prog_107_method_14_code 37 = .ok (.ireturn, 1) := by decide +kernel
theorem ef_10 (m : MethodId) (aa : Addr) : entryFrame m #[(.ref aa), (.int (Int32.ofNat i))] 3 = mkF m 0 #[.val (.ref aa), .val (.int (Int32.ofNat i)), .unset] [] := by first | (simp [entryFrame, mkF, argsToLocals, Value.category]; done) | rfl
def Q10 (Z : State) (aa : Addr) (ae : Addr) (ap : Addr) (aS : Addr) (ah : Addr) (al : Addr) (ar : Addr) (S : own_S) (rt : Nat) (md : Nat) (i : Nat) (B : Nat) (h0 : Heap) (n0 : Nat) (v : Option Value) (h : Heap) (L : List Loc) : Prop := v = some (.int (Int32.ofNat (own_l S i))) ∧ Fr n0 L ∧ Keep h0 h [aa, ae, ap, aS, ah, al, ar] ∧ TR Z h aa ae ap aS ah al ar (own_rotR S i) rt md
set_option maxRecDepth 65536 in
set_option maxHeartbeats 40000000 in
theorem rm10 (l : Launch) (Z : State) (a0 : Array Value) (hw : ∀ d ∈ tables_1, d.before a0 Z = true) (ws : List Jvm.Cond) (aa : Addr) (ae : Addr) (ap : Addr) (aS : Addr) (ah : Addr) (al : Addr) (ar : Addr) (S : own_S) (rt : Nat) (md : Nat) (i : Nat) (B : Nat) (h0 : Heap) (n0 : Nat) (Z0 : n0 ≤ h0.size) (g_aa : n0 ≤ aa) (g_ae : n0 ≤ ae) (g_ap : n0 ≤ ap) (g_aS : n0 ≤ aS) (g_ah : n0 ≤ ah) (g_al : n0 ≤ al) (g_ar : n0 ≤ ar) (hD : own_D aa ae ap aS ah al ar) (hTR : TR Z h0 aa ae ap aS ah al ar S rt md) (hi : i < 16) (hok : own_ok B S) (hB : B + 1 < 1000000) :
    MetFree l (⟨"com/example/berthline/berthline/engine/replay/EstimatedEnds", "rotateRight", "(I)I"⟩ : MethodName) (head1 (Jvm.Cond.code (⟨"com/example/berthline/berthline/engine/replay/EstimatedEnds", "rotateRight", "(I)I"⟩ : MethodName) prog_107_method_14_code 3 (some .int) :: ws) ({ frames := 2, cells := 0, slots := 0, locals := 31 } : Room)) (fun a U => a = #[(.ref aa), (.int (Int32.ofNat i))] ∧ Z.Warmed39 U.vm ∧ U.heap = h0) (fun _ _ _ _ _ => True) (fun _ U o U' => ∃ v L, o = .returned v ∧ Q10 Z aa ae ap aS ah al ar S rt md i B h0 n0 v U'.heap L ∧ FrameEnd U o U' L ({ frames := 2, cells := 0, slots := 0, locals := 31 } : Room).cells ({ frames := 2, cells := 0, slots := 0, locals := 31 } : Room).slots) := by
  refine MetFree.of_bodySF (plainFor_of_name pn_com_example_berthline_berthline_engine_replay_EstimatedEnds) hisR ?_
  intro p e s m args below meth c s₁ Bd hml0 hP hK
  obtain ⟨rfl, hZ, hh⟩ := hP
  have hx := Bd.exec
  have hby := Bd.bytes
  have hml : c.maxLocals = 3 := hml0
  have hown : s.vm.findClass "com/example/berthline/berthline/engine/replay/EstimatedEnds" = some m.cls := findClass_of_methodNamed Bd.named
  have hnm := (name_of_methodNamed Bd.named Bd.method).1
  have X0 : Stand p l e ({ frames := 2, cells := 0, slots := 0, locals := 31 } : Room) s m #[(.ref aa), (.int (Int32.ofNat i))] below meth c s₁ [] 0 0 := Stand.of_body Bd
  have e0 : s₁.heap = h0 := by rw [← hh, Bd.state]; rfl
  have N0 := Fr.nil n0
  have pre0 : ∀ t, Steps p.tables e below (s₁.setTop (mkF m 0 #[.val (.ref aa), .val (.int (Int32.ofNat i)), .unset] [])) t → Steps p.tables e below (s₁.setTop (entryFrame m #[(.ref aa), (.int (Int32.ofNat i))] 3)) t := fun t k => castTop (ef_10 m aa) k
  obtain ⟨dd279_0, dd279_1, dd279_2, dd279_3, dd279_4, dd279_5, dd279_6, dd279_7, dd279_8, dd279_9, dd279_10, dd279_11, dd279_12, dd279_13, dd279_14, dd279_15, dd279_16, dd279_17, dd279_18, dd279_19, dd279_20⟩ := id hD
  obtain ⟨t280_0, t280_1, t280_2, t280_3, t280_4, t280_5, t280_6, t280_7, t280_8, t280_9, t280_10, t280_11, t280_12, t280_13, t280_14, t280_15⟩ := hTR
  obtain ⟨T281, X281, e281, st281⟩ := getF X0 hx hZ hown (host := "") (Or.inl (hw _ (List.mem_of_getElem? (i := 19) rfl))) Via.refl e0 t280_5 (g := (mkF m 1 #[.val (.ref aa), .val (.int (Int32.ofNat i)), .unset] [(.ref aa)])) rfl rfl (hb hby d10_1)
  obtain ⟨T282, X282, e282, st282⟩ := getF X281 hx hZ hown (host := "") (Or.inl (hw _ (List.mem_of_getElem? (i := 19) rfl))) Via.refl e281 t280_5 (g := (mkF m 8 #[.val (.ref aa), .val (.int (Int32.ofNat i)), .val (.int (Int32.ofNat ((own_l S) i)))] [(.ref aa)])) rfl rfl (hb hby d10_8)
  obtain ⟨T283, X283, e283, st283⟩ := getF X282 hx hZ hown (host := "") (Or.inl (hw _ (List.mem_of_getElem? (i := 21) rfl))) Via.refl e282 t280_6 (g := (mkF m 13 #[.val (.ref aa), .val (.int (Int32.ofNat i)), .val (.int (Int32.ofNat ((own_l S) i)))] [(.ref aa), (.int (Int32.ofNat i)), (.ref al)])) rfl rfl (hb hby d10_13)
  obtain ⟨T284, h284, X284, e284, W284, V284, st284⟩ := IA.store X283 hx hZ e283 t280_14 i (own_cl hi (by decide)) (own_nn hi (by decide)) hi (x := ((own_r S) ((own_l S) i))) (g := (mkF m 18 #[.val (.ref aa), .val (.int (Int32.ofNat i)), .val (.int (Int32.ofNat ((own_l S) i)))] [(.int (Int32.ofNat ((own_r S) ((own_l S) i)))), (.int (Int32.ofNat i)), (.ref al)])) rfl rfl (hb hby d10_18)
  have E_285 := t280_0.wr W284
  have F_286 := t280_1.other W284 (Or.inl dd279_4)
  have F_287 := t280_2.other W284 (Or.inl dd279_4)
  have F_288 := t280_3.other W284 (Or.inl dd279_4)
  have F_289 := t280_4.other W284 (Or.inl dd279_4)
  have F_290 := t280_5.other W284 (Or.inl dd279_4)
  have F_291 := t280_6.other W284 (Or.inl dd279_4)
  have F_292 := t280_7.other W284 (Or.inl dd279_4)
  have F_293 := t280_8.other W284 (Or.inl dd279_4)
  have F_294 := t280_9.other W284 (Or.inl dd279_4)
  have V_295 := t280_10.other W284 dd279_9
  have V_296 := t280_11.other W284 dd279_13
  have V_297 := t280_12.other W284 dd279_16
  have V_298 := t280_13.other W284 dd279_18
  have V_299 := t280_15.other W284 (Ne.symm dd279_20)
  have N284 := Fr.snoc X284 N0 g_al
  have Z284 : n0 ≤ h284.size := Nat.le_trans Z0 (Keep.of_wr W284).1
  have K284 : Keep h0 h284 [aa, ae, ap, aS, ah, al, ar] := (Keep.refl h0 [aa, ae, ap, aS, ah, al, ar]).wr W284 (Or.inl (List.mem_of_getElem? (i := 5) rfl))
  obtain ⟨T300, X300, e300, st300⟩ := getF X284 hx hZ hown (host := "") (Or.inl (hw _ (List.mem_of_getElem? (i := 21) rfl))) Via.refl e284 F_291 (g := (mkF m 20 #[.val (.ref aa), .val (.int (Int32.ofNat i)), .val (.int (Int32.ofNat ((own_l S) i)))] [(.ref aa)])) rfl rfl (hb hby d10_20)
  obtain ⟨T301, h301, X301, e301, W301, V301, st301⟩ := IA.store X300 hx hZ e300 V_299 ((own_l S) i) (own_cl (by first | assumption | exact hok.1 _ | exact hok.2.1 _ | omega) (by decide)) (own_nn (by first | assumption | exact hok.1 _ | exact hok.2.1 _ | omega) (by decide)) (by first | assumption | exact hok.1 _ | exact hok.2.1 _ | omega) (x := i) (g := (mkF m 25 #[.val (.ref aa), .val (.int (Int32.ofNat i)), .val (.int (Int32.ofNat ((own_l S) i)))] [(.int (Int32.ofNat i)), (.int (Int32.ofNat ((own_l S) i))), (.ref ar)])) rfl rfl (hb hby d10_25)
  have E_302 := E_285.wr W301
  have F_303 := F_286.other W301 (Or.inl dd279_5)
  have F_304 := F_287.other W301 (Or.inl dd279_5)
  have F_305 := F_288.other W301 (Or.inl dd279_5)
  have F_306 := F_289.other W301 (Or.inl dd279_5)
  have F_307 := F_290.other W301 (Or.inl dd279_5)
  have F_308 := F_291.other W301 (Or.inl dd279_5)
  have F_309 := F_292.other W301 (Or.inl dd279_5)
  have F_310 := F_293.other W301 (Or.inl dd279_5)
  have F_311 := F_294.other W301 (Or.inl dd279_5)
  have V_312 := V_295.other W301 dd279_10
  have V_313 := V_296.other W301 dd279_14
  have V_314 := V_297.other W301 dd279_17
  have V_315 := V_298.other W301 dd279_19
  have V_316 := V284.other W301 dd279_20
  have N301 := Fr.snoc X301 N284 g_ar
  have Z301 : n0 ≤ h301.size := Nat.le_trans Z284 (Keep.of_wr W301).1
  have K301 : Keep h0 h301 [aa, ae, ap, aS, ah, al, ar] := K284.wr W301 (Or.inl (List.mem_of_getElem? (i := 6) rfl))
  obtain ⟨cq317, q317, q317'⟩ := E_302.cell
  obtain ⟨_, _, ⟨T317, L317, k317, n317⟩, -, X317, ⟨Lc317, hQ317, l317, y317, z317⟩, st317⟩ := X301.privateBack hx (y := (⟨"com/example/berthline/berthline/engine/replay/EstimatedEnds", "update", "(I)V"⟩ : MethodName)) hown (mvT hZ (hw _ (List.mem_of_getElem? (i := 51) rfl))) (mvT hZ (hw _ (List.mem_of_getElem? (i := 52) rfl))) (own_selects hZ (hw _ (List.mem_of_getElem? (i := 1) rfl)) (hw _ (List.mem_of_getElem? (i := 53) rfl)) (hw _ (List.mem_of_getElem? (i := 52) rfl)) (by decide)) (Cond.privateMethod_at (mvP hZ (hw _ (List.mem_of_getElem? (i := 53) rfl)) (args := #[]))) (mvT hZ (hw _ (List.mem_of_getElem? (i := 54) rfl))) (by decide) (backOf (W := 0) (rm8 l Z a0 hw [] aa ae ap aS ah al ar (own_setR (own_setL S i ((own_r S) ((own_l S) i))) ((own_l S) i) i) rt md i B h301 n0 Z301 g_aa g_ae g_ap g_aS g_ah g_al g_ar hD (TR.mk (S := (own_setR (own_setL S i ((own_r S) ((own_l S) i))) ((own_l S) i) i)) E_302 F_303 F_304 F_305 F_306 F_307 F_308 F_309 F_310 F_311 V_312 V_313 V_314 V_315 V_316 V301) hi (own_ok_setR (own_ok_setL hok (hok.2.1 _)) hi) (by omega)) hZ (hw _ (List.mem_of_getElem? (i := 54) rfl)) (hw _ (List.mem_of_getElem? (i := 2) rfl)) (by decide) (by decide)) (g := (mkF m 28 #[.val (.ref aa), .val (.int (Int32.ofNat i)), .val (.int (Int32.ofNat ((own_l S) i)))] [(.int (Int32.ofNat i)), (.ref aa)])) rfl (by rw [hml]; rfl) (Steps.refl _) (a := aa) (by rw [e301]; exact q317) q317' (argsL := [(.int (Int32.ofNat i))]) (rest := []) (lenOf pd_603724 rfl) rfl (by show 2 * 0 + _ ≤ _; exact Nat.le_of_eq rfl) (hb hby d10_28) (fun _ _ => ⟨rfl, e301, (by decide : 0 + 0 ≤ _), (by decide : 0 + 0 ≤ _)⟩)
  dsimp only [Pt.U, Pt.locs, Pt.cells, Pt.slots] at X317 l317 y317 z317 st317 hQ317
  subst l317 y317 z317
  obtain ⟨rfl, N317q, K317c, G317_0⟩ := hQ317
  have N317 := Fr.app N301 N317q
  have E_318 := E_302.keep K317c
  have Z317 : n0 ≤ T317.heap.size := Nat.le_trans Z301 K317c.1
  have K317 : Keep h0 T317.heap [aa, ae, ap, aS, ah, al, ar] := K301.trans K317c (allS (P := fun x => x ∈ [aa, ae, ap, aS, ah, al, ar] ∨ h0.size ≤ x) (Or.inl (List.mem_of_getElem? (i := 0) rfl)) (allS (P := fun x => x ∈ [aa, ae, ap, aS, ah, al, ar] ∨ h0.size ≤ x) (Or.inl (List.mem_of_getElem? (i := 1) rfl)) (allS (P := fun x => x ∈ [aa, ae, ap, aS, ah, al, ar] ∨ h0.size ≤ x) (Or.inl (List.mem_of_getElem? (i := 2) rfl)) (allS (P := fun x => x ∈ [aa, ae, ap, aS, ah, al, ar] ∨ h0.size ≤ x) (Or.inl (List.mem_of_getElem? (i := 3) rfl)) (allS (P := fun x => x ∈ [aa, ae, ap, aS, ah, al, ar] ∨ h0.size ≤ x) (Or.inl (List.mem_of_getElem? (i := 4) rfl)) (allS (P := fun x => x ∈ [aa, ae, ap, aS, ah, al, ar] ∨ h0.size ≤ x) (Or.inl (List.mem_of_getElem? (i := 5) rfl)) (allS (P := fun x => x ∈ [aa, ae, ap, aS, ah, al, ar] ∨ h0.size ≤ x) (Or.inl (List.mem_of_getElem? (i := 6) rfl)) all0)))))))
  obtain ⟨t319_0, t319_1, t319_2, t319_3, t319_4, t319_5, t319_6, t319_7, t319_8, t319_9, t319_10, t319_11, t319_12, t319_13, t319_14, t319_15⟩ := G317_0
  obtain ⟨cq320, q320, q320'⟩ := t319_0.cell
  obtain ⟨_, _, ⟨T320, L320, k320, n320⟩, -, X320, ⟨Lc320, hQ320, l320, y320, z320⟩, st320⟩ := X317.privateBack hx (y := (⟨"com/example/berthline/berthline/engine/replay/EstimatedEnds", "update", "(I)V"⟩ : MethodName)) hown (mvT hZ (hw _ (List.mem_of_getElem? (i := 51) rfl))) (mvT hZ (hw _ (List.mem_of_getElem? (i := 52) rfl))) (own_selects hZ (hw _ (List.mem_of_getElem? (i := 1) rfl)) (hw _ (List.mem_of_getElem? (i := 53) rfl)) (hw _ (List.mem_of_getElem? (i := 52) rfl)) (by decide)) (Cond.privateMethod_at (mvP hZ (hw _ (List.mem_of_getElem? (i := 53) rfl)) (args := #[]))) (mvT hZ (hw _ (List.mem_of_getElem? (i := 54) rfl))) (by decide) (backOf (W := 0) (rm8 l Z a0 hw [] aa ae ap aS ah al ar (own_update (own_setR (own_setL S i ((own_r S) ((own_l S) i))) ((own_l S) i) i) i) rt md ((own_l S) i) (B + 1) T317.heap n0 Z317 g_aa g_ae g_ap g_aS g_ah g_al g_ar hD (TR.mk (S := (own_update (own_setR (own_setL S i ((own_r S) ((own_l S) i))) ((own_l S) i) i) i)) t319_0 t319_1 t319_2 t319_3 t319_4 t319_5 t319_6 t319_7 t319_8 t319_9 t319_10 t319_11 t319_12 t319_13 t319_14 t319_15) (by first | assumption | exact hok.1 _ | exact hok.2.1 _ | omega) (own_ok_update (own_ok_setR (own_ok_setL hok (hok.2.1 _)) hi) _) hB) hZ (hw _ (List.mem_of_getElem? (i := 54) rfl)) (hw _ (List.mem_of_getElem? (i := 2) rfl)) (by decide) (by decide)) (g := (mkF m 33 #[.val (.ref aa), .val (.int (Int32.ofNat i)), .val (.int (Int32.ofNat ((own_l S) i)))] [(.int (Int32.ofNat ((own_l S) i))), (.ref aa)])) rfl (by rw [hml]; rfl) (Steps.refl _) (a := aa) q320 q320' (argsL := [(.int (Int32.ofNat ((own_l S) i)))]) (rest := []) (lenOf pd_603724 rfl) rfl (by show 2 * 0 + _ ≤ _; exact Nat.le_of_eq rfl) (hb hby d10_33) (fun _ _ => ⟨rfl, rfl, (by decide : 0 + 0 ≤ _), (by decide : 0 + 0 ≤ _)⟩)
  dsimp only [Pt.U, Pt.locs, Pt.cells, Pt.slots] at X320 l320 y320 z320 st320 hQ320
  subst l320 y320 z320
  obtain ⟨rfl, N320q, K320c, G320_0⟩ := hQ320
  have N320 := Fr.app N317 N320q
  have E_321 := t319_0.keep K320c
  have Z320 : n0 ≤ T320.heap.size := Nat.le_trans Z317 K320c.1
  have K320 : Keep h0 T320.heap [aa, ae, ap, aS, ah, al, ar] := K317.trans K320c (allS (P := fun x => x ∈ [aa, ae, ap, aS, ah, al, ar] ∨ h0.size ≤ x) (Or.inl (List.mem_of_getElem? (i := 0) rfl)) (allS (P := fun x => x ∈ [aa, ae, ap, aS, ah, al, ar] ∨ h0.size ≤ x) (Or.inl (List.mem_of_getElem? (i := 1) rfl)) (allS (P := fun x => x ∈ [aa, ae, ap, aS, ah, al, ar] ∨ h0.size ≤ x) (Or.inl (List.mem_of_getElem? (i := 2) rfl)) (allS (P := fun x => x ∈ [aa, ae, ap, aS, ah, al, ar] ∨ h0.size ≤ x) (Or.inl (List.mem_of_getElem? (i := 3) rfl)) (allS (P := fun x => x ∈ [aa, ae, ap, aS, ah, al, ar] ∨ h0.size ≤ x) (Or.inl (List.mem_of_getElem? (i := 4) rfl)) (allS (P := fun x => x ∈ [aa, ae, ap, aS, ah, al, ar] ∨ h0.size ≤ x) (Or.inl (List.mem_of_getElem? (i := 5) rfl)) (allS (P := fun x => x ∈ [aa, ae, ap, aS, ah, al, ar] ∨ h0.size ≤ x) (Or.inl (List.mem_of_getElem? (i := 6) rfl)) all0)))))))
  obtain ⟨t322_0, t322_1, t322_2, t322_3, t322_4, t322_5, t322_6, t322_7, t322_8, t322_9, t322_10, t322_11, t322_12, t322_13, t322_14, t322_15⟩ := G320_0
  obtain ⟨fs, hr, hrun, hended, hW, hsame⟩ := X320.leave (v := some (.int (Int32.ofNat ((own_l S) i)))) (fun h => by rw [Bd.returns] at h; cases h)
  refine ⟨_, _, pre0 _ ?_, hrun, hended, _, _, rfl, ?_, ⟨_, rfl⟩, hW, hsame.mono (by decide) (by decide)⟩
  · show Steps p.tables e below (s₁.setTop (mkF m 0 #[.val (.ref aa), .val (.int (Int32.ofNat i)), .unset] [])) _
    refine XS.aloadN X0.here hx rfl (hb hby d10_0) rfl rfl ?_
    show Steps p.tables e below (s₁.setTop (mkF m 1 #[.val (.ref aa), .val (.int (Int32.ofNat i)), .unset] [(.ref aa)])) _
    refine st281 _ ?_
    show Steps p.tables e below (T281.setTop (mkF m 4 #[.val (.ref aa), .val (.int (Int32.ofNat i)), .unset] [(.ref al)])) _
    refine XS.iloadN X281.here hx rfl (hb hby d10_4) rfl ?_
    show Steps p.tables e below (T281.setTop (mkF m 5 #[.val (.ref aa), .val (.int (Int32.ofNat i)), .unset] [(.int (Int32.ofNat i)), (.ref al)])) _
    refine IA.load X281 hx hZ e281 t280_14 i (own_cl hi (by decide)) (own_nn hi (by decide)) hi (g := (mkF m 5 #[.val (.ref aa), .val (.int (Int32.ofNat i)), .unset] [(.int (Int32.ofNat i)), (.ref al)])) rfl rfl (hb hby d10_5) _ ?_
    show Steps p.tables e below (T281.setTop (mkF m 6 #[.val (.ref aa), .val (.int (Int32.ofNat i)), .unset] [(.int (Int32.ofNat ((own_l S) i)))])) _
    refine XS.istoreN X281.here hx rfl (hb hby d10_6) rfl (l' := #[.val (.ref aa), .val (.int (Int32.ofNat i)), .val (.int (Int32.ofNat ((own_l S) i)))]) rfl ?_
    show Steps p.tables e below (T281.setTop (mkF m 7 #[.val (.ref aa), .val (.int (Int32.ofNat i)), .val (.int (Int32.ofNat ((own_l S) i)))] [])) _
    refine XS.aloadN X281.here hx rfl (hb hby d10_7) rfl rfl ?_
    show Steps p.tables e below (T281.setTop (mkF m 8 #[.val (.ref aa), .val (.int (Int32.ofNat i)), .val (.int (Int32.ofNat ((own_l S) i)))] [(.ref aa)])) _
    refine st282 _ ?_
    show Steps p.tables e below (T282.setTop (mkF m 11 #[.val (.ref aa), .val (.int (Int32.ofNat i)), .val (.int (Int32.ofNat ((own_l S) i)))] [(.ref al)])) _
    refine XS.iloadN X282.here hx rfl (hb hby d10_11) rfl ?_
    show Steps p.tables e below (T282.setTop (mkF m 12 #[.val (.ref aa), .val (.int (Int32.ofNat i)), .val (.int (Int32.ofNat ((own_l S) i)))] [(.int (Int32.ofNat i)), (.ref al)])) _
    refine XS.aloadN X282.here hx rfl (hb hby d10_12) rfl rfl ?_
    show Steps p.tables e below (T282.setTop (mkF m 13 #[.val (.ref aa), .val (.int (Int32.ofNat i)), .val (.int (Int32.ofNat ((own_l S) i)))] [(.ref aa), (.int (Int32.ofNat i)), (.ref al)])) _
    refine st283 _ ?_
    show Steps p.tables e below (T283.setTop (mkF m 16 #[.val (.ref aa), .val (.int (Int32.ofNat i)), .val (.int (Int32.ofNat ((own_l S) i)))] [(.ref ar), (.int (Int32.ofNat i)), (.ref al)])) _
    refine XS.iloadN X283.here hx rfl (hb hby d10_16) rfl ?_
    show Steps p.tables e below (T283.setTop (mkF m 17 #[.val (.ref aa), .val (.int (Int32.ofNat i)), .val (.int (Int32.ofNat ((own_l S) i)))] [(.int (Int32.ofNat ((own_l S) i))), (.ref ar), (.int (Int32.ofNat i)), (.ref al)])) _
    refine IA.load X283 hx hZ e283 t280_15 ((own_l S) i) (own_cl (by first | assumption | exact hok.1 _ | exact hok.2.1 _ | omega) (by decide)) (own_nn (by first | assumption | exact hok.1 _ | exact hok.2.1 _ | omega) (by decide)) (by first | assumption | exact hok.1 _ | exact hok.2.1 _ | omega) (g := (mkF m 17 #[.val (.ref aa), .val (.int (Int32.ofNat i)), .val (.int (Int32.ofNat ((own_l S) i)))] [(.int (Int32.ofNat ((own_l S) i))), (.ref ar), (.int (Int32.ofNat i)), (.ref al)])) rfl rfl (hb hby d10_17) _ ?_
    show Steps p.tables e below (T283.setTop (mkF m 18 #[.val (.ref aa), .val (.int (Int32.ofNat i)), .val (.int (Int32.ofNat ((own_l S) i)))] [(.int (Int32.ofNat ((own_r S) ((own_l S) i)))), (.int (Int32.ofNat i)), (.ref al)])) _
    refine st284 _ ?_
    show Steps p.tables e below (T284.setTop (mkF m 19 #[.val (.ref aa), .val (.int (Int32.ofNat i)), .val (.int (Int32.ofNat ((own_l S) i)))] [])) _
    refine XS.aloadN X284.here hx rfl (hb hby d10_19) rfl rfl ?_
    show Steps p.tables e below (T284.setTop (mkF m 20 #[.val (.ref aa), .val (.int (Int32.ofNat i)), .val (.int (Int32.ofNat ((own_l S) i)))] [(.ref aa)])) _
    refine st300 _ ?_
    show Steps p.tables e below (T300.setTop (mkF m 23 #[.val (.ref aa), .val (.int (Int32.ofNat i)), .val (.int (Int32.ofNat ((own_l S) i)))] [(.ref ar)])) _
    refine XS.iloadN X300.here hx rfl (hb hby d10_23) rfl ?_
    show Steps p.tables e below (T300.setTop (mkF m 24 #[.val (.ref aa), .val (.int (Int32.ofNat i)), .val (.int (Int32.ofNat ((own_l S) i)))] [(.int (Int32.ofNat ((own_l S) i))), (.ref ar)])) _
    refine XS.iloadN X300.here hx rfl (hb hby d10_24) rfl ?_
    show Steps p.tables e below (T300.setTop (mkF m 25 #[.val (.ref aa), .val (.int (Int32.ofNat i)), .val (.int (Int32.ofNat ((own_l S) i)))] [(.int (Int32.ofNat i)), (.int (Int32.ofNat ((own_l S) i))), (.ref ar)])) _
    refine st301 _ ?_
    show Steps p.tables e below (T301.setTop (mkF m 26 #[.val (.ref aa), .val (.int (Int32.ofNat i)), .val (.int (Int32.ofNat ((own_l S) i)))] [])) _
    refine XS.aloadN X301.here hx rfl (hb hby d10_26) rfl rfl ?_
    show Steps p.tables e below (T301.setTop (mkF m 27 #[.val (.ref aa), .val (.int (Int32.ofNat i)), .val (.int (Int32.ofNat ((own_l S) i)))] [(.ref aa)])) _
    refine XS.iloadN X301.here hx rfl (hb hby d10_27) rfl ?_
    show Steps p.tables e below (T301.setTop (mkF m 28 #[.val (.ref aa), .val (.int (Int32.ofNat i)), .val (.int (Int32.ofNat ((own_l S) i)))] [(.int (Int32.ofNat i)), (.ref aa)])) _
    refine st317.trans ?_
    show Steps p.tables e below (T317.setTop (mkF m 31 #[.val (.ref aa), .val (.int (Int32.ofNat i)), .val (.int (Int32.ofNat ((own_l S) i)))] [])) _
    refine XS.aloadN X317.here hx rfl (hb hby d10_31) rfl rfl ?_
    show Steps p.tables e below (T317.setTop (mkF m 32 #[.val (.ref aa), .val (.int (Int32.ofNat i)), .val (.int (Int32.ofNat ((own_l S) i)))] [(.ref aa)])) _
    refine XS.iloadN X317.here hx rfl (hb hby d10_32) rfl ?_
    show Steps p.tables e below (T317.setTop (mkF m 33 #[.val (.ref aa), .val (.int (Int32.ofNat i)), .val (.int (Int32.ofNat ((own_l S) i)))] [(.int (Int32.ofNat ((own_l S) i))), (.ref aa)])) _
    refine st320.trans ?_
    show Steps p.tables e below (T320.setTop (mkF m 36 #[.val (.ref aa), .val (.int (Int32.ofNat i)), .val (.int (Int32.ofNat ((own_l S) i)))] [])) _
    refine XS.iloadN X320.here hx rfl (hb hby d10_36) rfl ?_
    show Steps p.tables e below (T320.setTop (mkF m 37 #[.val (.ref aa), .val (.int (Int32.ofNat i)), .val (.int (Int32.ofNat ((own_l S) i)))] [(.int (Int32.ofNat ((own_l S) i)))])) _
    exact retI X320 hx Bd.returns (hb hby d10_37) hr
  · show Q10 Z aa ae ap aS ah al ar S rt md i B h0 n0 _ T320.heap _
    exact ⟨(congrArg some (congrArg Value.int rfl)), N320, K320, (TR.mk (S := (own_update (own_update (own_setR (own_setL S i ((own_r S) ((own_l S) i))) ((own_l S) i) i) i) ((own_l S) i))) t322_0 t322_1 t322_2 t322_3 t322_4 t322_5 t322_6 t322_7 t322_8 t322_9 t322_10 t322_11 t322_12 t322_13 t322_14 t322_15)⟩

theorem d12_0 : decode prog_107_method_15_code 0 = .ok (.aload_n 0, 1) := by decide +kernel
theorem d12_1 : decode prog_107_method_15_code 1 = .ok (.getfield 26, 3) := by decide +kernel
theorem d12_4 : decode prog_107_method_15_code 4 = .ok (.iload_n 1, 1) := by decide +kernel
theorem d12_5 : decode prog_107_method_15_code 5 = .ok (.iaload, 1) := by decide +kernel
theorem d12_6 : decode prog_107_method_15_code 6 = .ok (.istore_n 2, 1) := by decide +kernel
theorem d12_7 : decode prog_107_method_15_code 7 = .ok (.aload_n 0, 1) := by decide +kernel
theorem d12_8 : decode prog_107_method_15_code 8 = .ok (.getfield 26, 3) := by decide +kernel
theorem d12_11 : decode prog_107_method_15_code 11 = .ok (.iload_n 1, 1) := by decide +kernel
theorem d12_12 : decode prog_107_method_15_code 12 = .ok (.aload_n 0, 1) := by decide +kernel
theorem d12_13 : decode prog_107_method_15_code 13 = .ok (.getfield 23, 3) := by decide +kernel
theorem d12_16 : decode prog_107_method_15_code 16 = .ok (.iload_n 2, 1) := by decide +kernel
theorem d12_17 : decode prog_107_method_15_code 17 = .ok (.iaload, 1) := by decide +kernel
theorem d12_18 : decode prog_107_method_15_code 18 = .ok (.iastore, 1) := by decide +kernel
theorem d12_19 : decode prog_107_method_15_code 19 = .ok (.aload_n 0, 1) := by decide +kernel
theorem d12_20 : decode prog_107_method_15_code 20 = .ok (.getfield 23, 3) := by decide +kernel
theorem d12_23 : decode prog_107_method_15_code 23 = .ok (.iload_n 2, 1) := by decide +kernel
theorem d12_24 : decode prog_107_method_15_code 24 = .ok (.iload_n 1, 1) := by decide +kernel
theorem d12_25 : decode prog_107_method_15_code 25 = .ok (.iastore, 1) := by decide +kernel
theorem d12_26 : decode prog_107_method_15_code 26 = .ok (.aload_n 0, 1) := by decide +kernel
theorem d12_27 : decode prog_107_method_15_code 27 = .ok (.iload_n 1, 1) := by decide +kernel
theorem d12_28 : decode prog_107_method_15_code 28 = .ok (.invokevirtual 98, 3) := by decide +kernel
theorem d12_31 : decode prog_107_method_15_code 31 = .ok (.aload_n 0, 1) := by decide +kernel
theorem d12_32 : decode prog_107_method_15_code 32 = .ok (.iload_n 2, 1) := by decide +kernel
theorem d12_33 : decode prog_107_method_15_code 33 = .ok (.invokevirtual 98, 3) := by decide +kernel
theorem d12_36 : decode prog_107_method_15_code 36 = .ok (.iload_n 2, 1) := by decide +kernel
theorem d12_37 : decode prog_107_method_15_code 37 = .ok (.ireturn, 1) := by decide +kernel
theorem ef_12 (m : MethodId) (aa : Addr) : entryFrame m #[(.ref aa), (.int (Int32.ofNat i))] 3 = mkF m 0 #[.val (.ref aa), .val (.int (Int32.ofNat i)), .unset] [] := by first | (simp [entryFrame, mkF, argsToLocals, Value.category]; done) | rfl
def Q12 (Z : State) (aa : Addr) (ae : Addr) (ap : Addr) (aS : Addr) (ah : Addr) (al : Addr) (ar : Addr) (S : own_S) (rt : Nat) (md : Nat) (i : Nat) (B : Nat) (h0 : Heap) (n0 : Nat) (v : Option Value) (h : Heap) (L : List Loc) : Prop := v = some (.int (Int32.ofNat (own_r S i))) ∧ Fr n0 L ∧ Keep h0 h [aa, ae, ap, aS, ah, al, ar] ∧ TR Z h aa ae ap aS ah al ar (own_rotL S i) rt md
set_option maxRecDepth 65536 in
set_option maxHeartbeats 40000000 in
theorem rm12 (l : Launch) (Z : State) (a0 : Array Value) (hw : ∀ d ∈ tables_1, d.before a0 Z = true) (ws : List Jvm.Cond) (aa : Addr) (ae : Addr) (ap : Addr) (aS : Addr) (ah : Addr) (al : Addr) (ar : Addr) (S : own_S) (rt : Nat) (md : Nat) (i : Nat) (B : Nat) (h0 : Heap) (n0 : Nat) (Z0 : n0 ≤ h0.size) (g_aa : n0 ≤ aa) (g_ae : n0 ≤ ae) (g_ap : n0 ≤ ap) (g_aS : n0 ≤ aS) (g_ah : n0 ≤ ah) (g_al : n0 ≤ al) (g_ar : n0 ≤ ar) (hD : own_D aa ae ap aS ah al ar) (hTR : TR Z h0 aa ae ap aS ah al ar S rt md) (hi : i < 16) (hok : own_ok B S) (hB : B + 1 < 1000000) :
    MetFree l (⟨"com/example/berthline/berthline/engine/replay/EstimatedEnds", "rotateLeft", "(I)I"⟩ : MethodName) (head1 (Jvm.Cond.code (⟨"com/example/berthline/berthline/engine/replay/EstimatedEnds", "rotateLeft", "(I)I"⟩ : MethodName) prog_107_method_15_code 3 (some .int) :: ws) ({ frames := 2, cells := 0, slots := 0, locals := 31 } : Room)) (fun a U => a = #[(.ref aa), (.int (Int32.ofNat i))] ∧ Z.Warmed39 U.vm ∧ U.heap = h0) (fun _ _ _ _ _ => True) (fun _ U o U' => ∃ v L, o = .returned v ∧ Q12 Z aa ae ap aS ah al ar S rt md i B h0 n0 v U'.heap L ∧ FrameEnd U o U' L ({ frames := 2, cells := 0, slots := 0, locals := 31 } : Room).cells ({ frames := 2, cells := 0, slots := 0, locals := 31 } : Room).slots) := by
  refine MetFree.of_bodySF (plainFor_of_name pn_com_example_berthline_berthline_engine_replay_EstimatedEnds) hisR ?_
  intro p e s m args below meth c s₁ Bd hml0 hP hK
  obtain ⟨rfl, hZ, hh⟩ := hP
  have hx := Bd.exec
  have hby := Bd.bytes
  have hml : c.maxLocals = 3 := hml0
  have hown : s.vm.findClass "com/example/berthline/berthline/engine/replay/EstimatedEnds" = some m.cls := findClass_of_methodNamed Bd.named
  have hnm := (name_of_methodNamed Bd.named Bd.method).1
  have X0 : Stand p l e ({ frames := 2, cells := 0, slots := 0, locals := 31 } : Room) s m #[(.ref aa), (.int (Int32.ofNat i))] below meth c s₁ [] 0 0 := Stand.of_body Bd
  have e0 : s₁.heap = h0 := by rw [← hh, Bd.state]; rfl
  have N0 := Fr.nil n0
  have pre0 : ∀ t, Steps p.tables e below (s₁.setTop (mkF m 0 #[.val (.ref aa), .val (.int (Int32.ofNat i)), .unset] [])) t → Steps p.tables e below (s₁.setTop (entryFrame m #[(.ref aa), (.int (Int32.ofNat i))] 3)) t := fun t k => castTop (ef_12 m aa) k
  obtain ⟨dd323_0, dd323_1, dd323_2, dd323_3, dd323_4, dd323_5, dd323_6, dd323_7, dd323_8, dd323_9, dd323_10, dd323_11, dd323_12, dd323_13, dd323_14, dd323_15, dd323_16, dd323_17, dd323_18, dd323_19, dd323_20⟩ := id hD
  obtain ⟨t324_0, t324_1, t324_2, t324_3, t324_4, t324_5, t324_6, t324_7, t324_8, t324_9, t324_10, t324_11, t324_12, t324_13, t324_14, t324_15⟩ := hTR
  obtain ⟨T325, X325, e325, st325⟩ := getF X0 hx hZ hown (host := "") (Or.inl (hw _ (List.mem_of_getElem? (i := 21) rfl))) Via.refl e0 t324_6 (g := (mkF m 1 #[.val (.ref aa), .val (.int (Int32.ofNat i)), .unset] [(.ref aa)])) rfl rfl (hb hby d12_1)
  obtain ⟨T326, X326, e326, st326⟩ := getF X325 hx hZ hown (host := "") (Or.inl (hw _ (List.mem_of_getElem? (i := 21) rfl))) Via.refl e325 t324_6 (g := (mkF m 8 #[.val (.ref aa), .val (.int (Int32.ofNat i)), .val (.int (Int32.ofNat ((own_r S) i)))] [(.ref aa)])) rfl rfl (hb hby d12_8)
  obtain ⟨T327, X327, e327, st327⟩ := getF X326 hx hZ hown (host := "") (Or.inl (hw _ (List.mem_of_getElem? (i := 19) rfl))) Via.refl e326 t324_5 (g := (mkF m 13 #[.val (.ref aa), .val (.int (Int32.ofNat i)), .val (.int (Int32.ofNat ((own_r S) i)))] [(.ref aa), (.int (Int32.ofNat i)), (.ref ar)])) rfl rfl (hb hby d12_13)
  obtain ⟨T328, h328, X328, e328, W328, V328, st328⟩ := IA.store X327 hx hZ e327 t324_15 i (own_cl hi (by decide)) (own_nn hi (by decide)) hi (x := ((own_l S) ((own_r S) i))) (g := (mkF m 18 #[.val (.ref aa), .val (.int (Int32.ofNat i)), .val (.int (Int32.ofNat ((own_r S) i)))] [(.int (Int32.ofNat ((own_l S) ((own_r S) i)))), (.int (Int32.ofNat i)), (.ref ar)])) rfl rfl (hb hby d12_18)
  have E_329 := t324_0.wr W328
  have F_330 := t324_1.other W328 (Or.inl dd323_5)
  have F_331 := t324_2.other W328 (Or.inl dd323_5)
  have F_332 := t324_3.other W328 (Or.inl dd323_5)
  have F_333 := t324_4.other W328 (Or.inl dd323_5)
  have F_334 := t324_5.other W328 (Or.inl dd323_5)
  have F_335 := t324_6.other W328 (Or.inl dd323_5)
  have F_336 := t324_7.other W328 (Or.inl dd323_5)
  have F_337 := t324_8.other W328 (Or.inl dd323_5)
  have F_338 := t324_9.other W328 (Or.inl dd323_5)
  have V_339 := t324_10.other W328 dd323_10
  have V_340 := t324_11.other W328 dd323_14
  have V_341 := t324_12.other W328 dd323_17
  have V_342 := t324_13.other W328 dd323_19
  have V_343 := t324_14.other W328 dd323_20
  have N328 := Fr.snoc X328 N0 g_ar
  have Z328 : n0 ≤ h328.size := Nat.le_trans Z0 (Keep.of_wr W328).1
  have K328 : Keep h0 h328 [aa, ae, ap, aS, ah, al, ar] := (Keep.refl h0 [aa, ae, ap, aS, ah, al, ar]).wr W328 (Or.inl (List.mem_of_getElem? (i := 6) rfl))
  obtain ⟨T344, X344, e344, st344⟩ := getF X328 hx hZ hown (host := "") (Or.inl (hw _ (List.mem_of_getElem? (i := 19) rfl))) Via.refl e328 F_334 (g := (mkF m 20 #[.val (.ref aa), .val (.int (Int32.ofNat i)), .val (.int (Int32.ofNat ((own_r S) i)))] [(.ref aa)])) rfl rfl (hb hby d12_20)
  obtain ⟨T345, h345, X345, e345, W345, V345, st345⟩ := IA.store X344 hx hZ e344 V_343 ((own_r S) i) (own_cl (by first | assumption | exact hok.1 _ | exact hok.2.1 _ | omega) (by decide)) (own_nn (by first | assumption | exact hok.1 _ | exact hok.2.1 _ | omega) (by decide)) (by first | assumption | exact hok.1 _ | exact hok.2.1 _ | omega) (x := i) (g := (mkF m 25 #[.val (.ref aa), .val (.int (Int32.ofNat i)), .val (.int (Int32.ofNat ((own_r S) i)))] [(.int (Int32.ofNat i)), (.int (Int32.ofNat ((own_r S) i))), (.ref al)])) rfl rfl (hb hby d12_25)
  have E_346 := E_329.wr W345
  have F_347 := F_330.other W345 (Or.inl dd323_4)
  have F_348 := F_331.other W345 (Or.inl dd323_4)
  have F_349 := F_332.other W345 (Or.inl dd323_4)
  have F_350 := F_333.other W345 (Or.inl dd323_4)
  have F_351 := F_334.other W345 (Or.inl dd323_4)
  have F_352 := F_335.other W345 (Or.inl dd323_4)
  have F_353 := F_336.other W345 (Or.inl dd323_4)
  have F_354 := F_337.other W345 (Or.inl dd323_4)
  have F_355 := F_338.other W345 (Or.inl dd323_4)
  have V_356 := V_339.other W345 dd323_9
  have V_357 := V_340.other W345 dd323_13
  have V_358 := V_341.other W345 dd323_16
  have V_359 := V_342.other W345 dd323_18
  have V_360 := V328.other W345 (Ne.symm dd323_20)
  have N345 := Fr.snoc X345 N328 g_al
  have Z345 : n0 ≤ h345.size := Nat.le_trans Z328 (Keep.of_wr W345).1
  have K345 : Keep h0 h345 [aa, ae, ap, aS, ah, al, ar] := K328.wr W345 (Or.inl (List.mem_of_getElem? (i := 5) rfl))
  obtain ⟨cq361, q361, q361'⟩ := E_346.cell
  obtain ⟨_, _, ⟨T361, L361, k361, n361⟩, -, X361, ⟨Lc361, hQ361, l361, y361, z361⟩, st361⟩ := X345.privateBack hx (y := (⟨"com/example/berthline/berthline/engine/replay/EstimatedEnds", "update", "(I)V"⟩ : MethodName)) hown (mvT hZ (hw _ (List.mem_of_getElem? (i := 51) rfl))) (mvT hZ (hw _ (List.mem_of_getElem? (i := 52) rfl))) (own_selects hZ (hw _ (List.mem_of_getElem? (i := 1) rfl)) (hw _ (List.mem_of_getElem? (i := 53) rfl)) (hw _ (List.mem_of_getElem? (i := 52) rfl)) (by decide)) (Cond.privateMethod_at (mvP hZ (hw _ (List.mem_of_getElem? (i := 53) rfl)) (args := #[]))) (mvT hZ (hw _ (List.mem_of_getElem? (i := 54) rfl))) (by decide) (backOf (W := 0) (rm8 l Z a0 hw [] aa ae ap aS ah al ar (own_setL (own_setR S i ((own_l S) ((own_r S) i))) ((own_r S) i) i) rt md i B h345 n0 Z345 g_aa g_ae g_ap g_aS g_ah g_al g_ar hD (TR.mk (S := (own_setL (own_setR S i ((own_l S) ((own_r S) i))) ((own_r S) i) i)) E_346 F_347 F_348 F_349 F_350 F_351 F_352 F_353 F_354 F_355 V_356 V_357 V_358 V_359 V345 V_360) hi (own_ok_setL (own_ok_setR hok (hok.1 _)) hi) (by omega)) hZ (hw _ (List.mem_of_getElem? (i := 54) rfl)) (hw _ (List.mem_of_getElem? (i := 2) rfl)) (by decide) (by decide)) (g := (mkF m 28 #[.val (.ref aa), .val (.int (Int32.ofNat i)), .val (.int (Int32.ofNat ((own_r S) i)))] [(.int (Int32.ofNat i)), (.ref aa)])) rfl (by rw [hml]; rfl) (Steps.refl _) (a := aa) (by rw [e345]; exact q361) q361' (argsL := [(.int (Int32.ofNat i))]) (rest := []) (lenOf pd_603724 rfl) rfl (by show 2 * 0 + _ ≤ _; exact Nat.le_of_eq rfl) (hb hby d12_28) (fun _ _ => ⟨rfl, e345, (by decide : 0 + 0 ≤ _), (by decide : 0 + 0 ≤ _)⟩)
  dsimp only [Pt.U, Pt.locs, Pt.cells, Pt.slots] at X361 l361 y361 z361 st361 hQ361
  subst l361 y361 z361
  obtain ⟨rfl, N361q, K361c, G361_0⟩ := hQ361
  have N361 := Fr.app N345 N361q
  have E_362 := E_346.keep K361c
  have Z361 : n0 ≤ T361.heap.size := Nat.le_trans Z345 K361c.1
  have K361 : Keep h0 T361.heap [aa, ae, ap, aS, ah, al, ar] := K345.trans K361c (allS (P := fun x => x ∈ [aa, ae, ap, aS, ah, al, ar] ∨ h0.size ≤ x) (Or.inl (List.mem_of_getElem? (i := 0) rfl)) (allS (P := fun x => x ∈ [aa, ae, ap, aS, ah, al, ar] ∨ h0.size ≤ x) (Or.inl (List.mem_of_getElem? (i := 1) rfl)) (allS (P := fun x => x ∈ [aa, ae, ap, aS, ah, al, ar] ∨ h0.size ≤ x) (Or.inl (List.mem_of_getElem? (i := 2) rfl)) (allS (P := fun x => x ∈ [aa, ae, ap, aS, ah, al, ar] ∨ h0.size ≤ x) (Or.inl (List.mem_of_getElem? (i := 3) rfl)) (allS (P := fun x => x ∈ [aa, ae, ap, aS, ah, al, ar] ∨ h0.size ≤ x) (Or.inl (List.mem_of_getElem? (i := 4) rfl)) (allS (P := fun x => x ∈ [aa, ae, ap, aS, ah, al, ar] ∨ h0.size ≤ x) (Or.inl (List.mem_of_getElem? (i := 5) rfl)) (allS (P := fun x => x ∈ [aa, ae, ap, aS, ah, al, ar] ∨ h0.size ≤ x) (Or.inl (List.mem_of_getElem? (i := 6) rfl)) all0)))))))
  obtain ⟨t363_0, t363_1, t363_2, t363_3, t363_4, t363_5, t363_6, t363_7, t363_8, t363_9, t363_10, t363_11, t363_12, t363_13, t363_14, t363_15⟩ := G361_0
  obtain ⟨cq364, q364, q364'⟩ := t363_0.cell
  obtain ⟨_, _, ⟨T364, L364, k364, n364⟩, -, X364, ⟨Lc364, hQ364, l364, y364, z364⟩, st364⟩ := X361.privateBack hx (y := (⟨"com/example/berthline/berthline/engine/replay/EstimatedEnds", "update", "(I)V"⟩ : MethodName)) hown (mvT hZ (hw _ (List.mem_of_getElem? (i := 51) rfl))) (mvT hZ (hw _ (List.mem_of_getElem? (i := 52) rfl))) (own_selects hZ (hw _ (List.mem_of_getElem? (i := 1) rfl)) (hw _ (List.mem_of_getElem? (i := 53) rfl)) (hw _ (List.mem_of_getElem? (i := 52) rfl)) (by decide)) (Cond.privateMethod_at (mvP hZ (hw _ (List.mem_of_getElem? (i := 53) rfl)) (args := #[]))) (mvT hZ (hw _ (List.mem_of_getElem? (i := 54) rfl))) (by decide) (backOf (W := 0) (rm8 l Z a0 hw [] aa ae ap aS ah al ar (own_update (own_setL (own_setR S i ((own_l S) ((own_r S) i))) ((own_r S) i) i) i) rt md ((own_r S) i) (B + 1) T361.heap n0 Z361 g_aa g_ae g_ap g_aS g_ah g_al g_ar hD (TR.mk (S := (own_update (own_setL (own_setR S i ((own_l S) ((own_r S) i))) ((own_r S) i) i) i)) t363_0 t363_1 t363_2 t363_3 t363_4 t363_5 t363_6 t363_7 t363_8 t363_9 t363_10 t363_11 t363_12 t363_13 t363_14 t363_15) (by first | assumption | exact hok.1 _ | exact hok.2.1 _ | omega) (own_ok_update (own_ok_setL (own_ok_setR hok (hok.1 _)) hi) _) hB) hZ (hw _ (List.mem_of_getElem? (i := 54) rfl)) (hw _ (List.mem_of_getElem? (i := 2) rfl)) (by decide) (by decide)) (g := (mkF m 33 #[.val (.ref aa), .val (.int (Int32.ofNat i)), .val (.int (Int32.ofNat ((own_r S) i)))] [(.int (Int32.ofNat ((own_r S) i))), (.ref aa)])) rfl (by rw [hml]; rfl) (Steps.refl _) (a := aa) q364 q364' (argsL := [(.int (Int32.ofNat ((own_r S) i)))]) (rest := []) (lenOf pd_603724 rfl) rfl (by show 2 * 0 + _ ≤ _; exact Nat.le_of_eq rfl) (hb hby d12_33) (fun _ _ => ⟨rfl, rfl, (by decide : 0 + 0 ≤ _), (by decide : 0 + 0 ≤ _)⟩)
  dsimp only [Pt.U, Pt.locs, Pt.cells, Pt.slots] at X364 l364 y364 z364 st364 hQ364
  subst l364 y364 z364
  obtain ⟨rfl, N364q, K364c, G364_0⟩ := hQ364
  have N364 := Fr.app N361 N364q
  have E_365 := t363_0.keep K364c
  have Z364 : n0 ≤ T364.heap.size := Nat.le_trans Z361 K364c.1
  have K364 : Keep h0 T364.heap [aa, ae, ap, aS, ah, al, ar] := K361.trans K364c (allS (P := fun x => x ∈ [aa, ae, ap, aS, ah, al, ar] ∨ h0.size ≤ x) (Or.inl (List.mem_of_getElem? (i := 0) rfl)) (allS (P := fun x => x ∈ [aa, ae, ap, aS, ah, al, ar] ∨ h0.size ≤ x) (Or.inl (List.mem_of_getElem? (i := 1) rfl)) (allS (P := fun x => x ∈ [aa, ae, ap, aS, ah, al, ar] ∨ h0.size ≤ x) (Or.inl (List.mem_of_getElem? (i := 2) rfl)) (allS (P := fun x => x ∈ [aa, ae, ap, aS, ah, al, ar] ∨ h0.size ≤ x) (Or.inl (List.mem_of_getElem? (i := 3) rfl)) (allS (P := fun x => x ∈ [aa, ae, ap, aS, ah, al, ar] ∨ h0.size ≤ x) (Or.inl (List.mem_of_getElem? (i := 4) rfl)) (allS (P := fun x => x ∈ [aa, ae, ap, aS, ah, al, ar] ∨ h0.size ≤ x) (Or.inl (List.mem_of_getElem? (i := 5) rfl)) (allS (P := fun x => x ∈ [aa, ae, ap, aS, ah, al, ar] ∨ h0.size ≤ x) (Or.inl (List.mem_of_getElem? (i := 6) rfl)) all0)))))))
  obtain ⟨t366_0, t366_1, t366_2, t366_3, t366_4, t366_5, t366_6, t366_7, t366_8, t366_9, t366_10, t366_11, t366_12, t366_13, t366_14, t366_15⟩ := G364_0
  obtain ⟨fs, hr, hrun, hended, hW, hsame⟩ := X364.leave (v := some (.int (Int32.ofNat ((own_r S) i)))) (fun h => by rw [Bd.returns] at h; cases h)
  refine ⟨_, _, pre0 _ ?_, hrun, hended, _, _, rfl, ?_, ⟨_, rfl⟩, hW, hsame.mono (by decide) (by decide)⟩
  · show Steps p.tables e below (s₁.setTop (mkF m 0 #[.val (.ref aa), .val (.int (Int32.ofNat i)), .unset] [])) _
    refine XS.aloadN X0.here hx rfl (hb hby d12_0) rfl rfl ?_
    show Steps p.tables e below (s₁.setTop (mkF m 1 #[.val (.ref aa), .val (.int (Int32.ofNat i)), .unset] [(.ref aa)])) _
    refine st325 _ ?_
    show Steps p.tables e below (T325.setTop (mkF m 4 #[.val (.ref aa), .val (.int (Int32.ofNat i)), .unset] [(.ref ar)])) _
    refine XS.iloadN X325.here hx rfl (hb hby d12_4) rfl ?_
    show Steps p.tables e below (T325.setTop (mkF m 5 #[.val (.ref aa), .val (.int (Int32.ofNat i)), .unset] [(.int (Int32.ofNat i)), (.ref ar)])) _
    refine IA.load X325 hx hZ e325 t324_15 i (own_cl hi (by decide)) (own_nn hi (by decide)) hi (g := (mkF m 5 #[.val (.ref aa), .val (.int (Int32.ofNat i)), .unset] [(.int (Int32.ofNat i)), (.ref ar)])) rfl rfl (hb hby d12_5) _ ?_
    show Steps p.tables e below (T325.setTop (mkF m 6 #[.val (.ref aa), .val (.int (Int32.ofNat i)), .unset] [(.int (Int32.ofNat ((own_r S) i)))])) _
    refine XS.istoreN X325.here hx rfl (hb hby d12_6) rfl (l' := #[.val (.ref aa), .val (.int (Int32.ofNat i)), .val (.int (Int32.ofNat ((own_r S) i)))]) rfl ?_
    show Steps p.tables e below (T325.setTop (mkF m 7 #[.val (.ref aa), .val (.int (Int32.ofNat i)), .val (.int (Int32.ofNat ((own_r S) i)))] [])) _
    refine XS.aloadN X325.here hx rfl (hb hby d12_7) rfl rfl ?_
    show Steps p.tables e below (T325.setTop (mkF m 8 #[.val (.ref aa), .val (.int (Int32.ofNat i)), .val (.int (Int32.ofNat ((own_r S) i)))] [(.ref aa)])) _
    refine st326 _ ?_
    show Steps p.tables e below (T326.setTop (mkF m 11 #[.val (.ref aa), .val (.int (Int32.ofNat i)), .val (.int (Int32.ofNat ((own_r S) i)))] [(.ref ar)])) _
    refine XS.iloadN X326.here hx rfl (hb hby d12_11) rfl ?_
    show Steps p.tables e below (T326.setTop (mkF m 12 #[.val (.ref aa), .val (.int (Int32.ofNat i)), .val (.int (Int32.ofNat ((own_r S) i)))] [(.int (Int32.ofNat i)), (.ref ar)])) _
    refine XS.aloadN X326.here hx rfl (hb hby d12_12) rfl rfl ?_
    show Steps p.tables e below (T326.setTop (mkF m 13 #[.val (.ref aa), .val (.int (Int32.ofNat i)), .val (.int (Int32.ofNat ((own_r S) i)))] [(.ref aa), (.int (Int32.ofNat i)), (.ref ar)])) _
    refine st327 _ ?_
    show Steps p.tables e below (T327.setTop (mkF m 16 #[.val (.ref aa), .val (.int (Int32.ofNat i)), .val (.int (Int32.ofNat ((own_r S) i)))] [(.ref al), (.int (Int32.ofNat i)), (.ref ar)])) _
    refine XS.iloadN X327.here hx rfl (hb hby d12_16) rfl ?_
    show Steps p.tables e below (T327.setTop (mkF m 17 #[.val (.ref aa), .val (.int (Int32.ofNat i)), .val (.int (Int32.ofNat ((own_r S) i)))] [(.int (Int32.ofNat ((own_r S) i))), (.ref al), (.int (Int32.ofNat i)), (.ref ar)])) _
    refine IA.load X327 hx hZ e327 t324_14 ((own_r S) i) (own_cl (by first | assumption | exact hok.1 _ | exact hok.2.1 _ | omega) (by decide)) (own_nn (by first | assumption | exact hok.1 _ | exact hok.2.1 _ | omega) (by decide)) (by first | assumption | exact hok.1 _ | exact hok.2.1 _ | omega) (g := (mkF m 17 #[.val (.ref aa), .val (.int (Int32.ofNat i)), .val (.int (Int32.ofNat ((own_r S) i)))] [(.int (Int32.ofNat ((own_r S) i))), (.ref al), (.int (Int32.ofNat i)), (.ref ar)])) rfl rfl (hb hby d12_17) _ ?_
    show Steps p.tables e below (T327.setTop (mkF m 18 #[.val (.ref aa), .val (.int (Int32.ofNat i)), .val (.int (Int32.ofNat ((own_r S) i)))] [(.int (Int32.ofNat ((own_l S) ((own_r S) i)))), (.int (Int32.ofNat i)), (.ref ar)])) _
    refine st328 _ ?_
    show Steps p.tables e below (T328.setTop (mkF m 19 #[.val (.ref aa), .val (.int (Int32.ofNat i)), .val (.int (Int32.ofNat ((own_r S) i)))] [])) _
    refine XS.aloadN X328.here hx rfl (hb hby d12_19) rfl rfl ?_
    show Steps p.tables e below (T328.setTop (mkF m 20 #[.val (.ref aa), .val (.int (Int32.ofNat i)), .val (.int (Int32.ofNat ((own_r S) i)))] [(.ref aa)])) _
    refine st344 _ ?_
    show Steps p.tables e below (T344.setTop (mkF m 23 #[.val (.ref aa), .val (.int (Int32.ofNat i)), .val (.int (Int32.ofNat ((own_r S) i)))] [(.ref al)])) _
    refine XS.iloadN X344.here hx rfl (hb hby d12_23) rfl ?_
    show Steps p.tables e below (T344.setTop (mkF m 24 #[.val (.ref aa), .val (.int (Int32.ofNat i)), .val (.int (Int32.ofNat ((own_r S) i)))] [(.int (Int32.ofNat ((own_r S) i))), (.ref al)])) _
    refine XS.iloadN X344.here hx rfl (hb hby d12_24) rfl ?_
    show Steps p.tables e below (T344.setTop (mkF m 25 #[.val (.ref aa), .val (.int (Int32.ofNat i)), .val (.int (Int32.ofNat ((own_r S) i)))] [(.int (Int32.ofNat i)), (.int (Int32.ofNat ((own_r S) i))), (.ref al)])) _
    refine st345 _ ?_
    show Steps p.tables e below (T345.setTop (mkF m 26 #[.val (.ref aa), .val (.int (Int32.ofNat i)), .val (.int (Int32.ofNat ((own_r S) i)))] [])) _
    refine XS.aloadN X345.here hx rfl (hb hby d12_26) rfl rfl ?_
    show Steps p.tables e below (T345.setTop (mkF m 27 #[.val (.ref aa), .val (.int (Int32.ofNat i)), .val (.int (Int32.ofNat ((own_r S) i)))] [(.ref aa)])) _
    refine XS.iloadN X345.here hx rfl (hb hby d12_27) rfl ?_
    show Steps p.tables e below (T345.setTop (mkF m 28 #[.val (.ref aa), .val (.int (Int32.ofNat i)), .val (.int (Int32.ofNat ((own_r S) i)))] [(.int (Int32.ofNat i)), (.ref aa)])) _
    refine st361.trans ?_
    show Steps p.tables e below (T361.setTop (mkF m 31 #[.val (.ref aa), .val (.int (Int32.ofNat i)), .val (.int (Int32.ofNat ((own_r S) i)))] [])) _
    refine XS.aloadN X361.here hx rfl (hb hby d12_31) rfl rfl ?_
    show Steps p.tables e below (T361.setTop (mkF m 32 #[.val (.ref aa), .val (.int (Int32.ofNat i)), .val (.int (Int32.ofNat ((own_r S) i)))] [(.ref aa)])) _
    refine XS.iloadN X361.here hx rfl (hb hby d12_32) rfl ?_
    show Steps p.tables e below (T361.setTop (mkF m 33 #[.val (.ref aa), .val (.int (Int32.ofNat i)), .val (.int (Int32.ofNat ((own_r S) i)))] [(.int (Int32.ofNat ((own_r S) i))), (.ref aa)])) _
    refine st364.trans ?_
    show Steps p.tables e below (T364.setTop (mkF m 36 #[.val (.ref aa), .val (.int (Int32.ofNat i)), .val (.int (Int32.ofNat ((own_r S) i)))] [])) _
    refine XS.iloadN X364.here hx rfl (hb hby d12_36) rfl ?_
    show Steps p.tables e below (T364.setTop (mkF m 37 #[.val (.ref aa), .val (.int (Int32.ofNat i)), .val (.int (Int32.ofNat ((own_r S) i)))] [(.int (Int32.ofNat ((own_r S) i)))])) _
    exact retI X364 hx Bd.returns (hb hby d12_37) hr
  · show Q12 Z aa ae ap aS ah al ar S rt md i B h0 n0 _ T364.heap _
    exact ⟨(congrArg some (congrArg Value.int rfl)), N364, K364, (TR.mk (S := (own_update (own_update (own_setL (own_setR S i ((own_l S) ((own_r S) i))) ((own_r S) i) i) i) ((own_r S) i))) t366_0 t366_1 t366_2 t366_3 t366_4 t366_5 t366_6 t366_7 t366_8 t366_9 t366_10 t366_11 t366_12 t366_13 t366_14 t366_15)⟩

theorem d7_0 : decode prog_107_method_13_code 0 = .ok (.aload_n 0, 1) := by decide +kernel
theorem d7_1 : decode prog_107_method_13_code 1 = .ok (.iload_n 1, 1) := by decide +kernel
theorem d7_2 : decode prog_107_method_13_code 2 = .ok (.invokevirtual 98, 3) := by decide +kernel
theorem d7_5 : decode prog_107_method_13_code 5 = .ok (.aload_n 0, 1) := by decide +kernel
theorem d7_6 : decode prog_107_method_13_code 6 = .ok (.getfield 19, 3) := by decide +kernel
theorem d7_9 : decode prog_107_method_13_code 9 = .ok (.aload_n 0, 1) := by decide +kernel
theorem d7_10 : decode prog_107_method_13_code 10 = .ok (.getfield 23, 3) := by decide +kernel
theorem d7_13 : decode prog_107_method_13_code 13 = .ok (.iload_n 1, 1) := by decide +kernel
theorem d7_14 : decode prog_107_method_13_code 14 = .ok (.iaload, 1) := by decide +kernel
theorem d7_15 : decode prog_107_method_13_code 15 = .ok (.iaload, 1) := by decide +kernel
theorem d7_16 : decode prog_107_method_13_code 16 = .ok (.aload_n 0, 1) := by decide +kernel
theorem d7_17 : decode prog_107_method_13_code 17 = .ok (.getfield 19, 3) := by decide +kernel
theorem d7_20 : decode prog_107_method_13_code 20 = .ok (.aload_n 0, 1) := by decide +kernel
theorem d7_21 : decode prog_107_method_13_code 21 = .ok (.getfield 26, 3) := by decide +kernel
theorem d7_24 : decode prog_107_method_13_code 24 = .ok (.iload_n 1, 1) := by decide +kernel
theorem d7_25 : decode prog_107_method_13_code 25 = .ok (.iaload, 1) := by decide +kernel
theorem d7_26 : decode prog_107_method_13_code 26 = .ok (.iaload, 1) := by decide +kernel
theorem d7_27 : decode prog_107_method_13_code 27 = .ok (.isub, 1) := by decide +kernel
theorem d7_28 : decode prog_107_method_13_code 28 = .ok (.istore_n 2, 1) := by decide +kernel
theorem d7_29 : decode prog_107_method_13_code 29 = .ok (.iload_n 1, 1) := by decide +kernel
theorem d7_30 : decode prog_107_method_13_code 30 = .ok (.istore_n 3, 1) := by decide +kernel
theorem d7_31 : decode prog_107_method_13_code 31 = .ok (.iload_n 2, 1) := by decide +kernel
theorem d7_32 : decode prog_107_method_13_code 32 = .ok (.iconst 1, 1) := by decide +kernel
theorem d7_33 : decode prog_107_method_13_code 33 = .ok (.if_icmp .le 59, 3) := by decide +kernel
theorem d7_36 : decode prog_107_method_13_code 36 = .ok (.aload_n 0, 1) := by decide +kernel
theorem d7_37 : decode prog_107_method_13_code 37 = .ok (.getfield 23, 3) := by decide +kernel
theorem d7_40 : decode prog_107_method_13_code 40 = .ok (.iload_n 1, 1) := by decide +kernel
theorem d7_41 : decode prog_107_method_13_code 41 = .ok (.iaload, 1) := by decide +kernel
theorem d7_42 : decode prog_107_method_13_code 42 = .ok (.istore 4, 2) := by decide +kernel
theorem d7_44 : decode prog_107_method_13_code 44 = .ok (.aload_n 0, 1) := by decide +kernel
theorem d7_45 : decode prog_107_method_13_code 45 = .ok (.getfield 19, 3) := by decide +kernel
theorem d7_48 : decode prog_107_method_13_code 48 = .ok (.aload_n 0, 1) := by decide +kernel
theorem d7_49 : decode prog_107_method_13_code 49 = .ok (.getfield 23, 3) := by decide +kernel
theorem d7_52 : decode prog_107_method_13_code 52 = .ok (.iload 4, 2) := by decide +kernel
theorem d7_54 : decode prog_107_method_13_code 54 = .ok (.iaload, 1) := by decide +kernel
theorem d7_55 : decode prog_107_method_13_code 55 = .ok (.iaload, 1) := by decide +kernel
theorem d7_56 : decode prog_107_method_13_code 56 = .ok (.aload_n 0, 1) := by decide +kernel
theorem d7_57 : decode prog_107_method_13_code 57 = .ok (.getfield 19, 3) := by decide +kernel
theorem d7_60 : decode prog_107_method_13_code 60 = .ok (.aload_n 0, 1) := by decide +kernel
theorem d7_61 : decode prog_107_method_13_code 61 = .ok (.getfield 26, 3) := by decide +kernel
theorem d7_64 : decode prog_107_method_13_code 64 = .ok (.iload 4, 2) := by decide +kernel
theorem d7_66 : decode prog_107_method_13_code 66 = .ok (.iaload, 1) := by decide +kernel
theorem d7_67 : decode prog_107_method_13_code 67 = .ok (.iaload, 1) := by decide +kernel
theorem d7_68 : decode prog_107_method_13_code 68 = .ok (.if_icmp .ge 15, 3) := by decide +kernel
theorem d7_71 : decode prog_107_method_13_code 71 = .ok (.aload_n 0, 1) := by decide +kernel
theorem d7_72 : decode prog_107_method_13_code 72 = .ok (.getfield 23, 3) := by decide +kernel
theorem d7_75 : decode prog_107_method_13_code 75 = .ok (.iload_n 1, 1) := by decide +kernel
theorem d7_76 : decode prog_107_method_13_code 76 = .ok (.aload_n 0, 1) := by decide +kernel
theorem d7_77 : decode prog_107_method_13_code 77 = .ok (.iload 4, 2) := by decide +kernel
theorem d7_79 : decode prog_107_method_13_code 79 = .ok (.invokevirtual 102, 3) := by decide +kernel
theorem pd_216441 : parseMethodDescriptor "(I)I" = some ⟨[.int], some .int⟩ := by decide +kernel
theorem d7_82 : decode prog_107_method_13_code 82 = .ok (.iastore, 1) := by decide +kernel
theorem d7_83 : decode prog_107_method_13_code 83 = .ok (.aload_n 0, 1) := by decide +kernel
theorem d7_84 : decode prog_107_method_13_code 84 = .ok (.iload_n 1, 1) := by decide +kernel
theorem d7_85 : decode prog_107_method_13_code 85 = .ok (.invokevirtual 105, 3) := by decide +kernel
theorem d7_88 : decode prog_107_method_13_code 88 = .ok (.istore_n 3, 1) := by decide +kernel
theorem d7_89 : decode prog_107_method_13_code 89 = .ok (.goto 61, 3) := by decide +kernel
theorem d7_150 : decode prog_107_method_13_code 150 = .ok (.iload_n 3, 1) := by decide +kernel
theorem d7_151 : decode prog_107_method_13_code 151 = .ok (.ireturn, 1) := by decide +kernel
theorem d7_92 : decode prog_107_method_13_code 92 = .ok (.iload_n 2, 1) := by decide +kernel
theorem d7_93 : decode prog_107_method_13_code 93 = .ok (.iconst (-1), 1) := by decide +kernel
theorem d7_94 : decode prog_107_method_13_code 94 = .ok (.if_icmp .ge 56, 3) := by decide +kernel
theorem d7_97 : decode prog_107_method_13_code 97 = .ok (.aload_n 0, 1) := by decide +kernel
theorem d7_98 : decode prog_107_method_13_code 98 = .ok (.getfield 26, 3) := by decide +kernel
theorem d7_101 : decode prog_107_method_13_code 101 = .ok (.iload_n 1, 1) := by decide +kernel
theorem d7_102 : decode prog_107_method_13_code 102 = .ok (.iaload, 1) := by decide +kernel
theorem d7_103 : decode prog_107_method_13_code 103 = .ok (.istore 4, 2) := by decide +kernel
theorem d7_105 : decode prog_107_method_13_code 105 = .ok (.aload_n 0, 1) := by decide +kernel
theorem d7_106 : decode prog_107_method_13_code 106 = .ok (.getfield 19, 3) := by decide +kernel
theorem d7_109 : decode prog_107_method_13_code 109 = .ok (.aload_n 0, 1) := by decide +kernel
theorem d7_110 : decode prog_107_method_13_code 110 = .ok (.getfield 26, 3) := by decide +kernel
theorem d7_113 : decode prog_107_method_13_code 113 = .ok (.iload 4, 2) := by decide +kernel
theorem d7_115 : decode prog_107_method_13_code 115 = .ok (.iaload, 1) := by decide +kernel
theorem d7_116 : decode prog_107_method_13_code 116 = .ok (.iaload, 1) := by decide +kernel
theorem d7_117 : decode prog_107_method_13_code 117 = .ok (.aload_n 0, 1) := by decide +kernel
theorem d7_118 : decode prog_107_method_13_code 118 = .ok (.getfield 19, 3) := by decide +kernel
theorem d7_121 : decode prog_107_method_13_code 121 = .ok (.aload_n 0, 1) := by decide +kernel
theorem d7_122 : decode prog_107_method_13_code 122 = .ok (.getfield 23, 3) := by decide +kernel
theorem d7_125 : decode prog_107_method_13_code 125 = .ok (.iload 4, 2) := by decide +kernel
theorem d7_127 : decode prog_107_method_13_code 127 = .ok (.iaload, 1) := by decide +kernel
theorem d7_128 : decode prog_107_method_13_code 128 = .ok (.iaload, 1) := by decide +kernel
theorem d7_129 : decode prog_107_method_13_code 129 = .ok (.if_icmp .ge 15, 3) := by decide +kernel
theorem d7_132 : decode prog_107_method_13_code 132 = .ok (.aload_n 0, 1) := by decide +kernel
theorem d7_133 : decode prog_107_method_13_code 133 = .ok (.getfield 26, 3) := by decide +kernel
theorem d7_136 : decode prog_107_method_13_code 136 = .ok (.iload_n 1, 1) := by decide +kernel
theorem d7_137 : decode prog_107_method_13_code 137 = .ok (.aload_n 0, 1) := by decide +kernel
theorem d7_138 : decode prog_107_method_13_code 138 = .ok (.iload 4, 2) := by decide +kernel
theorem d7_140 : decode prog_107_method_13_code 140 = .ok (.invokevirtual 105, 3) := by decide +kernel
theorem d7_143 : decode prog_107_method_13_code 143 = .ok (.iastore, 1) := by decide +kernel
theorem d7_144 : decode prog_107_method_13_code 144 = .ok (.aload_n 0, 1) := by decide +kernel
theorem d7_145 : decode prog_107_method_13_code 145 = .ok (.iload_n 1, 1) := by decide +kernel
theorem d7_146 : decode prog_107_method_13_code 146 = .ok (.invokevirtual 102, 3) := by decide +kernel
theorem d7_149 : decode prog_107_method_13_code 149 = .ok (.istore_n 3, 1) := by decide +kernel
theorem ef_7 (m : MethodId) (aa : Addr) : entryFrame m #[(.ref aa), (.int (Int32.ofNat i))] 5 = mkF m 0 #[.val (.ref aa), .val (.int (Int32.ofNat i)), .unset, .unset, .unset] [] := by first | (simp [entryFrame, mkF, argsToLocals, Value.category]; done) | rfl
def Q7 (Z : State) (aa : Addr) (ae : Addr) (ap : Addr) (aS : Addr) (ah : Addr) (al : Addr) (ar : Addr) (S : own_S) (rt : Nat) (md : Nat) (i : Nat) (B : Nat) (h0 : Heap) (n0 : Nat) (v : Option Value) (h : Heap) (L : List Loc) : Prop := v = some (.int (Int32.ofNat (own_bal S i).2)) ∧ Fr n0 L ∧ Keep h0 h [aa, ae, ap, aS, ah, al, ar] ∧ TR Z h aa ae ap aS ah al ar (own_bal S i).1 rt md
set_option maxRecDepth 65536 in
set_option maxHeartbeats 40000000 in
theorem rm7 (l : Launch) (Z : State) (a0 : Array Value) (hw : ∀ d ∈ tables_1, d.before a0 Z = true) (ws : List Jvm.Cond) (aa : Addr) (ae : Addr) (ap : Addr) (aS : Addr) (ah : Addr) (al : Addr) (ar : Addr) (S : own_S) (rt : Nat) (md : Nat) (i : Nat) (B : Nat) (h0 : Heap) (n0 : Nat) (Z0 : n0 ≤ h0.size) (g_aa : n0 ≤ aa) (g_ae : n0 ≤ ae) (g_ap : n0 ≤ ap) (g_aS : n0 ≤ aS) (g_ah : n0 ≤ ah) (g_al : n0 ≤ al) (g_ar : n0 ≤ ar) (hD : own_D aa ae ap aS ah al ar) (hTR : TR Z h0 aa ae ap aS ah al ar S rt md) (hi : i < 16) (hok : own_ok B S) (hB : B + 5 < 1000000) :
    MetFree l (⟨"com/example/berthline/berthline/engine/replay/EstimatedEnds", "balance", "(I)I"⟩ : MethodName) (head1 (Jvm.Cond.code (⟨"com/example/berthline/berthline/engine/replay/EstimatedEnds", "balance", "(I)I"⟩ : MethodName) prog_107_method_13_code 5 (some .int) :: ws) ({ frames := 3, cells := 0, slots := 0, locals := 47 } : Room)) (fun a U => a = #[(.ref aa), (.int (Int32.ofNat i))] ∧ Z.Warmed39 U.vm ∧ U.heap = h0) (fun _ _ _ _ _ => True) (fun _ U o U' => ∃ v L, o = .returned v ∧ Q7 Z aa ae ap aS ah al ar S rt md i B h0 n0 v U'.heap L ∧ FrameEnd U o U' L ({ frames := 3, cells := 0, slots := 0, locals := 47 } : Room).cells ({ frames := 3, cells := 0, slots := 0, locals := 47 } : Room).slots) := by
  refine MetFree.of_bodySF (plainFor_of_name pn_com_example_berthline_berthline_engine_replay_EstimatedEnds) hisR ?_
  intro p e s m args below meth c s₁ Bd hml0 hP hK
  obtain ⟨rfl, hZ, hh⟩ := hP
  have hx := Bd.exec
  have hby := Bd.bytes
  have hml : c.maxLocals = 5 := hml0
  have hown : s.vm.findClass "com/example/berthline/berthline/engine/replay/EstimatedEnds" = some m.cls := findClass_of_methodNamed Bd.named
  have hnm := (name_of_methodNamed Bd.named Bd.method).1
  have X0 : Stand p l e ({ frames := 3, cells := 0, slots := 0, locals := 47 } : Room) s m #[(.ref aa), (.int (Int32.ofNat i))] below meth c s₁ [] 0 0 := Stand.of_body Bd
  have e0 : s₁.heap = h0 := by rw [← hh, Bd.state]; rfl
  have N0 := Fr.nil n0
  have pre0 : ∀ t, Steps p.tables e below (s₁.setTop (mkF m 0 #[.val (.ref aa), .val (.int (Int32.ofNat i)), .unset, .unset, .unset] [])) t → Steps p.tables e below (s₁.setTop (entryFrame m #[(.ref aa), (.int (Int32.ofNat i))] 5)) t := fun t k => castTop (ef_7 m aa) k
  obtain ⟨dd367_0, dd367_1, dd367_2, dd367_3, dd367_4, dd367_5, dd367_6, dd367_7, dd367_8, dd367_9, dd367_10, dd367_11, dd367_12, dd367_13, dd367_14, dd367_15, dd367_16, dd367_17, dd367_18, dd367_19, dd367_20⟩ := id hD
  obtain ⟨t368_0, t368_1, t368_2, t368_3, t368_4, t368_5, t368_6, t368_7, t368_8, t368_9, t368_10, t368_11, t368_12, t368_13, t368_14, t368_15⟩ := hTR
  obtain ⟨cq369, q369, q369'⟩ := t368_0.cell
  obtain ⟨_, _, ⟨T369, L369, k369, n369⟩, -, X369, ⟨Lc369, hQ369, l369, y369, z369⟩, st369⟩ := X0.privateBack hx (y := (⟨"com/example/berthline/berthline/engine/replay/EstimatedEnds", "update", "(I)V"⟩ : MethodName)) hown (mvT hZ (hw _ (List.mem_of_getElem? (i := 51) rfl))) (mvT hZ (hw _ (List.mem_of_getElem? (i := 52) rfl))) (own_selects hZ (hw _ (List.mem_of_getElem? (i := 1) rfl)) (hw _ (List.mem_of_getElem? (i := 53) rfl)) (hw _ (List.mem_of_getElem? (i := 52) rfl)) (by decide)) (Cond.privateMethod_at (mvP hZ (hw _ (List.mem_of_getElem? (i := 53) rfl)) (args := #[]))) (mvT hZ (hw _ (List.mem_of_getElem? (i := 54) rfl))) (by decide) (backOf (W := 0) (rm8 l Z a0 hw [] aa ae ap aS ah al ar S rt md i B h0 n0 Z0 g_aa g_ae g_ap g_aS g_ah g_al g_ar hD (TR.mk (S := S) t368_0 t368_1 t368_2 t368_3 t368_4 t368_5 t368_6 t368_7 t368_8 t368_9 t368_10 t368_11 t368_12 t368_13 t368_14 t368_15) hi hok (by omega)) hZ (hw _ (List.mem_of_getElem? (i := 54) rfl)) (hw _ (List.mem_of_getElem? (i := 2) rfl)) (by decide) (by decide)) (g := (mkF m 2 #[.val (.ref aa), .val (.int (Int32.ofNat i)), .unset, .unset, .unset] [(.int (Int32.ofNat i)), (.ref aa)])) rfl (by rw [hml]; rfl) (Steps.refl _) (a := aa) (by rw [e0]; exact q369) q369' (argsL := [(.int (Int32.ofNat i))]) (rest := []) (lenOf pd_603724 rfl) rfl (by show 2 * 0 + _ ≤ _; exact Nat.le_of_eq rfl) (hb hby d7_2) (fun _ _ => ⟨rfl, e0, (by decide : 0 + 0 ≤ _), (by decide : 0 + 0 ≤ _)⟩)
  dsimp only [Pt.U, Pt.locs, Pt.cells, Pt.slots] at X369 l369 y369 z369 st369 hQ369
  subst l369 y369 z369
  obtain ⟨rfl, N369q, K369c, G369_0⟩ := hQ369
  have N369 := Fr.app N0 N369q
  have E_370 := t368_0.keep K369c
  have Z369 : n0 ≤ T369.heap.size := Nat.le_trans Z0 K369c.1
  have K369 : Keep h0 T369.heap [aa, ae, ap, aS, ah, al, ar] := (Keep.refl h0 [aa, ae, ap, aS, ah, al, ar]).trans K369c (allS (P := fun x => x ∈ [aa, ae, ap, aS, ah, al, ar] ∨ h0.size ≤ x) (Or.inl (List.mem_of_getElem? (i := 0) rfl)) (allS (P := fun x => x ∈ [aa, ae, ap, aS, ah, al, ar] ∨ h0.size ≤ x) (Or.inl (List.mem_of_getElem? (i := 1) rfl)) (allS (P := fun x => x ∈ [aa, ae, ap, aS, ah, al, ar] ∨ h0.size ≤ x) (Or.inl (List.mem_of_getElem? (i := 2) rfl)) (allS (P := fun x => x ∈ [aa, ae, ap, aS, ah, al, ar] ∨ h0.size ≤ x) (Or.inl (List.mem_of_getElem? (i := 3) rfl)) (allS (P := fun x => x ∈ [aa, ae, ap, aS, ah, al, ar] ∨ h0.size ≤ x) (Or.inl (List.mem_of_getElem? (i := 4) rfl)) (allS (P := fun x => x ∈ [aa, ae, ap, aS, ah, al, ar] ∨ h0.size ≤ x) (Or.inl (List.mem_of_getElem? (i := 5) rfl)) (allS (P := fun x => x ∈ [aa, ae, ap, aS, ah, al, ar] ∨ h0.size ≤ x) (Or.inl (List.mem_of_getElem? (i := 6) rfl)) all0)))))))
  obtain ⟨t371_0, t371_1, t371_2, t371_3, t371_4, t371_5, t371_6, t371_7, t371_8, t371_9, t371_10, t371_11, t371_12, t371_13, t371_14, t371_15⟩ := G369_0
  have hok1 := own_ok_update hok i
  obtain ⟨U, hU⟩ : ∃ z, z = (own_update S i) := ⟨_, rfl⟩
  rw [← hU] at t371_10 t371_11 t371_12 t371_13 t371_14 t371_15 hok1
  obtain ⟨T372, X372, e372, st372⟩ := getF X369 hx hZ hown (host := "") (Or.inl (hw _ (List.mem_of_getElem? (i := 17) rfl))) Via.refl rfl t371_4 (g := (mkF m 6 #[.val (.ref aa), .val (.int (Int32.ofNat i)), .unset, .unset, .unset] [(.ref aa)])) rfl rfl (hb hby d7_6)
  obtain ⟨T373, X373, e373, st373⟩ := getF X372 hx hZ hown (host := "") (Or.inl (hw _ (List.mem_of_getElem? (i := 19) rfl))) Via.refl e372 t371_5 (g := (mkF m 10 #[.val (.ref aa), .val (.int (Int32.ofNat i)), .unset, .unset, .unset] [(.ref aa), (.ref ah)])) rfl rfl (hb hby d7_10)
  obtain ⟨T374, X374, e374, st374⟩ := getF X373 hx hZ hown (host := "") (Or.inl (hw _ (List.mem_of_getElem? (i := 17) rfl))) Via.refl e373 t371_4 (g := (mkF m 17 #[.val (.ref aa), .val (.int (Int32.ofNat i)), .unset, .unset, .unset] [(.ref aa), (.int (Int32.ofNat ((own_h U) ((own_l U) i))))])) rfl rfl (hb hby d7_17)
  obtain ⟨T375, X375, e375, st375⟩ := getF X374 hx hZ hown (host := "") (Or.inl (hw _ (List.mem_of_getElem? (i := 21) rfl))) Via.refl e374 t371_6 (g := (mkF m 21 #[.val (.ref aa), .val (.int (Int32.ofNat i)), .unset, .unset, .unset] [(.ref aa), (.ref ah), (.int (Int32.ofNat ((own_h U) ((own_l U) i))))])) rfl rfl (hb hby d7_21)
  by_cases hc376 : (1 : Int32) < ((Int32.ofNat ((own_h U) ((own_l U) i))) - (Int32.ofNat ((own_h U) ((own_r U) i))))
  · obtain ⟨T377, X377, e377, st377⟩ := getF X375 hx hZ hown (host := "") (Or.inl (hw _ (List.mem_of_getElem? (i := 19) rfl))) Via.refl e375 t371_5 (g := (mkF m 37 #[.val (.ref aa), .val (.int (Int32.ofNat i)), .val (.int ((Int32.ofNat ((own_h U) ((own_l U) i))) - (Int32.ofNat ((own_h U) ((own_r U) i))))), .val (.int (Int32.ofNat i)), .unset] [(.ref aa)])) rfl rfl (hb hby d7_37)
    obtain ⟨T378, X378, e378, st378⟩ := getF X377 hx hZ hown (host := "") (Or.inl (hw _ (List.mem_of_getElem? (i := 17) rfl))) Via.refl e377 t371_4 (g := (mkF m 45 #[.val (.ref aa), .val (.int (Int32.ofNat i)), .val (.int ((Int32.ofNat ((own_h U) ((own_l U) i))) - (Int32.ofNat ((own_h U) ((own_r U) i))))), .val (.int (Int32.ofNat i)), .val (.int (Int32.ofNat ((own_l U) i)))] [(.ref aa)])) rfl rfl (hb hby d7_45)
    obtain ⟨T379, X379, e379, st379⟩ := getF X378 hx hZ hown (host := "") (Or.inl (hw _ (List.mem_of_getElem? (i := 19) rfl))) Via.refl e378 t371_5 (g := (mkF m 49 #[.val (.ref aa), .val (.int (Int32.ofNat i)), .val (.int ((Int32.ofNat ((own_h U) ((own_l U) i))) - (Int32.ofNat ((own_h U) ((own_r U) i))))), .val (.int (Int32.ofNat i)), .val (.int (Int32.ofNat ((own_l U) i)))] [(.ref aa), (.ref ah)])) rfl rfl (hb hby d7_49)
    obtain ⟨T380, X380, e380, st380⟩ := getF X379 hx hZ hown (host := "") (Or.inl (hw _ (List.mem_of_getElem? (i := 17) rfl))) Via.refl e379 t371_4 (g := (mkF m 57 #[.val (.ref aa), .val (.int (Int32.ofNat i)), .val (.int ((Int32.ofNat ((own_h U) ((own_l U) i))) - (Int32.ofNat ((own_h U) ((own_r U) i))))), .val (.int (Int32.ofNat i)), .val (.int (Int32.ofNat ((own_l U) i)))] [(.ref aa), (.int (Int32.ofNat ((own_h U) ((own_l U) ((own_l U) i)))))])) rfl rfl (hb hby d7_57)
    obtain ⟨T381, X381, e381, st381⟩ := getF X380 hx hZ hown (host := "") (Or.inl (hw _ (List.mem_of_getElem? (i := 21) rfl))) Via.refl e380 t371_6 (g := (mkF m 61 #[.val (.ref aa), .val (.int (Int32.ofNat i)), .val (.int ((Int32.ofNat ((own_h U) ((own_l U) i))) - (Int32.ofNat ((own_h U) ((own_r U) i))))), .val (.int (Int32.ofNat i)), .val (.int (Int32.ofNat ((own_l U) i)))] [(.ref aa), (.ref ah), (.int (Int32.ofNat ((own_h U) ((own_l U) ((own_l U) i)))))])) rfl rfl (hb hby d7_61)
    by_cases hc382 : (Int32.ofNat ((own_h U) ((own_l U) ((own_l U) i)))) < (Int32.ofNat ((own_h U) ((own_r U) ((own_l U) i))))
    · obtain ⟨T383, X383, e383, st383⟩ := getF X381 hx hZ hown (host := "") (Or.inl (hw _ (List.mem_of_getElem? (i := 19) rfl))) Via.refl e381 t371_5 (g := (mkF m 72 #[.val (.ref aa), .val (.int (Int32.ofNat i)), .val (.int ((Int32.ofNat ((own_h U) ((own_l U) i))) - (Int32.ofNat ((own_h U) ((own_r U) i))))), .val (.int (Int32.ofNat i)), .val (.int (Int32.ofNat ((own_l U) i)))] [(.ref aa)])) rfl rfl (hb hby d7_72)
      obtain ⟨cq384, q384, q384'⟩ := t371_0.cell
      obtain ⟨_, _, ⟨T384, L384, k384, n384⟩, -, X384, ⟨Lc384, hQ384, l384, y384, z384⟩, st384⟩ := X383.privateBack hx (y := (⟨"com/example/berthline/berthline/engine/replay/EstimatedEnds", "rotateLeft", "(I)I"⟩ : MethodName)) hown (mvT hZ (hw _ (List.mem_of_getElem? (i := 67) rfl))) (mvT hZ (hw _ (List.mem_of_getElem? (i := 68) rfl))) (own_selects hZ (hw _ (List.mem_of_getElem? (i := 1) rfl)) (hw _ (List.mem_of_getElem? (i := 69) rfl)) (hw _ (List.mem_of_getElem? (i := 68) rfl)) (by decide)) (Cond.privateMethod_at (mvP hZ (hw _ (List.mem_of_getElem? (i := 69) rfl)) (args := #[]))) (mvT hZ (hw _ (List.mem_of_getElem? (i := 70) rfl))) (by decide) (backOf (W := 2) (rm12 l Z a0 hw [] aa ae ap aS ah al ar U rt md ((own_l U) i) (B + 1) T369.heap n0 Z369 g_aa g_ae g_ap g_aS g_ah g_al g_ar hD (TR.mk (S := U) t371_0 t371_1 t371_2 t371_3 t371_4 t371_5 t371_6 t371_7 t371_8 t371_9 t371_10 t371_11 t371_12 t371_13 t371_14 t371_15) (hok1.1 _) hok1 (by omega)) hZ (hw _ (List.mem_of_getElem? (i := 70) rfl)) (hw _ (List.mem_of_getElem? (i := 2) rfl)) (by decide) (by decide)) (g := (mkF m 79 #[.val (.ref aa), .val (.int (Int32.ofNat i)), .val (.int ((Int32.ofNat ((own_h U) ((own_l U) i))) - (Int32.ofNat ((own_h U) ((own_r U) i))))), .val (.int (Int32.ofNat i)), .val (.int (Int32.ofNat ((own_l U) i)))] [(.int (Int32.ofNat ((own_l U) i))), (.ref aa), (.int (Int32.ofNat i)), (.ref al)])) rfl (by rw [hml]; rfl) (Steps.refl _) (a := aa) (by rw [e383]; exact q384) q384' (argsL := [(.int (Int32.ofNat ((own_l U) i)))]) (rest := [(.int (Int32.ofNat i)), (.ref al)]) (lenOf pd_216441 rfl) rfl (by show 2 * 0 + _ ≤ _; exact Nat.le_of_eq rfl) (hb hby d7_79) (fun _ _ => ⟨rfl, e383, (by decide : 0 + 0 ≤ _), (by decide : 0 + 0 ≤ _)⟩)
      dsimp only [Pt.U, Pt.locs, Pt.cells, Pt.slots] at X384 l384 y384 z384 st384 hQ384
      subst l384 y384 z384
      obtain ⟨rfl, N384q, K384c, G384_0⟩ := hQ384
      have N384 := Fr.app N369 N384q
      have E_385 := t371_0.keep K384c
      have Z384 : n0 ≤ T384.heap.size := Nat.le_trans Z369 K384c.1
      have K384 : Keep h0 T384.heap [aa, ae, ap, aS, ah, al, ar] := K369.trans K384c (allS (P := fun x => x ∈ [aa, ae, ap, aS, ah, al, ar] ∨ h0.size ≤ x) (Or.inl (List.mem_of_getElem? (i := 0) rfl)) (allS (P := fun x => x ∈ [aa, ae, ap, aS, ah, al, ar] ∨ h0.size ≤ x) (Or.inl (List.mem_of_getElem? (i := 1) rfl)) (allS (P := fun x => x ∈ [aa, ae, ap, aS, ah, al, ar] ∨ h0.size ≤ x) (Or.inl (List.mem_of_getElem? (i := 2) rfl)) (allS (P := fun x => x ∈ [aa, ae, ap, aS, ah, al, ar] ∨ h0.size ≤ x) (Or.inl (List.mem_of_getElem? (i := 3) rfl)) (allS (P := fun x => x ∈ [aa, ae, ap, aS, ah, al, ar] ∨ h0.size ≤ x) (Or.inl (List.mem_of_getElem? (i := 4) rfl)) (allS (P := fun x => x ∈ [aa, ae, ap, aS, ah, al, ar] ∨ h0.size ≤ x) (Or.inl (List.mem_of_getElem? (i := 5) rfl)) (allS (P := fun x => x ∈ [aa, ae, ap, aS, ah, al, ar] ∨ h0.size ≤ x) (Or.inl (List.mem_of_getElem? (i := 6) rfl)) all0)))))))
      obtain ⟨t386_0, t386_1, t386_2, t386_3, t386_4, t386_5, t386_6, t386_7, t386_8, t386_9, t386_10, t386_11, t386_12, t386_13, t386_14, t386_15⟩ := G384_0
      obtain ⟨T387, h387, X387, e387, W387, V387, st387⟩ := IA.store X384 hx hZ rfl t386_14 i (own_cl hi (by decide)) (own_nn hi (by decide)) hi (x := (own_r U ((own_l U) i))) (g := (mkF m 82 #[.val (.ref aa), .val (.int (Int32.ofNat i)), .val (.int ((Int32.ofNat ((own_h U) ((own_l U) i))) - (Int32.ofNat ((own_h U) ((own_r U) i))))), .val (.int (Int32.ofNat i)), .val (.int (Int32.ofNat ((own_l U) i)))] [(.int (Int32.ofNat (own_r U ((own_l U) i)))), (.int (Int32.ofNat i)), (.ref al)])) rfl rfl (hb hby d7_82)
      have E_388 := t386_0.wr W387
      have F_389 := t386_1.other W387 (Or.inl dd367_4)
      have F_390 := t386_2.other W387 (Or.inl dd367_4)
      have F_391 := t386_3.other W387 (Or.inl dd367_4)
      have F_392 := t386_4.other W387 (Or.inl dd367_4)
      have F_393 := t386_5.other W387 (Or.inl dd367_4)
      have F_394 := t386_6.other W387 (Or.inl dd367_4)
      have F_395 := t386_7.other W387 (Or.inl dd367_4)
      have F_396 := t386_8.other W387 (Or.inl dd367_4)
      have F_397 := t386_9.other W387 (Or.inl dd367_4)
      have V_398 := t386_10.other W387 dd367_9
      have V_399 := t386_11.other W387 dd367_13
      have V_400 := t386_12.other W387 dd367_16
      have V_401 := t386_13.other W387 dd367_18
      have V_402 := t386_15.other W387 (Ne.symm dd367_20)
      have N387 := Fr.snoc X387 N384 g_al
      have Z387 : n0 ≤ h387.size := Nat.le_trans Z384 (Keep.of_wr W387).1
      have K387 : Keep h0 h387 [aa, ae, ap, aS, ah, al, ar] := K384.wr W387 (Or.inl (List.mem_of_getElem? (i := 5) rfl))
      obtain ⟨cq403, q403, q403'⟩ := E_388.cell
      obtain ⟨_, _, ⟨T403, L403, k403, n403⟩, -, X403, ⟨Lc403, hQ403, l403, y403, z403⟩, st403⟩ := X387.privateBack hx (y := (⟨"com/example/berthline/berthline/engine/replay/EstimatedEnds", "rotateRight", "(I)I"⟩ : MethodName)) hown (mvT hZ (hw _ (List.mem_of_getElem? (i := 59) rfl))) (mvT hZ (hw _ (List.mem_of_getElem? (i := 60) rfl))) (own_selects hZ (hw _ (List.mem_of_getElem? (i := 1) rfl)) (hw _ (List.mem_of_getElem? (i := 61) rfl)) (hw _ (List.mem_of_getElem? (i := 60) rfl)) (by decide)) (Cond.privateMethod_at (mvP hZ (hw _ (List.mem_of_getElem? (i := 61) rfl)) (args := #[]))) (mvT hZ (hw _ (List.mem_of_getElem? (i := 62) rfl))) (by decide) (backOf (W := 0) (rm10 l Z a0 hw [] aa ae ap aS ah al ar (own_setL (own_rotL U ((own_l U) i)) i (own_r U ((own_l U) i))) rt md i (B + 1 + 2) h387 n0 Z387 g_aa g_ae g_ap g_aS g_ah g_al g_ar hD (TR.mk (S := (own_setL (own_rotL U ((own_l U) i)) i (own_r U ((own_l U) i)))) E_388 F_389 F_390 F_391 F_392 F_393 F_394 F_395 F_396 F_397 V_398 V_399 V_400 V_401 V387 V_402) hi (own_ok_setL (own_ok_rotL hok1 (hok1.1 i)) (hok1.2.1 _)) (by omega)) hZ (hw _ (List.mem_of_getElem? (i := 62) rfl)) (hw _ (List.mem_of_getElem? (i := 2) rfl)) (by decide) (by decide)) (g := (mkF m 85 #[.val (.ref aa), .val (.int (Int32.ofNat i)), .val (.int ((Int32.ofNat ((own_h U) ((own_l U) i))) - (Int32.ofNat ((own_h U) ((own_r U) i))))), .val (.int (Int32.ofNat i)), .val (.int (Int32.ofNat ((own_l U) i)))] [(.int (Int32.ofNat i)), (.ref aa)])) rfl (by rw [hml]; rfl) (Steps.refl _) (a := aa) (by rw [e387]; exact q403) q403' (argsL := [(.int (Int32.ofNat i))]) (rest := []) (lenOf pd_216441 rfl) rfl (by show 2 * 0 + _ ≤ _; exact Nat.le_of_eq rfl) (hb hby d7_85) (fun _ _ => ⟨rfl, e387, (by decide : 0 + 0 ≤ _), (by decide : 0 + 0 ≤ _)⟩)
      dsimp only [Pt.U, Pt.locs, Pt.cells, Pt.slots] at X403 l403 y403 z403 st403 hQ403
      subst l403 y403 z403
      obtain ⟨rfl, N403q, K403c, G403_0⟩ := hQ403
      have N403 := Fr.app N387 N403q
      have E_404 := E_388.keep K403c
      have Z403 : n0 ≤ T403.heap.size := Nat.le_trans Z387 K403c.1
      have K403 : Keep h0 T403.heap [aa, ae, ap, aS, ah, al, ar] := K387.trans K403c (allS (P := fun x => x ∈ [aa, ae, ap, aS, ah, al, ar] ∨ h0.size ≤ x) (Or.inl (List.mem_of_getElem? (i := 0) rfl)) (allS (P := fun x => x ∈ [aa, ae, ap, aS, ah, al, ar] ∨ h0.size ≤ x) (Or.inl (List.mem_of_getElem? (i := 1) rfl)) (allS (P := fun x => x ∈ [aa, ae, ap, aS, ah, al, ar] ∨ h0.size ≤ x) (Or.inl (List.mem_of_getElem? (i := 2) rfl)) (allS (P := fun x => x ∈ [aa, ae, ap, aS, ah, al, ar] ∨ h0.size ≤ x) (Or.inl (List.mem_of_getElem? (i := 3) rfl)) (allS (P := fun x => x ∈ [aa, ae, ap, aS, ah, al, ar] ∨ h0.size ≤ x) (Or.inl (List.mem_of_getElem? (i := 4) rfl)) (allS (P := fun x => x ∈ [aa, ae, ap, aS, ah, al, ar] ∨ h0.size ≤ x) (Or.inl (List.mem_of_getElem? (i := 5) rfl)) (allS (P := fun x => x ∈ [aa, ae, ap, aS, ah, al, ar] ∨ h0.size ≤ x) (Or.inl (List.mem_of_getElem? (i := 6) rfl)) all0)))))))
      obtain ⟨t405_0, t405_1, t405_2, t405_3, t405_4, t405_5, t405_6, t405_7, t405_8, t405_9, t405_10, t405_11, t405_12, t405_13, t405_14, t405_15⟩ := G403_0
      have hbq : own_bal S i = ((own_rotR (own_setL (own_rotL U ((own_l U) i)) i (own_r U ((own_l U) i))) i), (own_l (own_setL (own_rotL U ((own_l U) i)) i (own_r U ((own_l U) i))) i)) := by unfold own_bal; rw [← hU]; unfold own_balU; rw [if_pos hc376, if_pos hc382]
      obtain ⟨fs, hr, hrun, hended, hW, hsame⟩ := X403.leave (v := some (.int (Int32.ofNat (own_l (own_setL (own_rotL U ((own_l U) i)) i (own_r U ((own_l U) i))) i)))) (fun h => by rw [Bd.returns] at h; cases h)
      refine ⟨_, _, pre0 _ ?_, hrun, hended, _, _, rfl, ?_, ⟨_, rfl⟩, hW, hsame.mono (by decide) (by decide)⟩
      · show Steps p.tables e below (s₁.setTop (mkF m 0 #[.val (.ref aa), .val (.int (Int32.ofNat i)), .unset, .unset, .unset] [])) _
        refine XS.aloadN X0.here hx rfl (hb hby d7_0) rfl rfl ?_
        show Steps p.tables e below (s₁.setTop (mkF m 1 #[.val (.ref aa), .val (.int (Int32.ofNat i)), .unset, .unset, .unset] [(.ref aa)])) _
        refine XS.iloadN X0.here hx rfl (hb hby d7_1) rfl ?_
        show Steps p.tables e below (s₁.setTop (mkF m 2 #[.val (.ref aa), .val (.int (Int32.ofNat i)), .unset, .unset, .unset] [(.int (Int32.ofNat i)), (.ref aa)])) _
        refine st369.trans ?_
        show Steps p.tables e below (T369.setTop (mkF m 5 #[.val (.ref aa), .val (.int (Int32.ofNat i)), .unset, .unset, .unset] [])) _
        refine XS.aloadN X369.here hx rfl (hb hby d7_5) rfl rfl ?_
        show Steps p.tables e below (T369.setTop (mkF m 6 #[.val (.ref aa), .val (.int (Int32.ofNat i)), .unset, .unset, .unset] [(.ref aa)])) _
        refine st372 _ ?_
        show Steps p.tables e below (T372.setTop (mkF m 9 #[.val (.ref aa), .val (.int (Int32.ofNat i)), .unset, .unset, .unset] [(.ref ah)])) _
        refine XS.aloadN X372.here hx rfl (hb hby d7_9) rfl rfl ?_
        show Steps p.tables e below (T372.setTop (mkF m 10 #[.val (.ref aa), .val (.int (Int32.ofNat i)), .unset, .unset, .unset] [(.ref aa), (.ref ah)])) _
        refine st373 _ ?_
        show Steps p.tables e below (T373.setTop (mkF m 13 #[.val (.ref aa), .val (.int (Int32.ofNat i)), .unset, .unset, .unset] [(.ref al), (.ref ah)])) _
        refine XS.iloadN X373.here hx rfl (hb hby d7_13) rfl ?_
        show Steps p.tables e below (T373.setTop (mkF m 14 #[.val (.ref aa), .val (.int (Int32.ofNat i)), .unset, .unset, .unset] [(.int (Int32.ofNat i)), (.ref al), (.ref ah)])) _
        refine IA.load X373 hx hZ e373 t371_14 i (own_cl hi (by decide)) (own_nn hi (by decide)) hi (g := (mkF m 14 #[.val (.ref aa), .val (.int (Int32.ofNat i)), .unset, .unset, .unset] [(.int (Int32.ofNat i)), (.ref al), (.ref ah)])) rfl rfl (hb hby d7_14) _ ?_
        show Steps p.tables e below (T373.setTop (mkF m 15 #[.val (.ref aa), .val (.int (Int32.ofNat i)), .unset, .unset, .unset] [(.int (Int32.ofNat ((own_l U) i))), (.ref ah)])) _
        refine IA.load X373 hx hZ e373 t371_13 ((own_l U) i) (own_cl (by first | assumption | exact hok1.1 _ | exact hok1.2.1 _ | exact hok.1 _ | exact hok.2.1 _ | omega) (by decide)) (own_nn (by first | assumption | exact hok1.1 _ | exact hok1.2.1 _ | exact hok.1 _ | exact hok.2.1 _ | omega) (by decide)) (by first | assumption | exact hok1.1 _ | exact hok1.2.1 _ | exact hok.1 _ | exact hok.2.1 _ | omega) (g := (mkF m 15 #[.val (.ref aa), .val (.int (Int32.ofNat i)), .unset, .unset, .unset] [(.int (Int32.ofNat ((own_l U) i))), (.ref ah)])) rfl rfl (hb hby d7_15) _ ?_
        show Steps p.tables e below (T373.setTop (mkF m 16 #[.val (.ref aa), .val (.int (Int32.ofNat i)), .unset, .unset, .unset] [(.int (Int32.ofNat ((own_h U) ((own_l U) i))))])) _
        refine XS.aloadN X373.here hx rfl (hb hby d7_16) rfl rfl ?_
        show Steps p.tables e below (T373.setTop (mkF m 17 #[.val (.ref aa), .val (.int (Int32.ofNat i)), .unset, .unset, .unset] [(.ref aa), (.int (Int32.ofNat ((own_h U) ((own_l U) i))))])) _
        refine st374 _ ?_
        show Steps p.tables e below (T374.setTop (mkF m 20 #[.val (.ref aa), .val (.int (Int32.ofNat i)), .unset, .unset, .unset] [(.ref ah), (.int (Int32.ofNat ((own_h U) ((own_l U) i))))])) _
        refine XS.aloadN X374.here hx rfl (hb hby d7_20) rfl rfl ?_
        show Steps p.tables e below (T374.setTop (mkF m 21 #[.val (.ref aa), .val (.int (Int32.ofNat i)), .unset, .unset, .unset] [(.ref aa), (.ref ah), (.int (Int32.ofNat ((own_h U) ((own_l U) i))))])) _
        refine st375 _ ?_
        show Steps p.tables e below (T375.setTop (mkF m 24 #[.val (.ref aa), .val (.int (Int32.ofNat i)), .unset, .unset, .unset] [(.ref ar), (.ref ah), (.int (Int32.ofNat ((own_h U) ((own_l U) i))))])) _
        refine XS.iloadN X375.here hx rfl (hb hby d7_24) rfl ?_
        show Steps p.tables e below (T375.setTop (mkF m 25 #[.val (.ref aa), .val (.int (Int32.ofNat i)), .unset, .unset, .unset] [(.int (Int32.ofNat i)), (.ref ar), (.ref ah), (.int (Int32.ofNat ((own_h U) ((own_l U) i))))])) _
        refine IA.load X375 hx hZ e375 t371_15 i (own_cl hi (by decide)) (own_nn hi (by decide)) hi (g := (mkF m 25 #[.val (.ref aa), .val (.int (Int32.ofNat i)), .unset, .unset, .unset] [(.int (Int32.ofNat i)), (.ref ar), (.ref ah), (.int (Int32.ofNat ((own_h U) ((own_l U) i))))])) rfl rfl (hb hby d7_25) _ ?_
        show Steps p.tables e below (T375.setTop (mkF m 26 #[.val (.ref aa), .val (.int (Int32.ofNat i)), .unset, .unset, .unset] [(.int (Int32.ofNat ((own_r U) i))), (.ref ah), (.int (Int32.ofNat ((own_h U) ((own_l U) i))))])) _
        refine IA.load X375 hx hZ e375 t371_13 ((own_r U) i) (own_cl (by first | assumption | exact hok1.1 _ | exact hok1.2.1 _ | exact hok.1 _ | exact hok.2.1 _ | omega) (by decide)) (own_nn (by first | assumption | exact hok1.1 _ | exact hok1.2.1 _ | exact hok.1 _ | exact hok.2.1 _ | omega) (by decide)) (by first | assumption | exact hok1.1 _ | exact hok1.2.1 _ | exact hok.1 _ | exact hok.2.1 _ | omega) (g := (mkF m 26 #[.val (.ref aa), .val (.int (Int32.ofNat i)), .unset, .unset, .unset] [(.int (Int32.ofNat ((own_r U) i))), (.ref ah), (.int (Int32.ofNat ((own_h U) ((own_l U) i))))])) rfl rfl (hb hby d7_26) _ ?_
        show Steps p.tables e below (T375.setTop (mkF m 27 #[.val (.ref aa), .val (.int (Int32.ofNat i)), .unset, .unset, .unset] [(.int (Int32.ofNat ((own_h U) ((own_r U) i)))), (.int (Int32.ofNat ((own_h U) ((own_l U) i))))])) _
        refine XS.isub X375.here hx rfl (hb hby d7_27) rfl ?_
        show Steps p.tables e below (T375.setTop (mkF m 28 #[.val (.ref aa), .val (.int (Int32.ofNat i)), .unset, .unset, .unset] [(.int ((Int32.ofNat ((own_h U) ((own_l U) i))) - (Int32.ofNat ((own_h U) ((own_r U) i)))))])) _
        refine XS.istoreN X375.here hx rfl (hb hby d7_28) rfl (l' := #[.val (.ref aa), .val (.int (Int32.ofNat i)), .val (.int ((Int32.ofNat ((own_h U) ((own_l U) i))) - (Int32.ofNat ((own_h U) ((own_r U) i))))), .unset, .unset]) rfl ?_
        show Steps p.tables e below (T375.setTop (mkF m 29 #[.val (.ref aa), .val (.int (Int32.ofNat i)), .val (.int ((Int32.ofNat ((own_h U) ((own_l U) i))) - (Int32.ofNat ((own_h U) ((own_r U) i))))), .unset, .unset] [])) _
        refine XS.iloadN X375.here hx rfl (hb hby d7_29) rfl ?_
        show Steps p.tables e below (T375.setTop (mkF m 30 #[.val (.ref aa), .val (.int (Int32.ofNat i)), .val (.int ((Int32.ofNat ((own_h U) ((own_l U) i))) - (Int32.ofNat ((own_h U) ((own_r U) i))))), .unset, .unset] [(.int (Int32.ofNat i))])) _
        refine XS.istoreN X375.here hx rfl (hb hby d7_30) rfl (l' := #[.val (.ref aa), .val (.int (Int32.ofNat i)), .val (.int ((Int32.ofNat ((own_h U) ((own_l U) i))) - (Int32.ofNat ((own_h U) ((own_r U) i))))), .val (.int (Int32.ofNat i)), .unset]) rfl ?_
        show Steps p.tables e below (T375.setTop (mkF m 31 #[.val (.ref aa), .val (.int (Int32.ofNat i)), .val (.int ((Int32.ofNat ((own_h U) ((own_l U) i))) - (Int32.ofNat ((own_h U) ((own_r U) i))))), .val (.int (Int32.ofNat i)), .unset] [])) _
        refine XS.iloadN X375.here hx rfl (hb hby d7_31) rfl ?_
        show Steps p.tables e below (T375.setTop (mkF m 32 #[.val (.ref aa), .val (.int (Int32.ofNat i)), .val (.int ((Int32.ofNat ((own_h U) ((own_l U) i))) - (Int32.ofNat ((own_h U) ((own_r U) i))))), .val (.int (Int32.ofNat i)), .unset] [(.int ((Int32.ofNat ((own_h U) ((own_l U) i))) - (Int32.ofNat ((own_h U) ((own_r U) i)))))])) _
        refine XS.iconst X375.here hx rfl (hb hby d7_32) ?_
        show Steps p.tables e below (T375.setTop (mkF m 33 #[.val (.ref aa), .val (.int (Int32.ofNat i)), .val (.int ((Int32.ofNat ((own_h U) ((own_l U) i))) - (Int32.ofNat ((own_h U) ((own_r U) i))))), .val (.int (Int32.ofNat i)), .unset] [(.int (1 : Int32)), (.int ((Int32.ofNat ((own_h U) ((own_l U) i))) - (Int32.ofNat ((own_h U) ((own_r U) i)))))])) _
        refine XS.icmpNo X375.here hx rfl (hb hby d7_33) rfl (tlt hc376).2.2.2 ?_
        show Steps p.tables e below (T375.setTop (mkF m 36 #[.val (.ref aa), .val (.int (Int32.ofNat i)), .val (.int ((Int32.ofNat ((own_h U) ((own_l U) i))) - (Int32.ofNat ((own_h U) ((own_r U) i))))), .val (.int (Int32.ofNat i)), .unset] [])) _
        refine XS.aloadN X375.here hx rfl (hb hby d7_36) rfl rfl ?_
        show Steps p.tables e below (T375.setTop (mkF m 37 #[.val (.ref aa), .val (.int (Int32.ofNat i)), .val (.int ((Int32.ofNat ((own_h U) ((own_l U) i))) - (Int32.ofNat ((own_h U) ((own_r U) i))))), .val (.int (Int32.ofNat i)), .unset] [(.ref aa)])) _
        refine st377 _ ?_
        show Steps p.tables e below (T377.setTop (mkF m 40 #[.val (.ref aa), .val (.int (Int32.ofNat i)), .val (.int ((Int32.ofNat ((own_h U) ((own_l U) i))) - (Int32.ofNat ((own_h U) ((own_r U) i))))), .val (.int (Int32.ofNat i)), .unset] [(.ref al)])) _
        refine XS.iloadN X377.here hx rfl (hb hby d7_40) rfl ?_
        show Steps p.tables e below (T377.setTop (mkF m 41 #[.val (.ref aa), .val (.int (Int32.ofNat i)), .val (.int ((Int32.ofNat ((own_h U) ((own_l U) i))) - (Int32.ofNat ((own_h U) ((own_r U) i))))), .val (.int (Int32.ofNat i)), .unset] [(.int (Int32.ofNat i)), (.ref al)])) _
        refine IA.load X377 hx hZ e377 t371_14 i (own_cl hi (by decide)) (own_nn hi (by decide)) hi (g := (mkF m 41 #[.val (.ref aa), .val (.int (Int32.ofNat i)), .val (.int ((Int32.ofNat ((own_h U) ((own_l U) i))) - (Int32.ofNat ((own_h U) ((own_r U) i))))), .val (.int (Int32.ofNat i)), .unset] [(.int (Int32.ofNat i)), (.ref al)])) rfl rfl (hb hby d7_41) _ ?_
        show Steps p.tables e below (T377.setTop (mkF m 42 #[.val (.ref aa), .val (.int (Int32.ofNat i)), .val (.int ((Int32.ofNat ((own_h U) ((own_l U) i))) - (Int32.ofNat ((own_h U) ((own_r U) i))))), .val (.int (Int32.ofNat i)), .unset] [(.int (Int32.ofNat ((own_l U) i)))])) _
        refine XS.istore X377.here hx rfl (hb hby d7_42) rfl (l' := #[.val (.ref aa), .val (.int (Int32.ofNat i)), .val (.int ((Int32.ofNat ((own_h U) ((own_l U) i))) - (Int32.ofNat ((own_h U) ((own_r U) i))))), .val (.int (Int32.ofNat i)), .val (.int (Int32.ofNat ((own_l U) i)))]) rfl ?_
        show Steps p.tables e below (T377.setTop (mkF m 44 #[.val (.ref aa), .val (.int (Int32.ofNat i)), .val (.int ((Int32.ofNat ((own_h U) ((own_l U) i))) - (Int32.ofNat ((own_h U) ((own_r U) i))))), .val (.int (Int32.ofNat i)), .val (.int (Int32.ofNat ((own_l U) i)))] [])) _
        refine XS.aloadN X377.here hx rfl (hb hby d7_44) rfl rfl ?_
        show Steps p.tables e below (T377.setTop (mkF m 45 #[.val (.ref aa), .val (.int (Int32.ofNat i)), .val (.int ((Int32.ofNat ((own_h U) ((own_l U) i))) - (Int32.ofNat ((own_h U) ((own_r U) i))))), .val (.int (Int32.ofNat i)), .val (.int (Int32.ofNat ((own_l U) i)))] [(.ref aa)])) _
        refine st378 _ ?_
        show Steps p.tables e below (T378.setTop (mkF m 48 #[.val (.ref aa), .val (.int (Int32.ofNat i)), .val (.int ((Int32.ofNat ((own_h U) ((own_l U) i))) - (Int32.ofNat ((own_h U) ((own_r U) i))))), .val (.int (Int32.ofNat i)), .val (.int (Int32.ofNat ((own_l U) i)))] [(.ref ah)])) _
        refine XS.aloadN X378.here hx rfl (hb hby d7_48) rfl rfl ?_
        show Steps p.tables e below (T378.setTop (mkF m 49 #[.val (.ref aa), .val (.int (Int32.ofNat i)), .val (.int ((Int32.ofNat ((own_h U) ((own_l U) i))) - (Int32.ofNat ((own_h U) ((own_r U) i))))), .val (.int (Int32.ofNat i)), .val (.int (Int32.ofNat ((own_l U) i)))] [(.ref aa), (.ref ah)])) _
        refine st379 _ ?_
        show Steps p.tables e below (T379.setTop (mkF m 52 #[.val (.ref aa), .val (.int (Int32.ofNat i)), .val (.int ((Int32.ofNat ((own_h U) ((own_l U) i))) - (Int32.ofNat ((own_h U) ((own_r U) i))))), .val (.int (Int32.ofNat i)), .val (.int (Int32.ofNat ((own_l U) i)))] [(.ref al), (.ref ah)])) _
        refine XS.iload X379.here hx rfl (hb hby d7_52) rfl ?_
        show Steps p.tables e below (T379.setTop (mkF m 54 #[.val (.ref aa), .val (.int (Int32.ofNat i)), .val (.int ((Int32.ofNat ((own_h U) ((own_l U) i))) - (Int32.ofNat ((own_h U) ((own_r U) i))))), .val (.int (Int32.ofNat i)), .val (.int (Int32.ofNat ((own_l U) i)))] [(.int (Int32.ofNat ((own_l U) i))), (.ref al), (.ref ah)])) _
        refine IA.load X379 hx hZ e379 t371_14 ((own_l U) i) (own_cl (by first | assumption | exact hok1.1 _ | exact hok1.2.1 _ | exact hok.1 _ | exact hok.2.1 _ | omega) (by decide)) (own_nn (by first | assumption | exact hok1.1 _ | exact hok1.2.1 _ | exact hok.1 _ | exact hok.2.1 _ | omega) (by decide)) (by first | assumption | exact hok1.1 _ | exact hok1.2.1 _ | exact hok.1 _ | exact hok.2.1 _ | omega) (g := (mkF m 54 #[.val (.ref aa), .val (.int (Int32.ofNat i)), .val (.int ((Int32.ofNat ((own_h U) ((own_l U) i))) - (Int32.ofNat ((own_h U) ((own_r U) i))))), .val (.int (Int32.ofNat i)), .val (.int (Int32.ofNat ((own_l U) i)))] [(.int (Int32.ofNat ((own_l U) i))), (.ref al), (.ref ah)])) rfl rfl (hb hby d7_54) _ ?_
        show Steps p.tables e below (T379.setTop (mkF m 55 #[.val (.ref aa), .val (.int (Int32.ofNat i)), .val (.int ((Int32.ofNat ((own_h U) ((own_l U) i))) - (Int32.ofNat ((own_h U) ((own_r U) i))))), .val (.int (Int32.ofNat i)), .val (.int (Int32.ofNat ((own_l U) i)))] [(.int (Int32.ofNat ((own_l U) ((own_l U) i)))), (.ref ah)])) _
        refine IA.load X379 hx hZ e379 t371_13 ((own_l U) ((own_l U) i)) (own_cl (by first | assumption | exact hok1.1 _ | exact hok1.2.1 _ | exact hok.1 _ | exact hok.2.1 _ | omega) (by decide)) (own_nn (by first | assumption | exact hok1.1 _ | exact hok1.2.1 _ | exact hok.1 _ | exact hok.2.1 _ | omega) (by decide)) (by first | assumption | exact hok1.1 _ | exact hok1.2.1 _ | exact hok.1 _ | exact hok.2.1 _ | omega) (g := (mkF m 55 #[.val (.ref aa), .val (.int (Int32.ofNat i)), .val (.int ((Int32.ofNat ((own_h U) ((own_l U) i))) - (Int32.ofNat ((own_h U) ((own_r U) i))))), .val (.int (Int32.ofNat i)), .val (.int (Int32.ofNat ((own_l U) i)))] [(.int (Int32.ofNat ((own_l U) ((own_l U) i)))), (.ref ah)])) rfl rfl (hb hby d7_55) _ ?_
        show Steps p.tables e below (T379.setTop (mkF m 56 #[.val (.ref aa), .val (.int (Int32.ofNat i)), .val (.int ((Int32.ofNat ((own_h U) ((own_l U) i))) - (Int32.ofNat ((own_h U) ((own_r U) i))))), .val (.int (Int32.ofNat i)), .val (.int (Int32.ofNat ((own_l U) i)))] [(.int (Int32.ofNat ((own_h U) ((own_l U) ((own_l U) i)))))])) _
        refine XS.aloadN X379.here hx rfl (hb hby d7_56) rfl rfl ?_
        show Steps p.tables e below (T379.setTop (mkF m 57 #[.val (.ref aa), .val (.int (Int32.ofNat i)), .val (.int ((Int32.ofNat ((own_h U) ((own_l U) i))) - (Int32.ofNat ((own_h U) ((own_r U) i))))), .val (.int (Int32.ofNat i)), .val (.int (Int32.ofNat ((own_l U) i)))] [(.ref aa), (.int (Int32.ofNat ((own_h U) ((own_l U) ((own_l U) i)))))])) _
        refine st380 _ ?_
        show Steps p.tables e below (T380.setTop (mkF m 60 #[.val (.ref aa), .val (.int (Int32.ofNat i)), .val (.int ((Int32.ofNat ((own_h U) ((own_l U) i))) - (Int32.ofNat ((own_h U) ((own_r U) i))))), .val (.int (Int32.ofNat i)), .val (.int (Int32.ofNat ((own_l U) i)))] [(.ref ah), (.int (Int32.ofNat ((own_h U) ((own_l U) ((own_l U) i)))))])) _
        refine XS.aloadN X380.here hx rfl (hb hby d7_60) rfl rfl ?_
        show Steps p.tables e below (T380.setTop (mkF m 61 #[.val (.ref aa), .val (.int (Int32.ofNat i)), .val (.int ((Int32.ofNat ((own_h U) ((own_l U) i))) - (Int32.ofNat ((own_h U) ((own_r U) i))))), .val (.int (Int32.ofNat i)), .val (.int (Int32.ofNat ((own_l U) i)))] [(.ref aa), (.ref ah), (.int (Int32.ofNat ((own_h U) ((own_l U) ((own_l U) i)))))])) _
        refine st381 _ ?_
        show Steps p.tables e below (T381.setTop (mkF m 64 #[.val (.ref aa), .val (.int (Int32.ofNat i)), .val (.int ((Int32.ofNat ((own_h U) ((own_l U) i))) - (Int32.ofNat ((own_h U) ((own_r U) i))))), .val (.int (Int32.ofNat i)), .val (.int (Int32.ofNat ((own_l U) i)))] [(.ref ar), (.ref ah), (.int (Int32.ofNat ((own_h U) ((own_l U) ((own_l U) i)))))])) _
        refine XS.iload X381.here hx rfl (hb hby d7_64) rfl ?_
        show Steps p.tables e below (T381.setTop (mkF m 66 #[.val (.ref aa), .val (.int (Int32.ofNat i)), .val (.int ((Int32.ofNat ((own_h U) ((own_l U) i))) - (Int32.ofNat ((own_h U) ((own_r U) i))))), .val (.int (Int32.ofNat i)), .val (.int (Int32.ofNat ((own_l U) i)))] [(.int (Int32.ofNat ((own_l U) i))), (.ref ar), (.ref ah), (.int (Int32.ofNat ((own_h U) ((own_l U) ((own_l U) i)))))])) _
        refine IA.load X381 hx hZ e381 t371_15 ((own_l U) i) (own_cl (by first | assumption | exact hok1.1 _ | exact hok1.2.1 _ | exact hok.1 _ | exact hok.2.1 _ | omega) (by decide)) (own_nn (by first | assumption | exact hok1.1 _ | exact hok1.2.1 _ | exact hok.1 _ | exact hok.2.1 _ | omega) (by decide)) (by first | assumption | exact hok1.1 _ | exact hok1.2.1 _ | exact hok.1 _ | exact hok.2.1 _ | omega) (g := (mkF m 66 #[.val (.ref aa), .val (.int (Int32.ofNat i)), .val (.int ((Int32.ofNat ((own_h U) ((own_l U) i))) - (Int32.ofNat ((own_h U) ((own_r U) i))))), .val (.int (Int32.ofNat i)), .val (.int (Int32.ofNat ((own_l U) i)))] [(.int (Int32.ofNat ((own_l U) i))), (.ref ar), (.ref ah), (.int (Int32.ofNat ((own_h U) ((own_l U) ((own_l U) i)))))])) rfl rfl (hb hby d7_66) _ ?_
        show Steps p.tables e below (T381.setTop (mkF m 67 #[.val (.ref aa), .val (.int (Int32.ofNat i)), .val (.int ((Int32.ofNat ((own_h U) ((own_l U) i))) - (Int32.ofNat ((own_h U) ((own_r U) i))))), .val (.int (Int32.ofNat i)), .val (.int (Int32.ofNat ((own_l U) i)))] [(.int (Int32.ofNat ((own_r U) ((own_l U) i)))), (.ref ah), (.int (Int32.ofNat ((own_h U) ((own_l U) ((own_l U) i)))))])) _
        refine IA.load X381 hx hZ e381 t371_13 ((own_r U) ((own_l U) i)) (own_cl (by first | assumption | exact hok1.1 _ | exact hok1.2.1 _ | exact hok.1 _ | exact hok.2.1 _ | omega) (by decide)) (own_nn (by first | assumption | exact hok1.1 _ | exact hok1.2.1 _ | exact hok.1 _ | exact hok.2.1 _ | omega) (by decide)) (by first | assumption | exact hok1.1 _ | exact hok1.2.1 _ | exact hok.1 _ | exact hok.2.1 _ | omega) (g := (mkF m 67 #[.val (.ref aa), .val (.int (Int32.ofNat i)), .val (.int ((Int32.ofNat ((own_h U) ((own_l U) i))) - (Int32.ofNat ((own_h U) ((own_r U) i))))), .val (.int (Int32.ofNat i)), .val (.int (Int32.ofNat ((own_l U) i)))] [(.int (Int32.ofNat ((own_r U) ((own_l U) i)))), (.ref ah), (.int (Int32.ofNat ((own_h U) ((own_l U) ((own_l U) i)))))])) rfl rfl (hb hby d7_67) _ ?_
        show Steps p.tables e below (T381.setTop (mkF m 68 #[.val (.ref aa), .val (.int (Int32.ofNat i)), .val (.int ((Int32.ofNat ((own_h U) ((own_l U) i))) - (Int32.ofNat ((own_h U) ((own_r U) i))))), .val (.int (Int32.ofNat i)), .val (.int (Int32.ofNat ((own_l U) i)))] [(.int (Int32.ofNat ((own_h U) ((own_r U) ((own_l U) i))))), (.int (Int32.ofNat ((own_h U) ((own_l U) ((own_l U) i)))))])) _
        refine XS.icmpNo X381.here hx rfl (hb hby d7_68) rfl (tlt hc382).2.1 ?_
        show Steps p.tables e below (T381.setTop (mkF m 71 #[.val (.ref aa), .val (.int (Int32.ofNat i)), .val (.int ((Int32.ofNat ((own_h U) ((own_l U) i))) - (Int32.ofNat ((own_h U) ((own_r U) i))))), .val (.int (Int32.ofNat i)), .val (.int (Int32.ofNat ((own_l U) i)))] [])) _
        refine XS.aloadN X381.here hx rfl (hb hby d7_71) rfl rfl ?_
        show Steps p.tables e below (T381.setTop (mkF m 72 #[.val (.ref aa), .val (.int (Int32.ofNat i)), .val (.int ((Int32.ofNat ((own_h U) ((own_l U) i))) - (Int32.ofNat ((own_h U) ((own_r U) i))))), .val (.int (Int32.ofNat i)), .val (.int (Int32.ofNat ((own_l U) i)))] [(.ref aa)])) _
        refine st383 _ ?_
        show Steps p.tables e below (T383.setTop (mkF m 75 #[.val (.ref aa), .val (.int (Int32.ofNat i)), .val (.int ((Int32.ofNat ((own_h U) ((own_l U) i))) - (Int32.ofNat ((own_h U) ((own_r U) i))))), .val (.int (Int32.ofNat i)), .val (.int (Int32.ofNat ((own_l U) i)))] [(.ref al)])) _
        refine XS.iloadN X383.here hx rfl (hb hby d7_75) rfl ?_
        show Steps p.tables e below (T383.setTop (mkF m 76 #[.val (.ref aa), .val (.int (Int32.ofNat i)), .val (.int ((Int32.ofNat ((own_h U) ((own_l U) i))) - (Int32.ofNat ((own_h U) ((own_r U) i))))), .val (.int (Int32.ofNat i)), .val (.int (Int32.ofNat ((own_l U) i)))] [(.int (Int32.ofNat i)), (.ref al)])) _
        refine XS.aloadN X383.here hx rfl (hb hby d7_76) rfl rfl ?_
        show Steps p.tables e below (T383.setTop (mkF m 77 #[.val (.ref aa), .val (.int (Int32.ofNat i)), .val (.int ((Int32.ofNat ((own_h U) ((own_l U) i))) - (Int32.ofNat ((own_h U) ((own_r U) i))))), .val (.int (Int32.ofNat i)), .val (.int (Int32.ofNat ((own_l U) i)))] [(.ref aa), (.int (Int32.ofNat i)), (.ref al)])) _
        refine XS.iload X383.here hx rfl (hb hby d7_77) rfl ?_
        show Steps p.tables e below (T383.setTop (mkF m 79 #[.val (.ref aa), .val (.int (Int32.ofNat i)), .val (.int ((Int32.ofNat ((own_h U) ((own_l U) i))) - (Int32.ofNat ((own_h U) ((own_r U) i))))), .val (.int (Int32.ofNat i)), .val (.int (Int32.ofNat ((own_l U) i)))] [(.int (Int32.ofNat ((own_l U) i))), (.ref aa), (.int (Int32.ofNat i)), (.ref al)])) _
        refine st384.trans ?_
        show Steps p.tables e below (T384.setTop (mkF m 82 #[.val (.ref aa), .val (.int (Int32.ofNat i)), .val (.int ((Int32.ofNat ((own_h U) ((own_l U) i))) - (Int32.ofNat ((own_h U) ((own_r U) i))))), .val (.int (Int32.ofNat i)), .val (.int (Int32.ofNat ((own_l U) i)))] [(.int (Int32.ofNat (own_r U ((own_l U) i)))), (.int (Int32.ofNat i)), (.ref al)])) _
        refine st387 _ ?_
        show Steps p.tables e below (T387.setTop (mkF m 83 #[.val (.ref aa), .val (.int (Int32.ofNat i)), .val (.int ((Int32.ofNat ((own_h U) ((own_l U) i))) - (Int32.ofNat ((own_h U) ((own_r U) i))))), .val (.int (Int32.ofNat i)), .val (.int (Int32.ofNat ((own_l U) i)))] [])) _
        refine XS.aloadN X387.here hx rfl (hb hby d7_83) rfl rfl ?_
        show Steps p.tables e below (T387.setTop (mkF m 84 #[.val (.ref aa), .val (.int (Int32.ofNat i)), .val (.int ((Int32.ofNat ((own_h U) ((own_l U) i))) - (Int32.ofNat ((own_h U) ((own_r U) i))))), .val (.int (Int32.ofNat i)), .val (.int (Int32.ofNat ((own_l U) i)))] [(.ref aa)])) _
        refine XS.iloadN X387.here hx rfl (hb hby d7_84) rfl ?_
        show Steps p.tables e below (T387.setTop (mkF m 85 #[.val (.ref aa), .val (.int (Int32.ofNat i)), .val (.int ((Int32.ofNat ((own_h U) ((own_l U) i))) - (Int32.ofNat ((own_h U) ((own_r U) i))))), .val (.int (Int32.ofNat i)), .val (.int (Int32.ofNat ((own_l U) i)))] [(.int (Int32.ofNat i)), (.ref aa)])) _
        refine st403.trans ?_
        show Steps p.tables e below (T403.setTop (mkF m 88 #[.val (.ref aa), .val (.int (Int32.ofNat i)), .val (.int ((Int32.ofNat ((own_h U) ((own_l U) i))) - (Int32.ofNat ((own_h U) ((own_r U) i))))), .val (.int (Int32.ofNat i)), .val (.int (Int32.ofNat ((own_l U) i)))] [(.int (Int32.ofNat (own_l (own_setL (own_rotL U ((own_l U) i)) i (own_r U ((own_l U) i))) i)))])) _
        refine XS.istoreN X403.here hx rfl (hb hby d7_88) rfl (l' := #[.val (.ref aa), .val (.int (Int32.ofNat i)), .val (.int ((Int32.ofNat ((own_h U) ((own_l U) i))) - (Int32.ofNat ((own_h U) ((own_r U) i))))), .val (.int (Int32.ofNat (own_l (own_setL (own_rotL U ((own_l U) i)) i (own_r U ((own_l U) i))) i))), .val (.int (Int32.ofNat ((own_l U) i)))]) rfl ?_
        show Steps p.tables e below (T403.setTop (mkF m 89 #[.val (.ref aa), .val (.int (Int32.ofNat i)), .val (.int ((Int32.ofNat ((own_h U) ((own_l U) i))) - (Int32.ofNat ((own_h U) ((own_r U) i))))), .val (.int (Int32.ofNat (own_l (own_setL (own_rotL U ((own_l U) i)) i (own_r U ((own_l U) i))) i))), .val (.int (Int32.ofNat ((own_l U) i)))] [])) _
        refine XS.goto X403.here hx rfl (pc0 := 89) (pc' := 150) rfl (hb hby d7_89) (by decide) (by decide) ?_
        show Steps p.tables e below (T403.setTop (mkF m 150 #[.val (.ref aa), .val (.int (Int32.ofNat i)), .val (.int ((Int32.ofNat ((own_h U) ((own_l U) i))) - (Int32.ofNat ((own_h U) ((own_r U) i))))), .val (.int (Int32.ofNat (own_l (own_setL (own_rotL U ((own_l U) i)) i (own_r U ((own_l U) i))) i))), .val (.int (Int32.ofNat ((own_l U) i)))] [])) _
        refine XS.iloadN X403.here hx rfl (hb hby d7_150) rfl ?_
        show Steps p.tables e below (T403.setTop (mkF m 151 #[.val (.ref aa), .val (.int (Int32.ofNat i)), .val (.int ((Int32.ofNat ((own_h U) ((own_l U) i))) - (Int32.ofNat ((own_h U) ((own_r U) i))))), .val (.int (Int32.ofNat (own_l (own_setL (own_rotL U ((own_l U) i)) i (own_r U ((own_l U) i))) i))), .val (.int (Int32.ofNat ((own_l U) i)))] [(.int (Int32.ofNat (own_l (own_setL (own_rotL U ((own_l U) i)) i (own_r U ((own_l U) i))) i)))])) _
        exact retI X403 hx Bd.returns (hb hby d7_151) hr
      · show Q7 Z aa ae ap aS ah al ar S rt md i B h0 n0 _ T403.heap _
        unfold Q7
        rw [hbq]
        exact ⟨rfl, N403, K403, (TR.mk (S := (own_rotR (own_setL (own_rotL U ((own_l U) i)) i (own_r U ((own_l U) i))) i)) t405_0 t405_1 t405_2 t405_3 t405_4 t405_5 t405_6 t405_7 t405_8 t405_9 t405_10 t405_11 t405_12 t405_13 t405_14 t405_15)⟩
    · obtain ⟨cq406, q406, q406'⟩ := t371_0.cell
      obtain ⟨_, _, ⟨T406, L406, k406, n406⟩, -, X406, ⟨Lc406, hQ406, l406, y406, z406⟩, st406⟩ := X381.privateBack hx (y := (⟨"com/example/berthline/berthline/engine/replay/EstimatedEnds", "rotateRight", "(I)I"⟩ : MethodName)) hown (mvT hZ (hw _ (List.mem_of_getElem? (i := 59) rfl))) (mvT hZ (hw _ (List.mem_of_getElem? (i := 60) rfl))) (own_selects hZ (hw _ (List.mem_of_getElem? (i := 1) rfl)) (hw _ (List.mem_of_getElem? (i := 61) rfl)) (hw _ (List.mem_of_getElem? (i := 60) rfl)) (by decide)) (Cond.privateMethod_at (mvP hZ (hw _ (List.mem_of_getElem? (i := 61) rfl)) (args := #[]))) (mvT hZ (hw _ (List.mem_of_getElem? (i := 62) rfl))) (by decide) (backOf (W := 0) (rm10 l Z a0 hw [] aa ae ap aS ah al ar U rt md i (B + 1) T369.heap n0 Z369 g_aa g_ae g_ap g_aS g_ah g_al g_ar hD (TR.mk (S := U) t371_0 t371_1 t371_2 t371_3 t371_4 t371_5 t371_6 t371_7 t371_8 t371_9 t371_10 t371_11 t371_12 t371_13 t371_14 t371_15) hi hok1 (by omega)) hZ (hw _ (List.mem_of_getElem? (i := 62) rfl)) (hw _ (List.mem_of_getElem? (i := 2) rfl)) (by decide) (by decide)) (g := (mkF m 85 #[.val (.ref aa), .val (.int (Int32.ofNat i)), .val (.int ((Int32.ofNat ((own_h U) ((own_l U) i))) - (Int32.ofNat ((own_h U) ((own_r U) i))))), .val (.int (Int32.ofNat i)), .val (.int (Int32.ofNat ((own_l U) i)))] [(.int (Int32.ofNat i)), (.ref aa)])) rfl (by rw [hml]; rfl) (Steps.refl _) (a := aa) (by rw [e381]; exact q406) q406' (argsL := [(.int (Int32.ofNat i))]) (rest := []) (lenOf pd_216441 rfl) rfl (by show 2 * 0 + _ ≤ _; exact Nat.le_of_eq rfl) (hb hby d7_85) (fun _ _ => ⟨rfl, e381, (by decide : 0 + 0 ≤ _), (by decide : 0 + 0 ≤ _)⟩)
      dsimp only [Pt.U, Pt.locs, Pt.cells, Pt.slots] at X406 l406 y406 z406 st406 hQ406
      subst l406 y406 z406
      obtain ⟨rfl, N406q, K406c, G406_0⟩ := hQ406
      have N406 := Fr.app N369 N406q
      have E_407 := t371_0.keep K406c
      have Z406 : n0 ≤ T406.heap.size := Nat.le_trans Z369 K406c.1
      have K406 : Keep h0 T406.heap [aa, ae, ap, aS, ah, al, ar] := K369.trans K406c (allS (P := fun x => x ∈ [aa, ae, ap, aS, ah, al, ar] ∨ h0.size ≤ x) (Or.inl (List.mem_of_getElem? (i := 0) rfl)) (allS (P := fun x => x ∈ [aa, ae, ap, aS, ah, al, ar] ∨ h0.size ≤ x) (Or.inl (List.mem_of_getElem? (i := 1) rfl)) (allS (P := fun x => x ∈ [aa, ae, ap, aS, ah, al, ar] ∨ h0.size ≤ x) (Or.inl (List.mem_of_getElem? (i := 2) rfl)) (allS (P := fun x => x ∈ [aa, ae, ap, aS, ah, al, ar] ∨ h0.size ≤ x) (Or.inl (List.mem_of_getElem? (i := 3) rfl)) (allS (P := fun x => x ∈ [aa, ae, ap, aS, ah, al, ar] ∨ h0.size ≤ x) (Or.inl (List.mem_of_getElem? (i := 4) rfl)) (allS (P := fun x => x ∈ [aa, ae, ap, aS, ah, al, ar] ∨ h0.size ≤ x) (Or.inl (List.mem_of_getElem? (i := 5) rfl)) (allS (P := fun x => x ∈ [aa, ae, ap, aS, ah, al, ar] ∨ h0.size ≤ x) (Or.inl (List.mem_of_getElem? (i := 6) rfl)) all0)))))))
      obtain ⟨t408_0, t408_1, t408_2, t408_3, t408_4, t408_5, t408_6, t408_7, t408_8, t408_9, t408_10, t408_11, t408_12, t408_13, t408_14, t408_15⟩ := G406_0
      have hbq : own_bal S i = ((own_rotR U i), (own_l U i)) := by unfold own_bal; rw [← hU]; unfold own_balU; rw [if_pos hc376, if_neg hc382]
      obtain ⟨fs, hr, hrun, hended, hW, hsame⟩ := X406.leave (v := some (.int (Int32.ofNat (own_l U i)))) (fun h => by rw [Bd.returns] at h; cases h)
      refine ⟨_, _, pre0 _ ?_, hrun, hended, _, _, rfl, ?_, ⟨_, rfl⟩, hW, hsame.mono (by decide) (by decide)⟩
      · show Steps p.tables e below (s₁.setTop (mkF m 0 #[.val (.ref aa), .val (.int (Int32.ofNat i)), .unset, .unset, .unset] [])) _
        refine XS.aloadN X0.here hx rfl (hb hby d7_0) rfl rfl ?_
        show Steps p.tables e below (s₁.setTop (mkF m 1 #[.val (.ref aa), .val (.int (Int32.ofNat i)), .unset, .unset, .unset] [(.ref aa)])) _
        refine XS.iloadN X0.here hx rfl (hb hby d7_1) rfl ?_
        show Steps p.tables e below (s₁.setTop (mkF m 2 #[.val (.ref aa), .val (.int (Int32.ofNat i)), .unset, .unset, .unset] [(.int (Int32.ofNat i)), (.ref aa)])) _
        refine st369.trans ?_
        show Steps p.tables e below (T369.setTop (mkF m 5 #[.val (.ref aa), .val (.int (Int32.ofNat i)), .unset, .unset, .unset] [])) _
        refine XS.aloadN X369.here hx rfl (hb hby d7_5) rfl rfl ?_
        show Steps p.tables e below (T369.setTop (mkF m 6 #[.val (.ref aa), .val (.int (Int32.ofNat i)), .unset, .unset, .unset] [(.ref aa)])) _
        refine st372 _ ?_
        show Steps p.tables e below (T372.setTop (mkF m 9 #[.val (.ref aa), .val (.int (Int32.ofNat i)), .unset, .unset, .unset] [(.ref ah)])) _
        refine XS.aloadN X372.here hx rfl (hb hby d7_9) rfl rfl ?_
        show Steps p.tables e below (T372.setTop (mkF m 10 #[.val (.ref aa), .val (.int (Int32.ofNat i)), .unset, .unset, .unset] [(.ref aa), (.ref ah)])) _
        refine st373 _ ?_
        show Steps p.tables e below (T373.setTop (mkF m 13 #[.val (.ref aa), .val (.int (Int32.ofNat i)), .unset, .unset, .unset] [(.ref al), (.ref ah)])) _
        refine XS.iloadN X373.here hx rfl (hb hby d7_13) rfl ?_
        show Steps p.tables e below (T373.setTop (mkF m 14 #[.val (.ref aa), .val (.int (Int32.ofNat i)), .unset, .unset, .unset] [(.int (Int32.ofNat i)), (.ref al), (.ref ah)])) _
        refine IA.load X373 hx hZ e373 t371_14 i (own_cl hi (by decide)) (own_nn hi (by decide)) hi (g := (mkF m 14 #[.val (.ref aa), .val (.int (Int32.ofNat i)), .unset, .unset, .unset] [(.int (Int32.ofNat i)), (.ref al), (.ref ah)])) rfl rfl (hb hby d7_14) _ ?_
        show Steps p.tables e below (T373.setTop (mkF m 15 #[.val (.ref aa), .val (.int (Int32.ofNat i)), .unset, .unset, .unset] [(.int (Int32.ofNat ((own_l U) i))), (.ref ah)])) _
        refine IA.load X373 hx hZ e373 t371_13 ((own_l U) i) (own_cl (by first | assumption | exact hok1.1 _ | exact hok1.2.1 _ | exact hok.1 _ | exact hok.2.1 _ | omega) (by decide)) (own_nn (by first | assumption | exact hok1.1 _ | exact hok1.2.1 _ | exact hok.1 _ | exact hok.2.1 _ | omega) (by decide)) (by first | assumption | exact hok1.1 _ | exact hok1.2.1 _ | exact hok.1 _ | exact hok.2.1 _ | omega) (g := (mkF m 15 #[.val (.ref aa), .val (.int (Int32.ofNat i)), .unset, .unset, .unset] [(.int (Int32.ofNat ((own_l U) i))), (.ref ah)])) rfl rfl (hb hby d7_15) _ ?_
        show Steps p.tables e below (T373.setTop (mkF m 16 #[.val (.ref aa), .val (.int (Int32.ofNat i)), .unset, .unset, .unset] [(.int (Int32.ofNat ((own_h U) ((own_l U) i))))])) _
        refine XS.aloadN X373.here hx rfl (hb hby d7_16) rfl rfl ?_
        show Steps p.tables e below (T373.setTop (mkF m 17 #[.val (.ref aa), .val (.int (Int32.ofNat i)), .unset, .unset, .unset] [(.ref aa), (.int (Int32.ofNat ((own_h U) ((own_l U) i))))])) _
        refine st374 _ ?_
        show Steps p.tables e below (T374.setTop (mkF m 20 #[.val (.ref aa), .val (.int (Int32.ofNat i)), .unset, .unset, .unset] [(.ref ah), (.int (Int32.ofNat ((own_h U) ((own_l U) i))))])) _
        refine XS.aloadN X374.here hx rfl (hb hby d7_20) rfl rfl ?_
        show Steps p.tables e below (T374.setTop (mkF m 21 #[.val (.ref aa), .val (.int (Int32.ofNat i)), .unset, .unset, .unset] [(.ref aa), (.ref ah), (.int (Int32.ofNat ((own_h U) ((own_l U) i))))])) _
        refine st375 _ ?_
        show Steps p.tables e below (T375.setTop (mkF m 24 #[.val (.ref aa), .val (.int (Int32.ofNat i)), .unset, .unset, .unset] [(.ref ar), (.ref ah), (.int (Int32.ofNat ((own_h U) ((own_l U) i))))])) _
        refine XS.iloadN X375.here hx rfl (hb hby d7_24) rfl ?_
        show Steps p.tables e below (T375.setTop (mkF m 25 #[.val (.ref aa), .val (.int (Int32.ofNat i)), .unset, .unset, .unset] [(.int (Int32.ofNat i)), (.ref ar), (.ref ah), (.int (Int32.ofNat ((own_h U) ((own_l U) i))))])) _
        refine IA.load X375 hx hZ e375 t371_15 i (own_cl hi (by decide)) (own_nn hi (by decide)) hi (g := (mkF m 25 #[.val (.ref aa), .val (.int (Int32.ofNat i)), .unset, .unset, .unset] [(.int (Int32.ofNat i)), (.ref ar), (.ref ah), (.int (Int32.ofNat ((own_h U) ((own_l U) i))))])) rfl rfl (hb hby d7_25) _ ?_
        show Steps p.tables e below (T375.setTop (mkF m 26 #[.val (.ref aa), .val (.int (Int32.ofNat i)), .unset, .unset, .unset] [(.int (Int32.ofNat ((own_r U) i))), (.ref ah), (.int (Int32.ofNat ((own_h U) ((own_l U) i))))])) _
        refine IA.load X375 hx hZ e375 t371_13 ((own_r U) i) (own_cl (by first | assumption | exact hok1.1 _ | exact hok1.2.1 _ | exact hok.1 _ | exact hok.2.1 _ | omega) (by decide)) (own_nn (by first | assumption | exact hok1.1 _ | exact hok1.2.1 _ | exact hok.1 _ | exact hok.2.1 _ | omega) (by decide)) (by first | assumption | exact hok1.1 _ | exact hok1.2.1 _ | exact hok.1 _ | exact hok.2.1 _ | omega) (g := (mkF m 26 #[.val (.ref aa), .val (.int (Int32.ofNat i)), .unset, .unset, .unset] [(.int (Int32.ofNat ((own_r U) i))), (.ref ah), (.int (Int32.ofNat ((own_h U) ((own_l U) i))))])) rfl rfl (hb hby d7_26) _ ?_
        show Steps p.tables e below (T375.setTop (mkF m 27 #[.val (.ref aa), .val (.int (Int32.ofNat i)), .unset, .unset, .unset] [(.int (Int32.ofNat ((own_h U) ((own_r U) i)))), (.int (Int32.ofNat ((own_h U) ((own_l U) i))))])) _
        refine XS.isub X375.here hx rfl (hb hby d7_27) rfl ?_
        show Steps p.tables e below (T375.setTop (mkF m 28 #[.val (.ref aa), .val (.int (Int32.ofNat i)), .unset, .unset, .unset] [(.int ((Int32.ofNat ((own_h U) ((own_l U) i))) - (Int32.ofNat ((own_h U) ((own_r U) i)))))])) _
        refine XS.istoreN X375.here hx rfl (hb hby d7_28) rfl (l' := #[.val (.ref aa), .val (.int (Int32.ofNat i)), .val (.int ((Int32.ofNat ((own_h U) ((own_l U) i))) - (Int32.ofNat ((own_h U) ((own_r U) i))))), .unset, .unset]) rfl ?_
        show Steps p.tables e below (T375.setTop (mkF m 29 #[.val (.ref aa), .val (.int (Int32.ofNat i)), .val (.int ((Int32.ofNat ((own_h U) ((own_l U) i))) - (Int32.ofNat ((own_h U) ((own_r U) i))))), .unset, .unset] [])) _
        refine XS.iloadN X375.here hx rfl (hb hby d7_29) rfl ?_
        show Steps p.tables e below (T375.setTop (mkF m 30 #[.val (.ref aa), .val (.int (Int32.ofNat i)), .val (.int ((Int32.ofNat ((own_h U) ((own_l U) i))) - (Int32.ofNat ((own_h U) ((own_r U) i))))), .unset, .unset] [(.int (Int32.ofNat i))])) _
        refine XS.istoreN X375.here hx rfl (hb hby d7_30) rfl (l' := #[.val (.ref aa), .val (.int (Int32.ofNat i)), .val (.int ((Int32.ofNat ((own_h U) ((own_l U) i))) - (Int32.ofNat ((own_h U) ((own_r U) i))))), .val (.int (Int32.ofNat i)), .unset]) rfl ?_
        show Steps p.tables e below (T375.setTop (mkF m 31 #[.val (.ref aa), .val (.int (Int32.ofNat i)), .val (.int ((Int32.ofNat ((own_h U) ((own_l U) i))) - (Int32.ofNat ((own_h U) ((own_r U) i))))), .val (.int (Int32.ofNat i)), .unset] [])) _
        refine XS.iloadN X375.here hx rfl (hb hby d7_31) rfl ?_
        show Steps p.tables e below (T375.setTop (mkF m 32 #[.val (.ref aa), .val (.int (Int32.ofNat i)), .val (.int ((Int32.ofNat ((own_h U) ((own_l U) i))) - (Int32.ofNat ((own_h U) ((own_r U) i))))), .val (.int (Int32.ofNat i)), .unset] [(.int ((Int32.ofNat ((own_h U) ((own_l U) i))) - (Int32.ofNat ((own_h U) ((own_r U) i)))))])) _
        refine XS.iconst X375.here hx rfl (hb hby d7_32) ?_
        show Steps p.tables e below (T375.setTop (mkF m 33 #[.val (.ref aa), .val (.int (Int32.ofNat i)), .val (.int ((Int32.ofNat ((own_h U) ((own_l U) i))) - (Int32.ofNat ((own_h U) ((own_r U) i))))), .val (.int (Int32.ofNat i)), .unset] [(.int (1 : Int32)), (.int ((Int32.ofNat ((own_h U) ((own_l U) i))) - (Int32.ofNat ((own_h U) ((own_r U) i)))))])) _
        refine XS.icmpNo X375.here hx rfl (hb hby d7_33) rfl (tlt hc376).2.2.2 ?_
        show Steps p.tables e below (T375.setTop (mkF m 36 #[.val (.ref aa), .val (.int (Int32.ofNat i)), .val (.int ((Int32.ofNat ((own_h U) ((own_l U) i))) - (Int32.ofNat ((own_h U) ((own_r U) i))))), .val (.int (Int32.ofNat i)), .unset] [])) _
        refine XS.aloadN X375.here hx rfl (hb hby d7_36) rfl rfl ?_
        show Steps p.tables e below (T375.setTop (mkF m 37 #[.val (.ref aa), .val (.int (Int32.ofNat i)), .val (.int ((Int32.ofNat ((own_h U) ((own_l U) i))) - (Int32.ofNat ((own_h U) ((own_r U) i))))), .val (.int (Int32.ofNat i)), .unset] [(.ref aa)])) _
        refine st377 _ ?_
        show Steps p.tables e below (T377.setTop (mkF m 40 #[.val (.ref aa), .val (.int (Int32.ofNat i)), .val (.int ((Int32.ofNat ((own_h U) ((own_l U) i))) - (Int32.ofNat ((own_h U) ((own_r U) i))))), .val (.int (Int32.ofNat i)), .unset] [(.ref al)])) _
        refine XS.iloadN X377.here hx rfl (hb hby d7_40) rfl ?_
        show Steps p.tables e below (T377.setTop (mkF m 41 #[.val (.ref aa), .val (.int (Int32.ofNat i)), .val (.int ((Int32.ofNat ((own_h U) ((own_l U) i))) - (Int32.ofNat ((own_h U) ((own_r U) i))))), .val (.int (Int32.ofNat i)), .unset] [(.int (Int32.ofNat i)), (.ref al)])) _
        refine IA.load X377 hx hZ e377 t371_14 i (own_cl hi (by decide)) (own_nn hi (by decide)) hi (g := (mkF m 41 #[.val (.ref aa), .val (.int (Int32.ofNat i)), .val (.int ((Int32.ofNat ((own_h U) ((own_l U) i))) - (Int32.ofNat ((own_h U) ((own_r U) i))))), .val (.int (Int32.ofNat i)), .unset] [(.int (Int32.ofNat i)), (.ref al)])) rfl rfl (hb hby d7_41) _ ?_
        show Steps p.tables e below (T377.setTop (mkF m 42 #[.val (.ref aa), .val (.int (Int32.ofNat i)), .val (.int ((Int32.ofNat ((own_h U) ((own_l U) i))) - (Int32.ofNat ((own_h U) ((own_r U) i))))), .val (.int (Int32.ofNat i)), .unset] [(.int (Int32.ofNat ((own_l U) i)))])) _
        refine XS.istore X377.here hx rfl (hb hby d7_42) rfl (l' := #[.val (.ref aa), .val (.int (Int32.ofNat i)), .val (.int ((Int32.ofNat ((own_h U) ((own_l U) i))) - (Int32.ofNat ((own_h U) ((own_r U) i))))), .val (.int (Int32.ofNat i)), .val (.int (Int32.ofNat ((own_l U) i)))]) rfl ?_
        show Steps p.tables e below (T377.setTop (mkF m 44 #[.val (.ref aa), .val (.int (Int32.ofNat i)), .val (.int ((Int32.ofNat ((own_h U) ((own_l U) i))) - (Int32.ofNat ((own_h U) ((own_r U) i))))), .val (.int (Int32.ofNat i)), .val (.int (Int32.ofNat ((own_l U) i)))] [])) _
        refine XS.aloadN X377.here hx rfl (hb hby d7_44) rfl rfl ?_
        show Steps p.tables e below (T377.setTop (mkF m 45 #[.val (.ref aa), .val (.int (Int32.ofNat i)), .val (.int ((Int32.ofNat ((own_h U) ((own_l U) i))) - (Int32.ofNat ((own_h U) ((own_r U) i))))), .val (.int (Int32.ofNat i)), .val (.int (Int32.ofNat ((own_l U) i)))] [(.ref aa)])) _
        refine st378 _ ?_
        show Steps p.tables e below (T378.setTop (mkF m 48 #[.val (.ref aa), .val (.int (Int32.ofNat i)), .val (.int ((Int32.ofNat ((own_h U) ((own_l U) i))) - (Int32.ofNat ((own_h U) ((own_r U) i))))), .val (.int (Int32.ofNat i)), .val (.int (Int32.ofNat ((own_l U) i)))] [(.ref ah)])) _
        refine XS.aloadN X378.here hx rfl (hb hby d7_48) rfl rfl ?_
        show Steps p.tables e below (T378.setTop (mkF m 49 #[.val (.ref aa), .val (.int (Int32.ofNat i)), .val (.int ((Int32.ofNat ((own_h U) ((own_l U) i))) - (Int32.ofNat ((own_h U) ((own_r U) i))))), .val (.int (Int32.ofNat i)), .val (.int (Int32.ofNat ((own_l U) i)))] [(.ref aa), (.ref ah)])) _
        refine st379 _ ?_
        show Steps p.tables e below (T379.setTop (mkF m 52 #[.val (.ref aa), .val (.int (Int32.ofNat i)), .val (.int ((Int32.ofNat ((own_h U) ((own_l U) i))) - (Int32.ofNat ((own_h U) ((own_r U) i))))), .val (.int (Int32.ofNat i)), .val (.int (Int32.ofNat ((own_l U) i)))] [(.ref al), (.ref ah)])) _
        refine XS.iload X379.here hx rfl (hb hby d7_52) rfl ?_
        show Steps p.tables e below (T379.setTop (mkF m 54 #[.val (.ref aa), .val (.int (Int32.ofNat i)), .val (.int ((Int32.ofNat ((own_h U) ((own_l U) i))) - (Int32.ofNat ((own_h U) ((own_r U) i))))), .val (.int (Int32.ofNat i)), .val (.int (Int32.ofNat ((own_l U) i)))] [(.int (Int32.ofNat ((own_l U) i))), (.ref al), (.ref ah)])) _
        refine IA.load X379 hx hZ e379 t371_14 ((own_l U) i) (own_cl (by first | assumption | exact hok1.1 _ | exact hok1.2.1 _ | exact hok.1 _ | exact hok.2.1 _ | omega) (by decide)) (own_nn (by first | assumption | exact hok1.1 _ | exact hok1.2.1 _ | exact hok.1 _ | exact hok.2.1 _ | omega) (by decide)) (by first | assumption | exact hok1.1 _ | exact hok1.2.1 _ | exact hok.1 _ | exact hok.2.1 _ | omega) (g := (mkF m 54 #[.val (.ref aa), .val (.int (Int32.ofNat i)), .val (.int ((Int32.ofNat ((own_h U) ((own_l U) i))) - (Int32.ofNat ((own_h U) ((own_r U) i))))), .val (.int (Int32.ofNat i)), .val (.int (Int32.ofNat ((own_l U) i)))] [(.int (Int32.ofNat ((own_l U) i))), (.ref al), (.ref ah)])) rfl rfl (hb hby d7_54) _ ?_
        show Steps p.tables e below (T379.setTop (mkF m 55 #[.val (.ref aa), .val (.int (Int32.ofNat i)), .val (.int ((Int32.ofNat ((own_h U) ((own_l U) i))) - (Int32.ofNat ((own_h U) ((own_r U) i))))), .val (.int (Int32.ofNat i)), .val (.int (Int32.ofNat ((own_l U) i)))] [(.int (Int32.ofNat ((own_l U) ((own_l U) i)))), (.ref ah)])) _
        refine IA.load X379 hx hZ e379 t371_13 ((own_l U) ((own_l U) i)) (own_cl (by first | assumption | exact hok1.1 _ | exact hok1.2.1 _ | exact hok.1 _ | exact hok.2.1 _ | omega) (by decide)) (own_nn (by first | assumption | exact hok1.1 _ | exact hok1.2.1 _ | exact hok.1 _ | exact hok.2.1 _ | omega) (by decide)) (by first | assumption | exact hok1.1 _ | exact hok1.2.1 _ | exact hok.1 _ | exact hok.2.1 _ | omega) (g := (mkF m 55 #[.val (.ref aa), .val (.int (Int32.ofNat i)), .val (.int ((Int32.ofNat ((own_h U) ((own_l U) i))) - (Int32.ofNat ((own_h U) ((own_r U) i))))), .val (.int (Int32.ofNat i)), .val (.int (Int32.ofNat ((own_l U) i)))] [(.int (Int32.ofNat ((own_l U) ((own_l U) i)))), (.ref ah)])) rfl rfl (hb hby d7_55) _ ?_
        show Steps p.tables e below (T379.setTop (mkF m 56 #[.val (.ref aa), .val (.int (Int32.ofNat i)), .val (.int ((Int32.ofNat ((own_h U) ((own_l U) i))) - (Int32.ofNat ((own_h U) ((own_r U) i))))), .val (.int (Int32.ofNat i)), .val (.int (Int32.ofNat ((own_l U) i)))] [(.int (Int32.ofNat ((own_h U) ((own_l U) ((own_l U) i)))))])) _
        refine XS.aloadN X379.here hx rfl (hb hby d7_56) rfl rfl ?_
        show Steps p.tables e below (T379.setTop (mkF m 57 #[.val (.ref aa), .val (.int (Int32.ofNat i)), .val (.int ((Int32.ofNat ((own_h U) ((own_l U) i))) - (Int32.ofNat ((own_h U) ((own_r U) i))))), .val (.int (Int32.ofNat i)), .val (.int (Int32.ofNat ((own_l U) i)))] [(.ref aa), (.int (Int32.ofNat ((own_h U) ((own_l U) ((own_l U) i)))))])) _
        refine st380 _ ?_
        show Steps p.tables e below (T380.setTop (mkF m 60 #[.val (.ref aa), .val (.int (Int32.ofNat i)), .val (.int ((Int32.ofNat ((own_h U) ((own_l U) i))) - (Int32.ofNat ((own_h U) ((own_r U) i))))), .val (.int (Int32.ofNat i)), .val (.int (Int32.ofNat ((own_l U) i)))] [(.ref ah), (.int (Int32.ofNat ((own_h U) ((own_l U) ((own_l U) i)))))])) _
        refine XS.aloadN X380.here hx rfl (hb hby d7_60) rfl rfl ?_
        show Steps p.tables e below (T380.setTop (mkF m 61 #[.val (.ref aa), .val (.int (Int32.ofNat i)), .val (.int ((Int32.ofNat ((own_h U) ((own_l U) i))) - (Int32.ofNat ((own_h U) ((own_r U) i))))), .val (.int (Int32.ofNat i)), .val (.int (Int32.ofNat ((own_l U) i)))] [(.ref aa), (.ref ah), (.int (Int32.ofNat ((own_h U) ((own_l U) ((own_l U) i)))))])) _
        refine st381 _ ?_
        show Steps p.tables e below (T381.setTop (mkF m 64 #[.val (.ref aa), .val (.int (Int32.ofNat i)), .val (.int ((Int32.ofNat ((own_h U) ((own_l U) i))) - (Int32.ofNat ((own_h U) ((own_r U) i))))), .val (.int (Int32.ofNat i)), .val (.int (Int32.ofNat ((own_l U) i)))] [(.ref ar), (.ref ah), (.int (Int32.ofNat ((own_h U) ((own_l U) ((own_l U) i)))))])) _
        refine XS.iload X381.here hx rfl (hb hby d7_64) rfl ?_
        show Steps p.tables e below (T381.setTop (mkF m 66 #[.val (.ref aa), .val (.int (Int32.ofNat i)), .val (.int ((Int32.ofNat ((own_h U) ((own_l U) i))) - (Int32.ofNat ((own_h U) ((own_r U) i))))), .val (.int (Int32.ofNat i)), .val (.int (Int32.ofNat ((own_l U) i)))] [(.int (Int32.ofNat ((own_l U) i))), (.ref ar), (.ref ah), (.int (Int32.ofNat ((own_h U) ((own_l U) ((own_l U) i)))))])) _
        refine IA.load X381 hx hZ e381 t371_15 ((own_l U) i) (own_cl (by first | assumption | exact hok1.1 _ | exact hok1.2.1 _ | exact hok.1 _ | exact hok.2.1 _ | omega) (by decide)) (own_nn (by first | assumption | exact hok1.1 _ | exact hok1.2.1 _ | exact hok.1 _ | exact hok.2.1 _ | omega) (by decide)) (by first | assumption | exact hok1.1 _ | exact hok1.2.1 _ | exact hok.1 _ | exact hok.2.1 _ | omega) (g := (mkF m 66 #[.val (.ref aa), .val (.int (Int32.ofNat i)), .val (.int ((Int32.ofNat ((own_h U) ((own_l U) i))) - (Int32.ofNat ((own_h U) ((own_r U) i))))), .val (.int (Int32.ofNat i)), .val (.int (Int32.ofNat ((own_l U) i)))] [(.int (Int32.ofNat ((own_l U) i))), (.ref ar), (.ref ah), (.int (Int32.ofNat ((own_h U) ((own_l U) ((own_l U) i)))))])) rfl rfl (hb hby d7_66) _ ?_
        show Steps p.tables e below (T381.setTop (mkF m 67 #[.val (.ref aa), .val (.int (Int32.ofNat i)), .val (.int ((Int32.ofNat ((own_h U) ((own_l U) i))) - (Int32.ofNat ((own_h U) ((own_r U) i))))), .val (.int (Int32.ofNat i)), .val (.int (Int32.ofNat ((own_l U) i)))] [(.int (Int32.ofNat ((own_r U) ((own_l U) i)))), (.ref ah), (.int (Int32.ofNat ((own_h U) ((own_l U) ((own_l U) i)))))])) _
        refine IA.load X381 hx hZ e381 t371_13 ((own_r U) ((own_l U) i)) (own_cl (by first | assumption | exact hok1.1 _ | exact hok1.2.1 _ | exact hok.1 _ | exact hok.2.1 _ | omega) (by decide)) (own_nn (by first | assumption | exact hok1.1 _ | exact hok1.2.1 _ | exact hok.1 _ | exact hok.2.1 _ | omega) (by decide)) (by first | assumption | exact hok1.1 _ | exact hok1.2.1 _ | exact hok.1 _ | exact hok.2.1 _ | omega) (g := (mkF m 67 #[.val (.ref aa), .val (.int (Int32.ofNat i)), .val (.int ((Int32.ofNat ((own_h U) ((own_l U) i))) - (Int32.ofNat ((own_h U) ((own_r U) i))))), .val (.int (Int32.ofNat i)), .val (.int (Int32.ofNat ((own_l U) i)))] [(.int (Int32.ofNat ((own_r U) ((own_l U) i)))), (.ref ah), (.int (Int32.ofNat ((own_h U) ((own_l U) ((own_l U) i)))))])) rfl rfl (hb hby d7_67) _ ?_
        show Steps p.tables e below (T381.setTop (mkF m 68 #[.val (.ref aa), .val (.int (Int32.ofNat i)), .val (.int ((Int32.ofNat ((own_h U) ((own_l U) i))) - (Int32.ofNat ((own_h U) ((own_r U) i))))), .val (.int (Int32.ofNat i)), .val (.int (Int32.ofNat ((own_l U) i)))] [(.int (Int32.ofNat ((own_h U) ((own_r U) ((own_l U) i))))), (.int (Int32.ofNat ((own_h U) ((own_l U) ((own_l U) i)))))])) _
        refine XS.icmpYes X381.here hx rfl (pc0 := 68) (pc' := 83) rfl (hb hby d7_68) rfl (flt hc382).2.1 (by decide) (by decide) ?_
        show Steps p.tables e below (T381.setTop (mkF m 83 #[.val (.ref aa), .val (.int (Int32.ofNat i)), .val (.int ((Int32.ofNat ((own_h U) ((own_l U) i))) - (Int32.ofNat ((own_h U) ((own_r U) i))))), .val (.int (Int32.ofNat i)), .val (.int (Int32.ofNat ((own_l U) i)))] [])) _
        refine XS.aloadN X381.here hx rfl (hb hby d7_83) rfl rfl ?_
        show Steps p.tables e below (T381.setTop (mkF m 84 #[.val (.ref aa), .val (.int (Int32.ofNat i)), .val (.int ((Int32.ofNat ((own_h U) ((own_l U) i))) - (Int32.ofNat ((own_h U) ((own_r U) i))))), .val (.int (Int32.ofNat i)), .val (.int (Int32.ofNat ((own_l U) i)))] [(.ref aa)])) _
        refine XS.iloadN X381.here hx rfl (hb hby d7_84) rfl ?_
        show Steps p.tables e below (T381.setTop (mkF m 85 #[.val (.ref aa), .val (.int (Int32.ofNat i)), .val (.int ((Int32.ofNat ((own_h U) ((own_l U) i))) - (Int32.ofNat ((own_h U) ((own_r U) i))))), .val (.int (Int32.ofNat i)), .val (.int (Int32.ofNat ((own_l U) i)))] [(.int (Int32.ofNat i)), (.ref aa)])) _
        refine st406.trans ?_
        show Steps p.tables e below (T406.setTop (mkF m 88 #[.val (.ref aa), .val (.int (Int32.ofNat i)), .val (.int ((Int32.ofNat ((own_h U) ((own_l U) i))) - (Int32.ofNat ((own_h U) ((own_r U) i))))), .val (.int (Int32.ofNat i)), .val (.int (Int32.ofNat ((own_l U) i)))] [(.int (Int32.ofNat (own_l U i)))])) _
        refine XS.istoreN X406.here hx rfl (hb hby d7_88) rfl (l' := #[.val (.ref aa), .val (.int (Int32.ofNat i)), .val (.int ((Int32.ofNat ((own_h U) ((own_l U) i))) - (Int32.ofNat ((own_h U) ((own_r U) i))))), .val (.int (Int32.ofNat (own_l U i))), .val (.int (Int32.ofNat ((own_l U) i)))]) rfl ?_
        show Steps p.tables e below (T406.setTop (mkF m 89 #[.val (.ref aa), .val (.int (Int32.ofNat i)), .val (.int ((Int32.ofNat ((own_h U) ((own_l U) i))) - (Int32.ofNat ((own_h U) ((own_r U) i))))), .val (.int (Int32.ofNat (own_l U i))), .val (.int (Int32.ofNat ((own_l U) i)))] [])) _
        refine XS.goto X406.here hx rfl (pc0 := 89) (pc' := 150) rfl (hb hby d7_89) (by decide) (by decide) ?_
        show Steps p.tables e below (T406.setTop (mkF m 150 #[.val (.ref aa), .val (.int (Int32.ofNat i)), .val (.int ((Int32.ofNat ((own_h U) ((own_l U) i))) - (Int32.ofNat ((own_h U) ((own_r U) i))))), .val (.int (Int32.ofNat (own_l U i))), .val (.int (Int32.ofNat ((own_l U) i)))] [])) _
        refine XS.iloadN X406.here hx rfl (hb hby d7_150) rfl ?_
        show Steps p.tables e below (T406.setTop (mkF m 151 #[.val (.ref aa), .val (.int (Int32.ofNat i)), .val (.int ((Int32.ofNat ((own_h U) ((own_l U) i))) - (Int32.ofNat ((own_h U) ((own_r U) i))))), .val (.int (Int32.ofNat (own_l U i))), .val (.int (Int32.ofNat ((own_l U) i)))] [(.int (Int32.ofNat (own_l U i)))])) _
        exact retI X406 hx Bd.returns (hb hby d7_151) hr
      · show Q7 Z aa ae ap aS ah al ar S rt md i B h0 n0 _ T406.heap _
        unfold Q7
        rw [hbq]
        exact ⟨rfl, N406, K406, (TR.mk (S := (own_rotR U i)) t408_0 t408_1 t408_2 t408_3 t408_4 t408_5 t408_6 t408_7 t408_8 t408_9 t408_10 t408_11 t408_12 t408_13 t408_14 t408_15)⟩
  · by_cases hc409 : ((Int32.ofNat ((own_h U) ((own_l U) i))) - (Int32.ofNat ((own_h U) ((own_r U) i)))) < (-1 : Int32)
    · obtain ⟨T410, X410, e410, st410⟩ := getF X375 hx hZ hown (host := "") (Or.inl (hw _ (List.mem_of_getElem? (i := 21) rfl))) Via.refl e375 t371_6 (g := (mkF m 98 #[.val (.ref aa), .val (.int (Int32.ofNat i)), .val (.int ((Int32.ofNat ((own_h U) ((own_l U) i))) - (Int32.ofNat ((own_h U) ((own_r U) i))))), .val (.int (Int32.ofNat i)), .unset] [(.ref aa)])) rfl rfl (hb hby d7_98)
      obtain ⟨T411, X411, e411, st411⟩ := getF X410 hx hZ hown (host := "") (Or.inl (hw _ (List.mem_of_getElem? (i := 17) rfl))) Via.refl e410 t371_4 (g := (mkF m 106 #[.val (.ref aa), .val (.int (Int32.ofNat i)), .val (.int ((Int32.ofNat ((own_h U) ((own_l U) i))) - (Int32.ofNat ((own_h U) ((own_r U) i))))), .val (.int (Int32.ofNat i)), .val (.int (Int32.ofNat ((own_r U) i)))] [(.ref aa)])) rfl rfl (hb hby d7_106)
      obtain ⟨T412, X412, e412, st412⟩ := getF X411 hx hZ hown (host := "") (Or.inl (hw _ (List.mem_of_getElem? (i := 21) rfl))) Via.refl e411 t371_6 (g := (mkF m 110 #[.val (.ref aa), .val (.int (Int32.ofNat i)), .val (.int ((Int32.ofNat ((own_h U) ((own_l U) i))) - (Int32.ofNat ((own_h U) ((own_r U) i))))), .val (.int (Int32.ofNat i)), .val (.int (Int32.ofNat ((own_r U) i)))] [(.ref aa), (.ref ah)])) rfl rfl (hb hby d7_110)
      obtain ⟨T413, X413, e413, st413⟩ := getF X412 hx hZ hown (host := "") (Or.inl (hw _ (List.mem_of_getElem? (i := 17) rfl))) Via.refl e412 t371_4 (g := (mkF m 118 #[.val (.ref aa), .val (.int (Int32.ofNat i)), .val (.int ((Int32.ofNat ((own_h U) ((own_l U) i))) - (Int32.ofNat ((own_h U) ((own_r U) i))))), .val (.int (Int32.ofNat i)), .val (.int (Int32.ofNat ((own_r U) i)))] [(.ref aa), (.int (Int32.ofNat ((own_h U) ((own_r U) ((own_r U) i)))))])) rfl rfl (hb hby d7_118)
      obtain ⟨T414, X414, e414, st414⟩ := getF X413 hx hZ hown (host := "") (Or.inl (hw _ (List.mem_of_getElem? (i := 19) rfl))) Via.refl e413 t371_5 (g := (mkF m 122 #[.val (.ref aa), .val (.int (Int32.ofNat i)), .val (.int ((Int32.ofNat ((own_h U) ((own_l U) i))) - (Int32.ofNat ((own_h U) ((own_r U) i))))), .val (.int (Int32.ofNat i)), .val (.int (Int32.ofNat ((own_r U) i)))] [(.ref aa), (.ref ah), (.int (Int32.ofNat ((own_h U) ((own_r U) ((own_r U) i)))))])) rfl rfl (hb hby d7_122)
      by_cases hc415 : (Int32.ofNat ((own_h U) ((own_r U) ((own_r U) i)))) < (Int32.ofNat ((own_h U) ((own_l U) ((own_r U) i))))
      · obtain ⟨T416, X416, e416, st416⟩ := getF X414 hx hZ hown (host := "") (Or.inl (hw _ (List.mem_of_getElem? (i := 21) rfl))) Via.refl e414 t371_6 (g := (mkF m 133 #[.val (.ref aa), .val (.int (Int32.ofNat i)), .val (.int ((Int32.ofNat ((own_h U) ((own_l U) i))) - (Int32.ofNat ((own_h U) ((own_r U) i))))), .val (.int (Int32.ofNat i)), .val (.int (Int32.ofNat ((own_r U) i)))] [(.ref aa)])) rfl rfl (hb hby d7_133)
        obtain ⟨cq417, q417, q417'⟩ := t371_0.cell
        obtain ⟨_, _, ⟨T417, L417, k417, n417⟩, -, X417, ⟨Lc417, hQ417, l417, y417, z417⟩, st417⟩ := X416.privateBack hx (y := (⟨"com/example/berthline/berthline/engine/replay/EstimatedEnds", "rotateRight", "(I)I"⟩ : MethodName)) hown (mvT hZ (hw _ (List.mem_of_getElem? (i := 59) rfl))) (mvT hZ (hw _ (List.mem_of_getElem? (i := 60) rfl))) (own_selects hZ (hw _ (List.mem_of_getElem? (i := 1) rfl)) (hw _ (List.mem_of_getElem? (i := 61) rfl)) (hw _ (List.mem_of_getElem? (i := 60) rfl)) (by decide)) (Cond.privateMethod_at (mvP hZ (hw _ (List.mem_of_getElem? (i := 61) rfl)) (args := #[]))) (mvT hZ (hw _ (List.mem_of_getElem? (i := 62) rfl))) (by decide) (backOf (W := 2) (rm10 l Z a0 hw [] aa ae ap aS ah al ar U rt md ((own_r U) i) (B + 1) T369.heap n0 Z369 g_aa g_ae g_ap g_aS g_ah g_al g_ar hD (TR.mk (S := U) t371_0 t371_1 t371_2 t371_3 t371_4 t371_5 t371_6 t371_7 t371_8 t371_9 t371_10 t371_11 t371_12 t371_13 t371_14 t371_15) (hok1.2.1 _) hok1 (by omega)) hZ (hw _ (List.mem_of_getElem? (i := 62) rfl)) (hw _ (List.mem_of_getElem? (i := 2) rfl)) (by decide) (by decide)) (g := (mkF m 140 #[.val (.ref aa), .val (.int (Int32.ofNat i)), .val (.int ((Int32.ofNat ((own_h U) ((own_l U) i))) - (Int32.ofNat ((own_h U) ((own_r U) i))))), .val (.int (Int32.ofNat i)), .val (.int (Int32.ofNat ((own_r U) i)))] [(.int (Int32.ofNat ((own_r U) i))), (.ref aa), (.int (Int32.ofNat i)), (.ref ar)])) rfl (by rw [hml]; rfl) (Steps.refl _) (a := aa) (by rw [e416]; exact q417) q417' (argsL := [(.int (Int32.ofNat ((own_r U) i)))]) (rest := [(.int (Int32.ofNat i)), (.ref ar)]) (lenOf pd_216441 rfl) rfl (by show 2 * 0 + _ ≤ _; exact Nat.le_of_eq rfl) (hb hby d7_140) (fun _ _ => ⟨rfl, e416, (by decide : 0 + 0 ≤ _), (by decide : 0 + 0 ≤ _)⟩)
        dsimp only [Pt.U, Pt.locs, Pt.cells, Pt.slots] at X417 l417 y417 z417 st417 hQ417
        subst l417 y417 z417
        obtain ⟨rfl, N417q, K417c, G417_0⟩ := hQ417
        have N417 := Fr.app N369 N417q
        have E_418 := t371_0.keep K417c
        have Z417 : n0 ≤ T417.heap.size := Nat.le_trans Z369 K417c.1
        have K417 : Keep h0 T417.heap [aa, ae, ap, aS, ah, al, ar] := K369.trans K417c (allS (P := fun x => x ∈ [aa, ae, ap, aS, ah, al, ar] ∨ h0.size ≤ x) (Or.inl (List.mem_of_getElem? (i := 0) rfl)) (allS (P := fun x => x ∈ [aa, ae, ap, aS, ah, al, ar] ∨ h0.size ≤ x) (Or.inl (List.mem_of_getElem? (i := 1) rfl)) (allS (P := fun x => x ∈ [aa, ae, ap, aS, ah, al, ar] ∨ h0.size ≤ x) (Or.inl (List.mem_of_getElem? (i := 2) rfl)) (allS (P := fun x => x ∈ [aa, ae, ap, aS, ah, al, ar] ∨ h0.size ≤ x) (Or.inl (List.mem_of_getElem? (i := 3) rfl)) (allS (P := fun x => x ∈ [aa, ae, ap, aS, ah, al, ar] ∨ h0.size ≤ x) (Or.inl (List.mem_of_getElem? (i := 4) rfl)) (allS (P := fun x => x ∈ [aa, ae, ap, aS, ah, al, ar] ∨ h0.size ≤ x) (Or.inl (List.mem_of_getElem? (i := 5) rfl)) (allS (P := fun x => x ∈ [aa, ae, ap, aS, ah, al, ar] ∨ h0.size ≤ x) (Or.inl (List.mem_of_getElem? (i := 6) rfl)) all0)))))))
        obtain ⟨t419_0, t419_1, t419_2, t419_3, t419_4, t419_5, t419_6, t419_7, t419_8, t419_9, t419_10, t419_11, t419_12, t419_13, t419_14, t419_15⟩ := G417_0
        obtain ⟨T420, h420, X420, e420, W420, V420, st420⟩ := IA.store X417 hx hZ rfl t419_15 i (own_cl hi (by decide)) (own_nn hi (by decide)) hi (x := (own_l U ((own_r U) i))) (g := (mkF m 143 #[.val (.ref aa), .val (.int (Int32.ofNat i)), .val (.int ((Int32.ofNat ((own_h U) ((own_l U) i))) - (Int32.ofNat ((own_h U) ((own_r U) i))))), .val (.int (Int32.ofNat i)), .val (.int (Int32.ofNat ((own_r U) i)))] [(.int (Int32.ofNat (own_l U ((own_r U) i)))), (.int (Int32.ofNat i)), (.ref ar)])) rfl rfl (hb hby d7_143)
        have E_421 := t419_0.wr W420
        have F_422 := t419_1.other W420 (Or.inl dd367_5)
        have F_423 := t419_2.other W420 (Or.inl dd367_5)
        have F_424 := t419_3.other W420 (Or.inl dd367_5)
        have F_425 := t419_4.other W420 (Or.inl dd367_5)
        have F_426 := t419_5.other W420 (Or.inl dd367_5)
        have F_427 := t419_6.other W420 (Or.inl dd367_5)
        have F_428 := t419_7.other W420 (Or.inl dd367_5)
        have F_429 := t419_8.other W420 (Or.inl dd367_5)
        have F_430 := t419_9.other W420 (Or.inl dd367_5)
        have V_431 := t419_10.other W420 dd367_10
        have V_432 := t419_11.other W420 dd367_14
        have V_433 := t419_12.other W420 dd367_17
        have V_434 := t419_13.other W420 dd367_19
        have V_435 := t419_14.other W420 dd367_20
        have N420 := Fr.snoc X420 N417 g_ar
        have Z420 : n0 ≤ h420.size := Nat.le_trans Z417 (Keep.of_wr W420).1
        have K420 : Keep h0 h420 [aa, ae, ap, aS, ah, al, ar] := K417.wr W420 (Or.inl (List.mem_of_getElem? (i := 6) rfl))
        obtain ⟨cq436, q436, q436'⟩ := E_421.cell
        obtain ⟨_, _, ⟨T436, L436, k436, n436⟩, -, X436, ⟨Lc436, hQ436, l436, y436, z436⟩, st436⟩ := X420.privateBack hx (y := (⟨"com/example/berthline/berthline/engine/replay/EstimatedEnds", "rotateLeft", "(I)I"⟩ : MethodName)) hown (mvT hZ (hw _ (List.mem_of_getElem? (i := 67) rfl))) (mvT hZ (hw _ (List.mem_of_getElem? (i := 68) rfl))) (own_selects hZ (hw _ (List.mem_of_getElem? (i := 1) rfl)) (hw _ (List.mem_of_getElem? (i := 69) rfl)) (hw _ (List.mem_of_getElem? (i := 68) rfl)) (by decide)) (Cond.privateMethod_at (mvP hZ (hw _ (List.mem_of_getElem? (i := 69) rfl)) (args := #[]))) (mvT hZ (hw _ (List.mem_of_getElem? (i := 70) rfl))) (by decide) (backOf (W := 0) (rm12 l Z a0 hw [] aa ae ap aS ah al ar (own_setR (own_rotR U ((own_r U) i)) i (own_l U ((own_r U) i))) rt md i (B + 1 + 2) h420 n0 Z420 g_aa g_ae g_ap g_aS g_ah g_al g_ar hD (TR.mk (S := (own_setR (own_rotR U ((own_r U) i)) i (own_l U ((own_r U) i)))) E_421 F_422 F_423 F_424 F_425 F_426 F_427 F_428 F_429 F_430 V_431 V_432 V_433 V_434 V_435 V420) hi (own_ok_setR (own_ok_rotR hok1 (hok1.2.1 i)) (hok1.1 _)) (by omega)) hZ (hw _ (List.mem_of_getElem? (i := 70) rfl)) (hw _ (List.mem_of_getElem? (i := 2) rfl)) (by decide) (by decide)) (g := (mkF m 146 #[.val (.ref aa), .val (.int (Int32.ofNat i)), .val (.int ((Int32.ofNat ((own_h U) ((own_l U) i))) - (Int32.ofNat ((own_h U) ((own_r U) i))))), .val (.int (Int32.ofNat i)), .val (.int (Int32.ofNat ((own_r U) i)))] [(.int (Int32.ofNat i)), (.ref aa)])) rfl (by rw [hml]; rfl) (Steps.refl _) (a := aa) (by rw [e420]; exact q436) q436' (argsL := [(.int (Int32.ofNat i))]) (rest := []) (lenOf pd_216441 rfl) rfl (by show 2 * 0 + _ ≤ _; exact Nat.le_of_eq rfl) (hb hby d7_146) (fun _ _ => ⟨rfl, e420, (by decide : 0 + 0 ≤ _), (by decide : 0 + 0 ≤ _)⟩)
        dsimp only [Pt.U, Pt.locs, Pt.cells, Pt.slots] at X436 l436 y436 z436 st436 hQ436
        subst l436 y436 z436
        obtain ⟨rfl, N436q, K436c, G436_0⟩ := hQ436
        have N436 := Fr.app N420 N436q
        have E_437 := E_421.keep K436c
        have Z436 : n0 ≤ T436.heap.size := Nat.le_trans Z420 K436c.1
        have K436 : Keep h0 T436.heap [aa, ae, ap, aS, ah, al, ar] := K420.trans K436c (allS (P := fun x => x ∈ [aa, ae, ap, aS, ah, al, ar] ∨ h0.size ≤ x) (Or.inl (List.mem_of_getElem? (i := 0) rfl)) (allS (P := fun x => x ∈ [aa, ae, ap, aS, ah, al, ar] ∨ h0.size ≤ x) (Or.inl (List.mem_of_getElem? (i := 1) rfl)) (allS (P := fun x => x ∈ [aa, ae, ap, aS, ah, al, ar] ∨ h0.size ≤ x) (Or.inl (List.mem_of_getElem? (i := 2) rfl)) (allS (P := fun x => x ∈ [aa, ae, ap, aS, ah, al, ar] ∨ h0.size ≤ x) (Or.inl (List.mem_of_getElem? (i := 3) rfl)) (allS (P := fun x => x ∈ [aa, ae, ap, aS, ah, al, ar] ∨ h0.size ≤ x) (Or.inl (List.mem_of_getElem? (i := 4) rfl)) (allS (P := fun x => x ∈ [aa, ae, ap, aS, ah, al, ar] ∨ h0.size ≤ x) (Or.inl (List.mem_of_getElem? (i := 5) rfl)) (allS (P := fun x => x ∈ [aa, ae, ap, aS, ah, al, ar] ∨ h0.size ≤ x) (Or.inl (List.mem_of_getElem? (i := 6) rfl)) all0)))))))
        obtain ⟨t438_0, t438_1, t438_2, t438_3, t438_4, t438_5, t438_6, t438_7, t438_8, t438_9, t438_10, t438_11, t438_12, t438_13, t438_14, t438_15⟩ := G436_0
        have hbq : own_bal S i = ((own_rotL (own_setR (own_rotR U ((own_r U) i)) i (own_l U ((own_r U) i))) i), (own_r (own_setR (own_rotR U ((own_r U) i)) i (own_l U ((own_r U) i))) i)) := by unfold own_bal; rw [← hU]; unfold own_balU; rw [if_neg hc376, if_pos hc409, if_pos hc415]
        obtain ⟨fs, hr, hrun, hended, hW, hsame⟩ := X436.leave (v := some (.int (Int32.ofNat (own_r (own_setR (own_rotR U ((own_r U) i)) i (own_l U ((own_r U) i))) i)))) (fun h => by rw [Bd.returns] at h; cases h)
        refine ⟨_, _, pre0 _ ?_, hrun, hended, _, _, rfl, ?_, ⟨_, rfl⟩, hW, hsame.mono (by decide) (by decide)⟩
        · show Steps p.tables e below (s₁.setTop (mkF m 0 #[.val (.ref aa), .val (.int (Int32.ofNat i)), .unset, .unset, .unset] [])) _
          refine XS.aloadN X0.here hx rfl (hb hby d7_0) rfl rfl ?_
          show Steps p.tables e below (s₁.setTop (mkF m 1 #[.val (.ref aa), .val (.int (Int32.ofNat i)), .unset, .unset, .unset] [(.ref aa)])) _
          refine XS.iloadN X0.here hx rfl (hb hby d7_1) rfl ?_
          show Steps p.tables e below (s₁.setTop (mkF m 2 #[.val (.ref aa), .val (.int (Int32.ofNat i)), .unset, .unset, .unset] [(.int (Int32.ofNat i)), (.ref aa)])) _
          refine st369.trans ?_
          show Steps p.tables e below (T369.setTop (mkF m 5 #[.val (.ref aa), .val (.int (Int32.ofNat i)), .unset, .unset, .unset] [])) _
          refine XS.aloadN X369.here hx rfl (hb hby d7_5) rfl rfl ?_
          show Steps p.tables e below (T369.setTop (mkF m 6 #[.val (.ref aa), .val (.int (Int32.ofNat i)), .unset, .unset, .unset] [(.ref aa)])) _
          refine st372 _ ?_
          show Steps p.tables e below (T372.setTop (mkF m 9 #[.val (.ref aa), .val (.int (Int32.ofNat i)), .unset, .unset, .unset] [(.ref ah)])) _
          refine XS.aloadN X372.here hx rfl (hb hby d7_9) rfl rfl ?_
          show Steps p.tables e below (T372.setTop (mkF m 10 #[.val (.ref aa), .val (.int (Int32.ofNat i)), .unset, .unset, .unset] [(.ref aa), (.ref ah)])) _
          refine st373 _ ?_
          show Steps p.tables e below (T373.setTop (mkF m 13 #[.val (.ref aa), .val (.int (Int32.ofNat i)), .unset, .unset, .unset] [(.ref al), (.ref ah)])) _
          refine XS.iloadN X373.here hx rfl (hb hby d7_13) rfl ?_
          show Steps p.tables e below (T373.setTop (mkF m 14 #[.val (.ref aa), .val (.int (Int32.ofNat i)), .unset, .unset, .unset] [(.int (Int32.ofNat i)), (.ref al), (.ref ah)])) _
          refine IA.load X373 hx hZ e373 t371_14 i (own_cl hi (by decide)) (own_nn hi (by decide)) hi (g := (mkF m 14 #[.val (.ref aa), .val (.int (Int32.ofNat i)), .unset, .unset, .unset] [(.int (Int32.ofNat i)), (.ref al), (.ref ah)])) rfl rfl (hb hby d7_14) _ ?_
          show Steps p.tables e below (T373.setTop (mkF m 15 #[.val (.ref aa), .val (.int (Int32.ofNat i)), .unset, .unset, .unset] [(.int (Int32.ofNat ((own_l U) i))), (.ref ah)])) _
          refine IA.load X373 hx hZ e373 t371_13 ((own_l U) i) (own_cl (by first | assumption | exact hok1.1 _ | exact hok1.2.1 _ | exact hok.1 _ | exact hok.2.1 _ | omega) (by decide)) (own_nn (by first | assumption | exact hok1.1 _ | exact hok1.2.1 _ | exact hok.1 _ | exact hok.2.1 _ | omega) (by decide)) (by first | assumption | exact hok1.1 _ | exact hok1.2.1 _ | exact hok.1 _ | exact hok.2.1 _ | omega) (g := (mkF m 15 #[.val (.ref aa), .val (.int (Int32.ofNat i)), .unset, .unset, .unset] [(.int (Int32.ofNat ((own_l U) i))), (.ref ah)])) rfl rfl (hb hby d7_15) _ ?_
          show Steps p.tables e below (T373.setTop (mkF m 16 #[.val (.ref aa), .val (.int (Int32.ofNat i)), .unset, .unset, .unset] [(.int (Int32.ofNat ((own_h U) ((own_l U) i))))])) _
          refine XS.aloadN X373.here hx rfl (hb hby d7_16) rfl rfl ?_
          show Steps p.tables e below (T373.setTop (mkF m 17 #[.val (.ref aa), .val (.int (Int32.ofNat i)), .unset, .unset, .unset] [(.ref aa), (.int (Int32.ofNat ((own_h U) ((own_l U) i))))])) _
          refine st374 _ ?_
          show Steps p.tables e below (T374.setTop (mkF m 20 #[.val (.ref aa), .val (.int (Int32.ofNat i)), .unset, .unset, .unset] [(.ref ah), (.int (Int32.ofNat ((own_h U) ((own_l U) i))))])) _
          refine XS.aloadN X374.here hx rfl (hb hby d7_20) rfl rfl ?_
          show Steps p.tables e below (T374.setTop (mkF m 21 #[.val (.ref aa), .val (.int (Int32.ofNat i)), .unset, .unset, .unset] [(.ref aa), (.ref ah), (.int (Int32.ofNat ((own_h U) ((own_l U) i))))])) _
          refine st375 _ ?_
          show Steps p.tables e below (T375.setTop (mkF m 24 #[.val (.ref aa), .val (.int (Int32.ofNat i)), .unset, .unset, .unset] [(.ref ar), (.ref ah), (.int (Int32.ofNat ((own_h U) ((own_l U) i))))])) _
          refine XS.iloadN X375.here hx rfl (hb hby d7_24) rfl ?_
          show Steps p.tables e below (T375.setTop (mkF m 25 #[.val (.ref aa), .val (.int (Int32.ofNat i)), .unset, .unset, .unset] [(.int (Int32.ofNat i)), (.ref ar), (.ref ah), (.int (Int32.ofNat ((own_h U) ((own_l U) i))))])) _
          refine IA.load X375 hx hZ e375 t371_15 i (own_cl hi (by decide)) (own_nn hi (by decide)) hi (g := (mkF m 25 #[.val (.ref aa), .val (.int (Int32.ofNat i)), .unset, .unset, .unset] [(.int (Int32.ofNat i)), (.ref ar), (.ref ah), (.int (Int32.ofNat ((own_h U) ((own_l U) i))))])) rfl rfl (hb hby d7_25) _ ?_
          show Steps p.tables e below (T375.setTop (mkF m 26 #[.val (.ref aa), .val (.int (Int32.ofNat i)), .unset, .unset, .unset] [(.int (Int32.ofNat ((own_r U) i))), (.ref ah), (.int (Int32.ofNat ((own_h U) ((own_l U) i))))])) _
          refine IA.load X375 hx hZ e375 t371_13 ((own_r U) i) (own_cl (by first | assumption | exact hok1.1 _ | exact hok1.2.1 _ | exact hok.1 _ | exact hok.2.1 _ | omega) (by decide)) (own_nn (by first | assumption | exact hok1.1 _ | exact hok1.2.1 _ | exact hok.1 _ | exact hok.2.1 _ | omega) (by decide)) (by first | assumption | exact hok1.1 _ | exact hok1.2.1 _ | exact hok.1 _ | exact hok.2.1 _ | omega) (g := (mkF m 26 #[.val (.ref aa), .val (.int (Int32.ofNat i)), .unset, .unset, .unset] [(.int (Int32.ofNat ((own_r U) i))), (.ref ah), (.int (Int32.ofNat ((own_h U) ((own_l U) i))))])) rfl rfl (hb hby d7_26) _ ?_
          show Steps p.tables e below (T375.setTop (mkF m 27 #[.val (.ref aa), .val (.int (Int32.ofNat i)), .unset, .unset, .unset] [(.int (Int32.ofNat ((own_h U) ((own_r U) i)))), (.int (Int32.ofNat ((own_h U) ((own_l U) i))))])) _
          refine XS.isub X375.here hx rfl (hb hby d7_27) rfl ?_
          show Steps p.tables e below (T375.setTop (mkF m 28 #[.val (.ref aa), .val (.int (Int32.ofNat i)), .unset, .unset, .unset] [(.int ((Int32.ofNat ((own_h U) ((own_l U) i))) - (Int32.ofNat ((own_h U) ((own_r U) i)))))])) _
          refine XS.istoreN X375.here hx rfl (hb hby d7_28) rfl (l' := #[.val (.ref aa), .val (.int (Int32.ofNat i)), .val (.int ((Int32.ofNat ((own_h U) ((own_l U) i))) - (Int32.ofNat ((own_h U) ((own_r U) i))))), .unset, .unset]) rfl ?_
          show Steps p.tables e below (T375.setTop (mkF m 29 #[.val (.ref aa), .val (.int (Int32.ofNat i)), .val (.int ((Int32.ofNat ((own_h U) ((own_l U) i))) - (Int32.ofNat ((own_h U) ((own_r U) i))))), .unset, .unset] [])) _
          refine XS.iloadN X375.here hx rfl (hb hby d7_29) rfl ?_
          show Steps p.tables e below (T375.setTop (mkF m 30 #[.val (.ref aa), .val (.int (Int32.ofNat i)), .val (.int ((Int32.ofNat ((own_h U) ((own_l U) i))) - (Int32.ofNat ((own_h U) ((own_r U) i))))), .unset, .unset] [(.int (Int32.ofNat i))])) _
          refine XS.istoreN X375.here hx rfl (hb hby d7_30) rfl (l' := #[.val (.ref aa), .val (.int (Int32.ofNat i)), .val (.int ((Int32.ofNat ((own_h U) ((own_l U) i))) - (Int32.ofNat ((own_h U) ((own_r U) i))))), .val (.int (Int32.ofNat i)), .unset]) rfl ?_
          show Steps p.tables e below (T375.setTop (mkF m 31 #[.val (.ref aa), .val (.int (Int32.ofNat i)), .val (.int ((Int32.ofNat ((own_h U) ((own_l U) i))) - (Int32.ofNat ((own_h U) ((own_r U) i))))), .val (.int (Int32.ofNat i)), .unset] [])) _
          refine XS.iloadN X375.here hx rfl (hb hby d7_31) rfl ?_
          show Steps p.tables e below (T375.setTop (mkF m 32 #[.val (.ref aa), .val (.int (Int32.ofNat i)), .val (.int ((Int32.ofNat ((own_h U) ((own_l U) i))) - (Int32.ofNat ((own_h U) ((own_r U) i))))), .val (.int (Int32.ofNat i)), .unset] [(.int ((Int32.ofNat ((own_h U) ((own_l U) i))) - (Int32.ofNat ((own_h U) ((own_r U) i)))))])) _
          refine XS.iconst X375.here hx rfl (hb hby d7_32) ?_
          show Steps p.tables e below (T375.setTop (mkF m 33 #[.val (.ref aa), .val (.int (Int32.ofNat i)), .val (.int ((Int32.ofNat ((own_h U) ((own_l U) i))) - (Int32.ofNat ((own_h U) ((own_r U) i))))), .val (.int (Int32.ofNat i)), .unset] [(.int (1 : Int32)), (.int ((Int32.ofNat ((own_h U) ((own_l U) i))) - (Int32.ofNat ((own_h U) ((own_r U) i)))))])) _
          refine XS.icmpYes X375.here hx rfl (pc0 := 33) (pc' := 92) rfl (hb hby d7_33) rfl (flt hc376).2.2.2 (by decide) (by decide) ?_
          show Steps p.tables e below (T375.setTop (mkF m 92 #[.val (.ref aa), .val (.int (Int32.ofNat i)), .val (.int ((Int32.ofNat ((own_h U) ((own_l U) i))) - (Int32.ofNat ((own_h U) ((own_r U) i))))), .val (.int (Int32.ofNat i)), .unset] [])) _
          refine XS.iloadN X375.here hx rfl (hb hby d7_92) rfl ?_
          show Steps p.tables e below (T375.setTop (mkF m 93 #[.val (.ref aa), .val (.int (Int32.ofNat i)), .val (.int ((Int32.ofNat ((own_h U) ((own_l U) i))) - (Int32.ofNat ((own_h U) ((own_r U) i))))), .val (.int (Int32.ofNat i)), .unset] [(.int ((Int32.ofNat ((own_h U) ((own_l U) i))) - (Int32.ofNat ((own_h U) ((own_r U) i)))))])) _
          refine XS.iconst X375.here hx rfl (hb hby d7_93) ?_
          show Steps p.tables e below (T375.setTop (mkF m 94 #[.val (.ref aa), .val (.int (Int32.ofNat i)), .val (.int ((Int32.ofNat ((own_h U) ((own_l U) i))) - (Int32.ofNat ((own_h U) ((own_r U) i))))), .val (.int (Int32.ofNat i)), .unset] [(.int (-1 : Int32)), (.int ((Int32.ofNat ((own_h U) ((own_l U) i))) - (Int32.ofNat ((own_h U) ((own_r U) i)))))])) _
          refine XS.icmpNo X375.here hx rfl (hb hby d7_94) rfl (tlt hc409).2.1 ?_
          show Steps p.tables e below (T375.setTop (mkF m 97 #[.val (.ref aa), .val (.int (Int32.ofNat i)), .val (.int ((Int32.ofNat ((own_h U) ((own_l U) i))) - (Int32.ofNat ((own_h U) ((own_r U) i))))), .val (.int (Int32.ofNat i)), .unset] [])) _
          refine XS.aloadN X375.here hx rfl (hb hby d7_97) rfl rfl ?_
          show Steps p.tables e below (T375.setTop (mkF m 98 #[.val (.ref aa), .val (.int (Int32.ofNat i)), .val (.int ((Int32.ofNat ((own_h U) ((own_l U) i))) - (Int32.ofNat ((own_h U) ((own_r U) i))))), .val (.int (Int32.ofNat i)), .unset] [(.ref aa)])) _
          refine st410 _ ?_
          show Steps p.tables e below (T410.setTop (mkF m 101 #[.val (.ref aa), .val (.int (Int32.ofNat i)), .val (.int ((Int32.ofNat ((own_h U) ((own_l U) i))) - (Int32.ofNat ((own_h U) ((own_r U) i))))), .val (.int (Int32.ofNat i)), .unset] [(.ref ar)])) _
          refine XS.iloadN X410.here hx rfl (hb hby d7_101) rfl ?_
          show Steps p.tables e below (T410.setTop (mkF m 102 #[.val (.ref aa), .val (.int (Int32.ofNat i)), .val (.int ((Int32.ofNat ((own_h U) ((own_l U) i))) - (Int32.ofNat ((own_h U) ((own_r U) i))))), .val (.int (Int32.ofNat i)), .unset] [(.int (Int32.ofNat i)), (.ref ar)])) _
          refine IA.load X410 hx hZ e410 t371_15 i (own_cl hi (by decide)) (own_nn hi (by decide)) hi (g := (mkF m 102 #[.val (.ref aa), .val (.int (Int32.ofNat i)), .val (.int ((Int32.ofNat ((own_h U) ((own_l U) i))) - (Int32.ofNat ((own_h U) ((own_r U) i))))), .val (.int (Int32.ofNat i)), .unset] [(.int (Int32.ofNat i)), (.ref ar)])) rfl rfl (hb hby d7_102) _ ?_
          show Steps p.tables e below (T410.setTop (mkF m 103 #[.val (.ref aa), .val (.int (Int32.ofNat i)), .val (.int ((Int32.ofNat ((own_h U) ((own_l U) i))) - (Int32.ofNat ((own_h U) ((own_r U) i))))), .val (.int (Int32.ofNat i)), .unset] [(.int (Int32.ofNat ((own_r U) i)))])) _
          refine XS.istore X410.here hx rfl (hb hby d7_103) rfl (l' := #[.val (.ref aa), .val (.int (Int32.ofNat i)), .val (.int ((Int32.ofNat ((own_h U) ((own_l U) i))) - (Int32.ofNat ((own_h U) ((own_r U) i))))), .val (.int (Int32.ofNat i)), .val (.int (Int32.ofNat ((own_r U) i)))]) rfl ?_
          show Steps p.tables e below (T410.setTop (mkF m 105 #[.val (.ref aa), .val (.int (Int32.ofNat i)), .val (.int ((Int32.ofNat ((own_h U) ((own_l U) i))) - (Int32.ofNat ((own_h U) ((own_r U) i))))), .val (.int (Int32.ofNat i)), .val (.int (Int32.ofNat ((own_r U) i)))] [])) _
          refine XS.aloadN X410.here hx rfl (hb hby d7_105) rfl rfl ?_
          show Steps p.tables e below (T410.setTop (mkF m 106 #[.val (.ref aa), .val (.int (Int32.ofNat i)), .val (.int ((Int32.ofNat ((own_h U) ((own_l U) i))) - (Int32.ofNat ((own_h U) ((own_r U) i))))), .val (.int (Int32.ofNat i)), .val (.int (Int32.ofNat ((own_r U) i)))] [(.ref aa)])) _
          refine st411 _ ?_
          show Steps p.tables e below (T411.setTop (mkF m 109 #[.val (.ref aa), .val (.int (Int32.ofNat i)), .val (.int ((Int32.ofNat ((own_h U) ((own_l U) i))) - (Int32.ofNat ((own_h U) ((own_r U) i))))), .val (.int (Int32.ofNat i)), .val (.int (Int32.ofNat ((own_r U) i)))] [(.ref ah)])) _
          refine XS.aloadN X411.here hx rfl (hb hby d7_109) rfl rfl ?_
          show Steps p.tables e below (T411.setTop (mkF m 110 #[.val (.ref aa), .val (.int (Int32.ofNat i)), .val (.int ((Int32.ofNat ((own_h U) ((own_l U) i))) - (Int32.ofNat ((own_h U) ((own_r U) i))))), .val (.int (Int32.ofNat i)), .val (.int (Int32.ofNat ((own_r U) i)))] [(.ref aa), (.ref ah)])) _
          refine st412 _ ?_
          show Steps p.tables e below (T412.setTop (mkF m 113 #[.val (.ref aa), .val (.int (Int32.ofNat i)), .val (.int ((Int32.ofNat ((own_h U) ((own_l U) i))) - (Int32.ofNat ((own_h U) ((own_r U) i))))), .val (.int (Int32.ofNat i)), .val (.int (Int32.ofNat ((own_r U) i)))] [(.ref ar), (.ref ah)])) _
          refine XS.iload X412.here hx rfl (hb hby d7_113) rfl ?_
          show Steps p.tables e below (T412.setTop (mkF m 115 #[.val (.ref aa), .val (.int (Int32.ofNat i)), .val (.int ((Int32.ofNat ((own_h U) ((own_l U) i))) - (Int32.ofNat ((own_h U) ((own_r U) i))))), .val (.int (Int32.ofNat i)), .val (.int (Int32.ofNat ((own_r U) i)))] [(.int (Int32.ofNat ((own_r U) i))), (.ref ar), (.ref ah)])) _
          refine IA.load X412 hx hZ e412 t371_15 ((own_r U) i) (own_cl (by first | assumption | exact hok1.1 _ | exact hok1.2.1 _ | exact hok.1 _ | exact hok.2.1 _ | omega) (by decide)) (own_nn (by first | assumption | exact hok1.1 _ | exact hok1.2.1 _ | exact hok.1 _ | exact hok.2.1 _ | omega) (by decide)) (by first | assumption | exact hok1.1 _ | exact hok1.2.1 _ | exact hok.1 _ | exact hok.2.1 _ | omega) (g := (mkF m 115 #[.val (.ref aa), .val (.int (Int32.ofNat i)), .val (.int ((Int32.ofNat ((own_h U) ((own_l U) i))) - (Int32.ofNat ((own_h U) ((own_r U) i))))), .val (.int (Int32.ofNat i)), .val (.int (Int32.ofNat ((own_r U) i)))] [(.int (Int32.ofNat ((own_r U) i))), (.ref ar), (.ref ah)])) rfl rfl (hb hby d7_115) _ ?_
          show Steps p.tables e below (T412.setTop (mkF m 116 #[.val (.ref aa), .val (.int (Int32.ofNat i)), .val (.int ((Int32.ofNat ((own_h U) ((own_l U) i))) - (Int32.ofNat ((own_h U) ((own_r U) i))))), .val (.int (Int32.ofNat i)), .val (.int (Int32.ofNat ((own_r U) i)))] [(.int (Int32.ofNat ((own_r U) ((own_r U) i)))), (.ref ah)])) _
          refine IA.load X412 hx hZ e412 t371_13 ((own_r U) ((own_r U) i)) (own_cl (by first | assumption | exact hok1.1 _ | exact hok1.2.1 _ | exact hok.1 _ | exact hok.2.1 _ | omega) (by decide)) (own_nn (by first | assumption | exact hok1.1 _ | exact hok1.2.1 _ | exact hok.1 _ | exact hok.2.1 _ | omega) (by decide)) (by first | assumption | exact hok1.1 _ | exact hok1.2.1 _ | exact hok.1 _ | exact hok.2.1 _ | omega) (g := (mkF m 116 #[.val (.ref aa), .val (.int (Int32.ofNat i)), .val (.int ((Int32.ofNat ((own_h U) ((own_l U) i))) - (Int32.ofNat ((own_h U) ((own_r U) i))))), .val (.int (Int32.ofNat i)), .val (.int (Int32.ofNat ((own_r U) i)))] [(.int (Int32.ofNat ((own_r U) ((own_r U) i)))), (.ref ah)])) rfl rfl (hb hby d7_116) _ ?_
          show Steps p.tables e below (T412.setTop (mkF m 117 #[.val (.ref aa), .val (.int (Int32.ofNat i)), .val (.int ((Int32.ofNat ((own_h U) ((own_l U) i))) - (Int32.ofNat ((own_h U) ((own_r U) i))))), .val (.int (Int32.ofNat i)), .val (.int (Int32.ofNat ((own_r U) i)))] [(.int (Int32.ofNat ((own_h U) ((own_r U) ((own_r U) i)))))])) _
          refine XS.aloadN X412.here hx rfl (hb hby d7_117) rfl rfl ?_
          show Steps p.tables e below (T412.setTop (mkF m 118 #[.val (.ref aa), .val (.int (Int32.ofNat i)), .val (.int ((Int32.ofNat ((own_h U) ((own_l U) i))) - (Int32.ofNat ((own_h U) ((own_r U) i))))), .val (.int (Int32.ofNat i)), .val (.int (Int32.ofNat ((own_r U) i)))] [(.ref aa), (.int (Int32.ofNat ((own_h U) ((own_r U) ((own_r U) i)))))])) _
          refine st413 _ ?_
          show Steps p.tables e below (T413.setTop (mkF m 121 #[.val (.ref aa), .val (.int (Int32.ofNat i)), .val (.int ((Int32.ofNat ((own_h U) ((own_l U) i))) - (Int32.ofNat ((own_h U) ((own_r U) i))))), .val (.int (Int32.ofNat i)), .val (.int (Int32.ofNat ((own_r U) i)))] [(.ref ah), (.int (Int32.ofNat ((own_h U) ((own_r U) ((own_r U) i)))))])) _
          refine XS.aloadN X413.here hx rfl (hb hby d7_121) rfl rfl ?_
          show Steps p.tables e below (T413.setTop (mkF m 122 #[.val (.ref aa), .val (.int (Int32.ofNat i)), .val (.int ((Int32.ofNat ((own_h U) ((own_l U) i))) - (Int32.ofNat ((own_h U) ((own_r U) i))))), .val (.int (Int32.ofNat i)), .val (.int (Int32.ofNat ((own_r U) i)))] [(.ref aa), (.ref ah), (.int (Int32.ofNat ((own_h U) ((own_r U) ((own_r U) i)))))])) _
          refine st414 _ ?_
          show Steps p.tables e below (T414.setTop (mkF m 125 #[.val (.ref aa), .val (.int (Int32.ofNat i)), .val (.int ((Int32.ofNat ((own_h U) ((own_l U) i))) - (Int32.ofNat ((own_h U) ((own_r U) i))))), .val (.int (Int32.ofNat i)), .val (.int (Int32.ofNat ((own_r U) i)))] [(.ref al), (.ref ah), (.int (Int32.ofNat ((own_h U) ((own_r U) ((own_r U) i)))))])) _
          refine XS.iload X414.here hx rfl (hb hby d7_125) rfl ?_
          show Steps p.tables e below (T414.setTop (mkF m 127 #[.val (.ref aa), .val (.int (Int32.ofNat i)), .val (.int ((Int32.ofNat ((own_h U) ((own_l U) i))) - (Int32.ofNat ((own_h U) ((own_r U) i))))), .val (.int (Int32.ofNat i)), .val (.int (Int32.ofNat ((own_r U) i)))] [(.int (Int32.ofNat ((own_r U) i))), (.ref al), (.ref ah), (.int (Int32.ofNat ((own_h U) ((own_r U) ((own_r U) i)))))])) _
          refine IA.load X414 hx hZ e414 t371_14 ((own_r U) i) (own_cl (by first | assumption | exact hok1.1 _ | exact hok1.2.1 _ | exact hok.1 _ | exact hok.2.1 _ | omega) (by decide)) (own_nn (by first | assumption | exact hok1.1 _ | exact hok1.2.1 _ | exact hok.1 _ | exact hok.2.1 _ | omega) (by decide)) (by first | assumption | exact hok1.1 _ | exact hok1.2.1 _ | exact hok.1 _ | exact hok.2.1 _ | omega) (g := (mkF m 127 #[.val (.ref aa), .val (.int (Int32.ofNat i)), .val (.int ((Int32.ofNat ((own_h U) ((own_l U) i))) - (Int32.ofNat ((own_h U) ((own_r U) i))))), .val (.int (Int32.ofNat i)), .val (.int (Int32.ofNat ((own_r U) i)))] [(.int (Int32.ofNat ((own_r U) i))), (.ref al), (.ref ah), (.int (Int32.ofNat ((own_h U) ((own_r U) ((own_r U) i)))))])) rfl rfl (hb hby d7_127) _ ?_
          show Steps p.tables e below (T414.setTop (mkF m 128 #[.val (.ref aa), .val (.int (Int32.ofNat i)), .val (.int ((Int32.ofNat ((own_h U) ((own_l U) i))) - (Int32.ofNat ((own_h U) ((own_r U) i))))), .val (.int (Int32.ofNat i)), .val (.int (Int32.ofNat ((own_r U) i)))] [(.int (Int32.ofNat ((own_l U) ((own_r U) i)))), (.ref ah), (.int (Int32.ofNat ((own_h U) ((own_r U) ((own_r U) i)))))])) _
          refine IA.load X414 hx hZ e414 t371_13 ((own_l U) ((own_r U) i)) (own_cl (by first | assumption | exact hok1.1 _ | exact hok1.2.1 _ | exact hok.1 _ | exact hok.2.1 _ | omega) (by decide)) (own_nn (by first | assumption | exact hok1.1 _ | exact hok1.2.1 _ | exact hok.1 _ | exact hok.2.1 _ | omega) (by decide)) (by first | assumption | exact hok1.1 _ | exact hok1.2.1 _ | exact hok.1 _ | exact hok.2.1 _ | omega) (g := (mkF m 128 #[.val (.ref aa), .val (.int (Int32.ofNat i)), .val (.int ((Int32.ofNat ((own_h U) ((own_l U) i))) - (Int32.ofNat ((own_h U) ((own_r U) i))))), .val (.int (Int32.ofNat i)), .val (.int (Int32.ofNat ((own_r U) i)))] [(.int (Int32.ofNat ((own_l U) ((own_r U) i)))), (.ref ah), (.int (Int32.ofNat ((own_h U) ((own_r U) ((own_r U) i)))))])) rfl rfl (hb hby d7_128) _ ?_
          show Steps p.tables e below (T414.setTop (mkF m 129 #[.val (.ref aa), .val (.int (Int32.ofNat i)), .val (.int ((Int32.ofNat ((own_h U) ((own_l U) i))) - (Int32.ofNat ((own_h U) ((own_r U) i))))), .val (.int (Int32.ofNat i)), .val (.int (Int32.ofNat ((own_r U) i)))] [(.int (Int32.ofNat ((own_h U) ((own_l U) ((own_r U) i))))), (.int (Int32.ofNat ((own_h U) ((own_r U) ((own_r U) i)))))])) _
          refine XS.icmpNo X414.here hx rfl (hb hby d7_129) rfl (tlt hc415).2.1 ?_
          show Steps p.tables e below (T414.setTop (mkF m 132 #[.val (.ref aa), .val (.int (Int32.ofNat i)), .val (.int ((Int32.ofNat ((own_h U) ((own_l U) i))) - (Int32.ofNat ((own_h U) ((own_r U) i))))), .val (.int (Int32.ofNat i)), .val (.int (Int32.ofNat ((own_r U) i)))] [])) _
          refine XS.aloadN X414.here hx rfl (hb hby d7_132) rfl rfl ?_
          show Steps p.tables e below (T414.setTop (mkF m 133 #[.val (.ref aa), .val (.int (Int32.ofNat i)), .val (.int ((Int32.ofNat ((own_h U) ((own_l U) i))) - (Int32.ofNat ((own_h U) ((own_r U) i))))), .val (.int (Int32.ofNat i)), .val (.int (Int32.ofNat ((own_r U) i)))] [(.ref aa)])) _
          refine st416 _ ?_
          show Steps p.tables e below (T416.setTop (mkF m 136 #[.val (.ref aa), .val (.int (Int32.ofNat i)), .val (.int ((Int32.ofNat ((own_h U) ((own_l U) i))) - (Int32.ofNat ((own_h U) ((own_r U) i))))), .val (.int (Int32.ofNat i)), .val (.int (Int32.ofNat ((own_r U) i)))] [(.ref ar)])) _
          refine XS.iloadN X416.here hx rfl (hb hby d7_136) rfl ?_
          show Steps p.tables e below (T416.setTop (mkF m 137 #[.val (.ref aa), .val (.int (Int32.ofNat i)), .val (.int ((Int32.ofNat ((own_h U) ((own_l U) i))) - (Int32.ofNat ((own_h U) ((own_r U) i))))), .val (.int (Int32.ofNat i)), .val (.int (Int32.ofNat ((own_r U) i)))] [(.int (Int32.ofNat i)), (.ref ar)])) _
          refine XS.aloadN X416.here hx rfl (hb hby d7_137) rfl rfl ?_
          show Steps p.tables e below (T416.setTop (mkF m 138 #[.val (.ref aa), .val (.int (Int32.ofNat i)), .val (.int ((Int32.ofNat ((own_h U) ((own_l U) i))) - (Int32.ofNat ((own_h U) ((own_r U) i))))), .val (.int (Int32.ofNat i)), .val (.int (Int32.ofNat ((own_r U) i)))] [(.ref aa), (.int (Int32.ofNat i)), (.ref ar)])) _
          refine XS.iload X416.here hx rfl (hb hby d7_138) rfl ?_
          show Steps p.tables e below (T416.setTop (mkF m 140 #[.val (.ref aa), .val (.int (Int32.ofNat i)), .val (.int ((Int32.ofNat ((own_h U) ((own_l U) i))) - (Int32.ofNat ((own_h U) ((own_r U) i))))), .val (.int (Int32.ofNat i)), .val (.int (Int32.ofNat ((own_r U) i)))] [(.int (Int32.ofNat ((own_r U) i))), (.ref aa), (.int (Int32.ofNat i)), (.ref ar)])) _
          refine st417.trans ?_
          show Steps p.tables e below (T417.setTop (mkF m 143 #[.val (.ref aa), .val (.int (Int32.ofNat i)), .val (.int ((Int32.ofNat ((own_h U) ((own_l U) i))) - (Int32.ofNat ((own_h U) ((own_r U) i))))), .val (.int (Int32.ofNat i)), .val (.int (Int32.ofNat ((own_r U) i)))] [(.int (Int32.ofNat (own_l U ((own_r U) i)))), (.int (Int32.ofNat i)), (.ref ar)])) _
          refine st420 _ ?_
          show Steps p.tables e below (T420.setTop (mkF m 144 #[.val (.ref aa), .val (.int (Int32.ofNat i)), .val (.int ((Int32.ofNat ((own_h U) ((own_l U) i))) - (Int32.ofNat ((own_h U) ((own_r U) i))))), .val (.int (Int32.ofNat i)), .val (.int (Int32.ofNat ((own_r U) i)))] [])) _
          refine XS.aloadN X420.here hx rfl (hb hby d7_144) rfl rfl ?_
          show Steps p.tables e below (T420.setTop (mkF m 145 #[.val (.ref aa), .val (.int (Int32.ofNat i)), .val (.int ((Int32.ofNat ((own_h U) ((own_l U) i))) - (Int32.ofNat ((own_h U) ((own_r U) i))))), .val (.int (Int32.ofNat i)), .val (.int (Int32.ofNat ((own_r U) i)))] [(.ref aa)])) _
          refine XS.iloadN X420.here hx rfl (hb hby d7_145) rfl ?_
          show Steps p.tables e below (T420.setTop (mkF m 146 #[.val (.ref aa), .val (.int (Int32.ofNat i)), .val (.int ((Int32.ofNat ((own_h U) ((own_l U) i))) - (Int32.ofNat ((own_h U) ((own_r U) i))))), .val (.int (Int32.ofNat i)), .val (.int (Int32.ofNat ((own_r U) i)))] [(.int (Int32.ofNat i)), (.ref aa)])) _
          refine st436.trans ?_
          show Steps p.tables e below (T436.setTop (mkF m 149 #[.val (.ref aa), .val (.int (Int32.ofNat i)), .val (.int ((Int32.ofNat ((own_h U) ((own_l U) i))) - (Int32.ofNat ((own_h U) ((own_r U) i))))), .val (.int (Int32.ofNat i)), .val (.int (Int32.ofNat ((own_r U) i)))] [(.int (Int32.ofNat (own_r (own_setR (own_rotR U ((own_r U) i)) i (own_l U ((own_r U) i))) i)))])) _
          refine XS.istoreN X436.here hx rfl (hb hby d7_149) rfl (l' := #[.val (.ref aa), .val (.int (Int32.ofNat i)), .val (.int ((Int32.ofNat ((own_h U) ((own_l U) i))) - (Int32.ofNat ((own_h U) ((own_r U) i))))), .val (.int (Int32.ofNat (own_r (own_setR (own_rotR U ((own_r U) i)) i (own_l U ((own_r U) i))) i))), .val (.int (Int32.ofNat ((own_r U) i)))]) rfl ?_
          show Steps p.tables e below (T436.setTop (mkF m 150 #[.val (.ref aa), .val (.int (Int32.ofNat i)), .val (.int ((Int32.ofNat ((own_h U) ((own_l U) i))) - (Int32.ofNat ((own_h U) ((own_r U) i))))), .val (.int (Int32.ofNat (own_r (own_setR (own_rotR U ((own_r U) i)) i (own_l U ((own_r U) i))) i))), .val (.int (Int32.ofNat ((own_r U) i)))] [])) _
          refine XS.iloadN X436.here hx rfl (hb hby d7_150) rfl ?_
          show Steps p.tables e below (T436.setTop (mkF m 151 #[.val (.ref aa), .val (.int (Int32.ofNat i)), .val (.int ((Int32.ofNat ((own_h U) ((own_l U) i))) - (Int32.ofNat ((own_h U) ((own_r U) i))))), .val (.int (Int32.ofNat (own_r (own_setR (own_rotR U ((own_r U) i)) i (own_l U ((own_r U) i))) i))), .val (.int (Int32.ofNat ((own_r U) i)))] [(.int (Int32.ofNat (own_r (own_setR (own_rotR U ((own_r U) i)) i (own_l U ((own_r U) i))) i)))])) _
          exact retI X436 hx Bd.returns (hb hby d7_151) hr
        · show Q7 Z aa ae ap aS ah al ar S rt md i B h0 n0 _ T436.heap _
          unfold Q7
          rw [hbq]
          exact ⟨rfl, N436, K436, (TR.mk (S := (own_rotL (own_setR (own_rotR U ((own_r U) i)) i (own_l U ((own_r U) i))) i)) t438_0 t438_1 t438_2 t438_3 t438_4 t438_5 t438_6 t438_7 t438_8 t438_9 t438_10 t438_11 t438_12 t438_13 t438_14 t438_15)⟩
      · obtain ⟨cq439, q439, q439'⟩ := t371_0.cell
        obtain ⟨_, _, ⟨T439, L439, k439, n439⟩, -, X439, ⟨Lc439, hQ439, l439, y439, z439⟩, st439⟩ := X414.privateBack hx (y := (⟨"com/example/berthline/berthline/engine/replay/EstimatedEnds", "rotateLeft", "(I)I"⟩ : MethodName)) hown (mvT hZ (hw _ (List.mem_of_getElem? (i := 67) rfl))) (mvT hZ (hw _ (List.mem_of_getElem? (i := 68) rfl))) (own_selects hZ (hw _ (List.mem_of_getElem? (i := 1) rfl)) (hw _ (List.mem_of_getElem? (i := 69) rfl)) (hw _ (List.mem_of_getElem? (i := 68) rfl)) (by decide)) (Cond.privateMethod_at (mvP hZ (hw _ (List.mem_of_getElem? (i := 69) rfl)) (args := #[]))) (mvT hZ (hw _ (List.mem_of_getElem? (i := 70) rfl))) (by decide) (backOf (W := 0) (rm12 l Z a0 hw [] aa ae ap aS ah al ar U rt md i (B + 1) T369.heap n0 Z369 g_aa g_ae g_ap g_aS g_ah g_al g_ar hD (TR.mk (S := U) t371_0 t371_1 t371_2 t371_3 t371_4 t371_5 t371_6 t371_7 t371_8 t371_9 t371_10 t371_11 t371_12 t371_13 t371_14 t371_15) hi hok1 (by omega)) hZ (hw _ (List.mem_of_getElem? (i := 70) rfl)) (hw _ (List.mem_of_getElem? (i := 2) rfl)) (by decide) (by decide)) (g := (mkF m 146 #[.val (.ref aa), .val (.int (Int32.ofNat i)), .val (.int ((Int32.ofNat ((own_h U) ((own_l U) i))) - (Int32.ofNat ((own_h U) ((own_r U) i))))), .val (.int (Int32.ofNat i)), .val (.int (Int32.ofNat ((own_r U) i)))] [(.int (Int32.ofNat i)), (.ref aa)])) rfl (by rw [hml]; rfl) (Steps.refl _) (a := aa) (by rw [e414]; exact q439) q439' (argsL := [(.int (Int32.ofNat i))]) (rest := []) (lenOf pd_216441 rfl) rfl (by show 2 * 0 + _ ≤ _; exact Nat.le_of_eq rfl) (hb hby d7_146) (fun _ _ => ⟨rfl, e414, (by decide : 0 + 0 ≤ _), (by decide : 0 + 0 ≤ _)⟩)
        dsimp only [Pt.U, Pt.locs, Pt.cells, Pt.slots] at X439 l439 y439 z439 st439 hQ439
        subst l439 y439 z439
        obtain ⟨rfl, N439q, K439c, G439_0⟩ := hQ439
        have N439 := Fr.app N369 N439q
        have E_440 := t371_0.keep K439c
        have Z439 : n0 ≤ T439.heap.size := Nat.le_trans Z369 K439c.1
        have K439 : Keep h0 T439.heap [aa, ae, ap, aS, ah, al, ar] := K369.trans K439c (allS (P := fun x => x ∈ [aa, ae, ap, aS, ah, al, ar] ∨ h0.size ≤ x) (Or.inl (List.mem_of_getElem? (i := 0) rfl)) (allS (P := fun x => x ∈ [aa, ae, ap, aS, ah, al, ar] ∨ h0.size ≤ x) (Or.inl (List.mem_of_getElem? (i := 1) rfl)) (allS (P := fun x => x ∈ [aa, ae, ap, aS, ah, al, ar] ∨ h0.size ≤ x) (Or.inl (List.mem_of_getElem? (i := 2) rfl)) (allS (P := fun x => x ∈ [aa, ae, ap, aS, ah, al, ar] ∨ h0.size ≤ x) (Or.inl (List.mem_of_getElem? (i := 3) rfl)) (allS (P := fun x => x ∈ [aa, ae, ap, aS, ah, al, ar] ∨ h0.size ≤ x) (Or.inl (List.mem_of_getElem? (i := 4) rfl)) (allS (P := fun x => x ∈ [aa, ae, ap, aS, ah, al, ar] ∨ h0.size ≤ x) (Or.inl (List.mem_of_getElem? (i := 5) rfl)) (allS (P := fun x => x ∈ [aa, ae, ap, aS, ah, al, ar] ∨ h0.size ≤ x) (Or.inl (List.mem_of_getElem? (i := 6) rfl)) all0)))))))
        obtain ⟨t441_0, t441_1, t441_2, t441_3, t441_4, t441_5, t441_6, t441_7, t441_8, t441_9, t441_10, t441_11, t441_12, t441_13, t441_14, t441_15⟩ := G439_0
        have hbq : own_bal S i = ((own_rotL U i), (own_r U i)) := by unfold own_bal; rw [← hU]; unfold own_balU; rw [if_neg hc376, if_pos hc409, if_neg hc415]
        obtain ⟨fs, hr, hrun, hended, hW, hsame⟩ := X439.leave (v := some (.int (Int32.ofNat (own_r U i)))) (fun h => by rw [Bd.returns] at h; cases h)
        refine ⟨_, _, pre0 _ ?_, hrun, hended, _, _, rfl, ?_, ⟨_, rfl⟩, hW, hsame.mono (by decide) (by decide)⟩
        · show Steps p.tables e below (s₁.setTop (mkF m 0 #[.val (.ref aa), .val (.int (Int32.ofNat i)), .unset, .unset, .unset] [])) _
          refine XS.aloadN X0.here hx rfl (hb hby d7_0) rfl rfl ?_
          show Steps p.tables e below (s₁.setTop (mkF m 1 #[.val (.ref aa), .val (.int (Int32.ofNat i)), .unset, .unset, .unset] [(.ref aa)])) _
          refine XS.iloadN X0.here hx rfl (hb hby d7_1) rfl ?_
          show Steps p.tables e below (s₁.setTop (mkF m 2 #[.val (.ref aa), .val (.int (Int32.ofNat i)), .unset, .unset, .unset] [(.int (Int32.ofNat i)), (.ref aa)])) _
          refine st369.trans ?_
          show Steps p.tables e below (T369.setTop (mkF m 5 #[.val (.ref aa), .val (.int (Int32.ofNat i)), .unset, .unset, .unset] [])) _
          refine XS.aloadN X369.here hx rfl (hb hby d7_5) rfl rfl ?_
          show Steps p.tables e below (T369.setTop (mkF m 6 #[.val (.ref aa), .val (.int (Int32.ofNat i)), .unset, .unset, .unset] [(.ref aa)])) _
          refine st372 _ ?_
          show Steps p.tables e below (T372.setTop (mkF m 9 #[.val (.ref aa), .val (.int (Int32.ofNat i)), .unset, .unset, .unset] [(.ref ah)])) _
          refine XS.aloadN X372.here hx rfl (hb hby d7_9) rfl rfl ?_
          show Steps p.tables e below (T372.setTop (mkF m 10 #[.val (.ref aa), .val (.int (Int32.ofNat i)), .unset, .unset, .unset] [(.ref aa), (.ref ah)])) _
          refine st373 _ ?_
          show Steps p.tables e below (T373.setTop (mkF m 13 #[.val (.ref aa), .val (.int (Int32.ofNat i)), .unset, .unset, .unset] [(.ref al), (.ref ah)])) _
          refine XS.iloadN X373.here hx rfl (hb hby d7_13) rfl ?_
          show Steps p.tables e below (T373.setTop (mkF m 14 #[.val (.ref aa), .val (.int (Int32.ofNat i)), .unset, .unset, .unset] [(.int (Int32.ofNat i)), (.ref al), (.ref ah)])) _
          refine IA.load X373 hx hZ e373 t371_14 i (own_cl hi (by decide)) (own_nn hi (by decide)) hi (g := (mkF m 14 #[.val (.ref aa), .val (.int (Int32.ofNat i)), .unset, .unset, .unset] [(.int (Int32.ofNat i)), (.ref al), (.ref ah)])) rfl rfl (hb hby d7_14) _ ?_
          show Steps p.tables e below (T373.setTop (mkF m 15 #[.val (.ref aa), .val (.int (Int32.ofNat i)), .unset, .unset, .unset] [(.int (Int32.ofNat ((own_l U) i))), (.ref ah)])) _
          refine IA.load X373 hx hZ e373 t371_13 ((own_l U) i) (own_cl (by first | assumption | exact hok1.1 _ | exact hok1.2.1 _ | exact hok.1 _ | exact hok.2.1 _ | omega) (by decide)) (own_nn (by first | assumption | exact hok1.1 _ | exact hok1.2.1 _ | exact hok.1 _ | exact hok.2.1 _ | omega) (by decide)) (by first | assumption | exact hok1.1 _ | exact hok1.2.1 _ | exact hok.1 _ | exact hok.2.1 _ | omega) (g := (mkF m 15 #[.val (.ref aa), .val (.int (Int32.ofNat i)), .unset, .unset, .unset] [(.int (Int32.ofNat ((own_l U) i))), (.ref ah)])) rfl rfl (hb hby d7_15) _ ?_
          show Steps p.tables e below (T373.setTop (mkF m 16 #[.val (.ref aa), .val (.int (Int32.ofNat i)), .unset, .unset, .unset] [(.int (Int32.ofNat ((own_h U) ((own_l U) i))))])) _
          refine XS.aloadN X373.here hx rfl (hb hby d7_16) rfl rfl ?_
          show Steps p.tables e below (T373.setTop (mkF m 17 #[.val (.ref aa), .val (.int (Int32.ofNat i)), .unset, .unset, .unset] [(.ref aa), (.int (Int32.ofNat ((own_h U) ((own_l U) i))))])) _
          refine st374 _ ?_
          show Steps p.tables e below (T374.setTop (mkF m 20 #[.val (.ref aa), .val (.int (Int32.ofNat i)), .unset, .unset, .unset] [(.ref ah), (.int (Int32.ofNat ((own_h U) ((own_l U) i))))])) _
          refine XS.aloadN X374.here hx rfl (hb hby d7_20) rfl rfl ?_
          show Steps p.tables e below (T374.setTop (mkF m 21 #[.val (.ref aa), .val (.int (Int32.ofNat i)), .unset, .unset, .unset] [(.ref aa), (.ref ah), (.int (Int32.ofNat ((own_h U) ((own_l U) i))))])) _
          refine st375 _ ?_
          show Steps p.tables e below (T375.setTop (mkF m 24 #[.val (.ref aa), .val (.int (Int32.ofNat i)), .unset, .unset, .unset] [(.ref ar), (.ref ah), (.int (Int32.ofNat ((own_h U) ((own_l U) i))))])) _
          refine XS.iloadN X375.here hx rfl (hb hby d7_24) rfl ?_
          show Steps p.tables e below (T375.setTop (mkF m 25 #[.val (.ref aa), .val (.int (Int32.ofNat i)), .unset, .unset, .unset] [(.int (Int32.ofNat i)), (.ref ar), (.ref ah), (.int (Int32.ofNat ((own_h U) ((own_l U) i))))])) _
          refine IA.load X375 hx hZ e375 t371_15 i (own_cl hi (by decide)) (own_nn hi (by decide)) hi (g := (mkF m 25 #[.val (.ref aa), .val (.int (Int32.ofNat i)), .unset, .unset, .unset] [(.int (Int32.ofNat i)), (.ref ar), (.ref ah), (.int (Int32.ofNat ((own_h U) ((own_l U) i))))])) rfl rfl (hb hby d7_25) _ ?_
          show Steps p.tables e below (T375.setTop (mkF m 26 #[.val (.ref aa), .val (.int (Int32.ofNat i)), .unset, .unset, .unset] [(.int (Int32.ofNat ((own_r U) i))), (.ref ah), (.int (Int32.ofNat ((own_h U) ((own_l U) i))))])) _
          refine IA.load X375 hx hZ e375 t371_13 ((own_r U) i) (own_cl (by first | assumption | exact hok1.1 _ | exact hok1.2.1 _ | exact hok.1 _ | exact hok.2.1 _ | omega) (by decide)) (own_nn (by first | assumption | exact hok1.1 _ | exact hok1.2.1 _ | exact hok.1 _ | exact hok.2.1 _ | omega) (by decide)) (by first | assumption | exact hok1.1 _ | exact hok1.2.1 _ | exact hok.1 _ | exact hok.2.1 _ | omega) (g := (mkF m 26 #[.val (.ref aa), .val (.int (Int32.ofNat i)), .unset, .unset, .unset] [(.int (Int32.ofNat ((own_r U) i))), (.ref ah), (.int (Int32.ofNat ((own_h U) ((own_l U) i))))])) rfl rfl (hb hby d7_26) _ ?_
          show Steps p.tables e below (T375.setTop (mkF m 27 #[.val (.ref aa), .val (.int (Int32.ofNat i)), .unset, .unset, .unset] [(.int (Int32.ofNat ((own_h U) ((own_r U) i)))), (.int (Int32.ofNat ((own_h U) ((own_l U) i))))])) _
          refine XS.isub X375.here hx rfl (hb hby d7_27) rfl ?_
          show Steps p.tables e below (T375.setTop (mkF m 28 #[.val (.ref aa), .val (.int (Int32.ofNat i)), .unset, .unset, .unset] [(.int ((Int32.ofNat ((own_h U) ((own_l U) i))) - (Int32.ofNat ((own_h U) ((own_r U) i)))))])) _
          refine XS.istoreN X375.here hx rfl (hb hby d7_28) rfl (l' := #[.val (.ref aa), .val (.int (Int32.ofNat i)), .val (.int ((Int32.ofNat ((own_h U) ((own_l U) i))) - (Int32.ofNat ((own_h U) ((own_r U) i))))), .unset, .unset]) rfl ?_
          show Steps p.tables e below (T375.setTop (mkF m 29 #[.val (.ref aa), .val (.int (Int32.ofNat i)), .val (.int ((Int32.ofNat ((own_h U) ((own_l U) i))) - (Int32.ofNat ((own_h U) ((own_r U) i))))), .unset, .unset] [])) _
          refine XS.iloadN X375.here hx rfl (hb hby d7_29) rfl ?_
          show Steps p.tables e below (T375.setTop (mkF m 30 #[.val (.ref aa), .val (.int (Int32.ofNat i)), .val (.int ((Int32.ofNat ((own_h U) ((own_l U) i))) - (Int32.ofNat ((own_h U) ((own_r U) i))))), .unset, .unset] [(.int (Int32.ofNat i))])) _
          refine XS.istoreN X375.here hx rfl (hb hby d7_30) rfl (l' := #[.val (.ref aa), .val (.int (Int32.ofNat i)), .val (.int ((Int32.ofNat ((own_h U) ((own_l U) i))) - (Int32.ofNat ((own_h U) ((own_r U) i))))), .val (.int (Int32.ofNat i)), .unset]) rfl ?_
          show Steps p.tables e below (T375.setTop (mkF m 31 #[.val (.ref aa), .val (.int (Int32.ofNat i)), .val (.int ((Int32.ofNat ((own_h U) ((own_l U) i))) - (Int32.ofNat ((own_h U) ((own_r U) i))))), .val (.int (Int32.ofNat i)), .unset] [])) _
          refine XS.iloadN X375.here hx rfl (hb hby d7_31) rfl ?_
          show Steps p.tables e below (T375.setTop (mkF m 32 #[.val (.ref aa), .val (.int (Int32.ofNat i)), .val (.int ((Int32.ofNat ((own_h U) ((own_l U) i))) - (Int32.ofNat ((own_h U) ((own_r U) i))))), .val (.int (Int32.ofNat i)), .unset] [(.int ((Int32.ofNat ((own_h U) ((own_l U) i))) - (Int32.ofNat ((own_h U) ((own_r U) i)))))])) _
          refine XS.iconst X375.here hx rfl (hb hby d7_32) ?_
          show Steps p.tables e below (T375.setTop (mkF m 33 #[.val (.ref aa), .val (.int (Int32.ofNat i)), .val (.int ((Int32.ofNat ((own_h U) ((own_l U) i))) - (Int32.ofNat ((own_h U) ((own_r U) i))))), .val (.int (Int32.ofNat i)), .unset] [(.int (1 : Int32)), (.int ((Int32.ofNat ((own_h U) ((own_l U) i))) - (Int32.ofNat ((own_h U) ((own_r U) i)))))])) _
          refine XS.icmpYes X375.here hx rfl (pc0 := 33) (pc' := 92) rfl (hb hby d7_33) rfl (flt hc376).2.2.2 (by decide) (by decide) ?_
          show Steps p.tables e below (T375.setTop (mkF m 92 #[.val (.ref aa), .val (.int (Int32.ofNat i)), .val (.int ((Int32.ofNat ((own_h U) ((own_l U) i))) - (Int32.ofNat ((own_h U) ((own_r U) i))))), .val (.int (Int32.ofNat i)), .unset] [])) _
          refine XS.iloadN X375.here hx rfl (hb hby d7_92) rfl ?_
          show Steps p.tables e below (T375.setTop (mkF m 93 #[.val (.ref aa), .val (.int (Int32.ofNat i)), .val (.int ((Int32.ofNat ((own_h U) ((own_l U) i))) - (Int32.ofNat ((own_h U) ((own_r U) i))))), .val (.int (Int32.ofNat i)), .unset] [(.int ((Int32.ofNat ((own_h U) ((own_l U) i))) - (Int32.ofNat ((own_h U) ((own_r U) i)))))])) _
          refine XS.iconst X375.here hx rfl (hb hby d7_93) ?_
          show Steps p.tables e below (T375.setTop (mkF m 94 #[.val (.ref aa), .val (.int (Int32.ofNat i)), .val (.int ((Int32.ofNat ((own_h U) ((own_l U) i))) - (Int32.ofNat ((own_h U) ((own_r U) i))))), .val (.int (Int32.ofNat i)), .unset] [(.int (-1 : Int32)), (.int ((Int32.ofNat ((own_h U) ((own_l U) i))) - (Int32.ofNat ((own_h U) ((own_r U) i)))))])) _
          refine XS.icmpNo X375.here hx rfl (hb hby d7_94) rfl (tlt hc409).2.1 ?_
          show Steps p.tables e below (T375.setTop (mkF m 97 #[.val (.ref aa), .val (.int (Int32.ofNat i)), .val (.int ((Int32.ofNat ((own_h U) ((own_l U) i))) - (Int32.ofNat ((own_h U) ((own_r U) i))))), .val (.int (Int32.ofNat i)), .unset] [])) _
          refine XS.aloadN X375.here hx rfl (hb hby d7_97) rfl rfl ?_
          show Steps p.tables e below (T375.setTop (mkF m 98 #[.val (.ref aa), .val (.int (Int32.ofNat i)), .val (.int ((Int32.ofNat ((own_h U) ((own_l U) i))) - (Int32.ofNat ((own_h U) ((own_r U) i))))), .val (.int (Int32.ofNat i)), .unset] [(.ref aa)])) _
          refine st410 _ ?_
          show Steps p.tables e below (T410.setTop (mkF m 101 #[.val (.ref aa), .val (.int (Int32.ofNat i)), .val (.int ((Int32.ofNat ((own_h U) ((own_l U) i))) - (Int32.ofNat ((own_h U) ((own_r U) i))))), .val (.int (Int32.ofNat i)), .unset] [(.ref ar)])) _
          refine XS.iloadN X410.here hx rfl (hb hby d7_101) rfl ?_
          show Steps p.tables e below (T410.setTop (mkF m 102 #[.val (.ref aa), .val (.int (Int32.ofNat i)), .val (.int ((Int32.ofNat ((own_h U) ((own_l U) i))) - (Int32.ofNat ((own_h U) ((own_r U) i))))), .val (.int (Int32.ofNat i)), .unset] [(.int (Int32.ofNat i)), (.ref ar)])) _
          refine IA.load X410 hx hZ e410 t371_15 i (own_cl hi (by decide)) (own_nn hi (by decide)) hi (g := (mkF m 102 #[.val (.ref aa), .val (.int (Int32.ofNat i)), .val (.int ((Int32.ofNat ((own_h U) ((own_l U) i))) - (Int32.ofNat ((own_h U) ((own_r U) i))))), .val (.int (Int32.ofNat i)), .unset] [(.int (Int32.ofNat i)), (.ref ar)])) rfl rfl (hb hby d7_102) _ ?_
          show Steps p.tables e below (T410.setTop (mkF m 103 #[.val (.ref aa), .val (.int (Int32.ofNat i)), .val (.int ((Int32.ofNat ((own_h U) ((own_l U) i))) - (Int32.ofNat ((own_h U) ((own_r U) i))))), .val (.int (Int32.ofNat i)), .unset] [(.int (Int32.ofNat ((own_r U) i)))])) _
          refine XS.istore X410.here hx rfl (hb hby d7_103) rfl (l' := #[.val (.ref aa), .val (.int (Int32.ofNat i)), .val (.int ((Int32.ofNat ((own_h U) ((own_l U) i))) - (Int32.ofNat ((own_h U) ((own_r U) i))))), .val (.int (Int32.ofNat i)), .val (.int (Int32.ofNat ((own_r U) i)))]) rfl ?_
          show Steps p.tables e below (T410.setTop (mkF m 105 #[.val (.ref aa), .val (.int (Int32.ofNat i)), .val (.int ((Int32.ofNat ((own_h U) ((own_l U) i))) - (Int32.ofNat ((own_h U) ((own_r U) i))))), .val (.int (Int32.ofNat i)), .val (.int (Int32.ofNat ((own_r U) i)))] [])) _
          refine XS.aloadN X410.here hx rfl (hb hby d7_105) rfl rfl ?_
          show Steps p.tables e below (T410.setTop (mkF m 106 #[.val (.ref aa), .val (.int (Int32.ofNat i)), .val (.int ((Int32.ofNat ((own_h U) ((own_l U) i))) - (Int32.ofNat ((own_h U) ((own_r U) i))))), .val (.int (Int32.ofNat i)), .val (.int (Int32.ofNat ((own_r U) i)))] [(.ref aa)])) _
          refine st411 _ ?_
          show Steps p.tables e below (T411.setTop (mkF m 109 #[.val (.ref aa), .val (.int (Int32.ofNat i)), .val (.int ((Int32.ofNat ((own_h U) ((own_l U) i))) - (Int32.ofNat ((own_h U) ((own_r U) i))))), .val (.int (Int32.ofNat i)), .val (.int (Int32.ofNat ((own_r U) i)))] [(.ref ah)])) _
          refine XS.aloadN X411.here hx rfl (hb hby d7_109) rfl rfl ?_
          show Steps p.tables e below (T411.setTop (mkF m 110 #[.val (.ref aa), .val (.int (Int32.ofNat i)), .val (.int ((Int32.ofNat ((own_h U) ((own_l U) i))) - (Int32.ofNat ((own_h U) ((own_r U) i))))), .val (.int (Int32.ofNat i)), .val (.int (Int32.ofNat ((own_r U) i)))] [(.ref aa), (.ref ah)])) _
          refine st412 _ ?_
          show Steps p.tables e below (T412.setTop (mkF m 113 #[.val (.ref aa), .val (.int (Int32.ofNat i)), .val (.int ((Int32.ofNat ((own_h U) ((own_l U) i))) - (Int32.ofNat ((own_h U) ((own_r U) i))))), .val (.int (Int32.ofNat i)), .val (.int (Int32.ofNat ((own_r U) i)))] [(.ref ar), (.ref ah)])) _
          refine XS.iload X412.here hx rfl (hb hby d7_113) rfl ?_
          show Steps p.tables e below (T412.setTop (mkF m 115 #[.val (.ref aa), .val (.int (Int32.ofNat i)), .val (.int ((Int32.ofNat ((own_h U) ((own_l U) i))) - (Int32.ofNat ((own_h U) ((own_r U) i))))), .val (.int (Int32.ofNat i)), .val (.int (Int32.ofNat ((own_r U) i)))] [(.int (Int32.ofNat ((own_r U) i))), (.ref ar), (.ref ah)])) _
          refine IA.load X412 hx hZ e412 t371_15 ((own_r U) i) (own_cl (by first | assumption | exact hok1.1 _ | exact hok1.2.1 _ | exact hok.1 _ | exact hok.2.1 _ | omega) (by decide)) (own_nn (by first | assumption | exact hok1.1 _ | exact hok1.2.1 _ | exact hok.1 _ | exact hok.2.1 _ | omega) (by decide)) (by first | assumption | exact hok1.1 _ | exact hok1.2.1 _ | exact hok.1 _ | exact hok.2.1 _ | omega) (g := (mkF m 115 #[.val (.ref aa), .val (.int (Int32.ofNat i)), .val (.int ((Int32.ofNat ((own_h U) ((own_l U) i))) - (Int32.ofNat ((own_h U) ((own_r U) i))))), .val (.int (Int32.ofNat i)), .val (.int (Int32.ofNat ((own_r U) i)))] [(.int (Int32.ofNat ((own_r U) i))), (.ref ar), (.ref ah)])) rfl rfl (hb hby d7_115) _ ?_
          show Steps p.tables e below (T412.setTop (mkF m 116 #[.val (.ref aa), .val (.int (Int32.ofNat i)), .val (.int ((Int32.ofNat ((own_h U) ((own_l U) i))) - (Int32.ofNat ((own_h U) ((own_r U) i))))), .val (.int (Int32.ofNat i)), .val (.int (Int32.ofNat ((own_r U) i)))] [(.int (Int32.ofNat ((own_r U) ((own_r U) i)))), (.ref ah)])) _
          refine IA.load X412 hx hZ e412 t371_13 ((own_r U) ((own_r U) i)) (own_cl (by first | assumption | exact hok1.1 _ | exact hok1.2.1 _ | exact hok.1 _ | exact hok.2.1 _ | omega) (by decide)) (own_nn (by first | assumption | exact hok1.1 _ | exact hok1.2.1 _ | exact hok.1 _ | exact hok.2.1 _ | omega) (by decide)) (by first | assumption | exact hok1.1 _ | exact hok1.2.1 _ | exact hok.1 _ | exact hok.2.1 _ | omega) (g := (mkF m 116 #[.val (.ref aa), .val (.int (Int32.ofNat i)), .val (.int ((Int32.ofNat ((own_h U) ((own_l U) i))) - (Int32.ofNat ((own_h U) ((own_r U) i))))), .val (.int (Int32.ofNat i)), .val (.int (Int32.ofNat ((own_r U) i)))] [(.int (Int32.ofNat ((own_r U) ((own_r U) i)))), (.ref ah)])) rfl rfl (hb hby d7_116) _ ?_
          show Steps p.tables e below (T412.setTop (mkF m 117 #[.val (.ref aa), .val (.int (Int32.ofNat i)), .val (.int ((Int32.ofNat ((own_h U) ((own_l U) i))) - (Int32.ofNat ((own_h U) ((own_r U) i))))), .val (.int (Int32.ofNat i)), .val (.int (Int32.ofNat ((own_r U) i)))] [(.int (Int32.ofNat ((own_h U) ((own_r U) ((own_r U) i)))))])) _
          refine XS.aloadN X412.here hx rfl (hb hby d7_117) rfl rfl ?_
          show Steps p.tables e below (T412.setTop (mkF m 118 #[.val (.ref aa), .val (.int (Int32.ofNat i)), .val (.int ((Int32.ofNat ((own_h U) ((own_l U) i))) - (Int32.ofNat ((own_h U) ((own_r U) i))))), .val (.int (Int32.ofNat i)), .val (.int (Int32.ofNat ((own_r U) i)))] [(.ref aa), (.int (Int32.ofNat ((own_h U) ((own_r U) ((own_r U) i)))))])) _
          refine st413 _ ?_
          show Steps p.tables e below (T413.setTop (mkF m 121 #[.val (.ref aa), .val (.int (Int32.ofNat i)), .val (.int ((Int32.ofNat ((own_h U) ((own_l U) i))) - (Int32.ofNat ((own_h U) ((own_r U) i))))), .val (.int (Int32.ofNat i)), .val (.int (Int32.ofNat ((own_r U) i)))] [(.ref ah), (.int (Int32.ofNat ((own_h U) ((own_r U) ((own_r U) i)))))])) _
          refine XS.aloadN X413.here hx rfl (hb hby d7_121) rfl rfl ?_
          show Steps p.tables e below (T413.setTop (mkF m 122 #[.val (.ref aa), .val (.int (Int32.ofNat i)), .val (.int ((Int32.ofNat ((own_h U) ((own_l U) i))) - (Int32.ofNat ((own_h U) ((own_r U) i))))), .val (.int (Int32.ofNat i)), .val (.int (Int32.ofNat ((own_r U) i)))] [(.ref aa), (.ref ah), (.int (Int32.ofNat ((own_h U) ((own_r U) ((own_r U) i)))))])) _
          refine st414 _ ?_
          show Steps p.tables e below (T414.setTop (mkF m 125 #[.val (.ref aa), .val (.int (Int32.ofNat i)), .val (.int ((Int32.ofNat ((own_h U) ((own_l U) i))) - (Int32.ofNat ((own_h U) ((own_r U) i))))), .val (.int (Int32.ofNat i)), .val (.int (Int32.ofNat ((own_r U) i)))] [(.ref al), (.ref ah), (.int (Int32.ofNat ((own_h U) ((own_r U) ((own_r U) i)))))])) _
          refine XS.iload X414.here hx rfl (hb hby d7_125) rfl ?_
          show Steps p.tables e below (T414.setTop (mkF m 127 #[.val (.ref aa), .val (.int (Int32.ofNat i)), .val (.int ((Int32.ofNat ((own_h U) ((own_l U) i))) - (Int32.ofNat ((own_h U) ((own_r U) i))))), .val (.int (Int32.ofNat i)), .val (.int (Int32.ofNat ((own_r U) i)))] [(.int (Int32.ofNat ((own_r U) i))), (.ref al), (.ref ah), (.int (Int32.ofNat ((own_h U) ((own_r U) ((own_r U) i)))))])) _
          refine IA.load X414 hx hZ e414 t371_14 ((own_r U) i) (own_cl (by first | assumption | exact hok1.1 _ | exact hok1.2.1 _ | exact hok.1 _ | exact hok.2.1 _ | omega) (by decide)) (own_nn (by first | assumption | exact hok1.1 _ | exact hok1.2.1 _ | exact hok.1 _ | exact hok.2.1 _ | omega) (by decide)) (by first | assumption | exact hok1.1 _ | exact hok1.2.1 _ | exact hok.1 _ | exact hok.2.1 _ | omega) (g := (mkF m 127 #[.val (.ref aa), .val (.int (Int32.ofNat i)), .val (.int ((Int32.ofNat ((own_h U) ((own_l U) i))) - (Int32.ofNat ((own_h U) ((own_r U) i))))), .val (.int (Int32.ofNat i)), .val (.int (Int32.ofNat ((own_r U) i)))] [(.int (Int32.ofNat ((own_r U) i))), (.ref al), (.ref ah), (.int (Int32.ofNat ((own_h U) ((own_r U) ((own_r U) i)))))])) rfl rfl (hb hby d7_127) _ ?_
          show Steps p.tables e below (T414.setTop (mkF m 128 #[.val (.ref aa), .val (.int (Int32.ofNat i)), .val (.int ((Int32.ofNat ((own_h U) ((own_l U) i))) - (Int32.ofNat ((own_h U) ((own_r U) i))))), .val (.int (Int32.ofNat i)), .val (.int (Int32.ofNat ((own_r U) i)))] [(.int (Int32.ofNat ((own_l U) ((own_r U) i)))), (.ref ah), (.int (Int32.ofNat ((own_h U) ((own_r U) ((own_r U) i)))))])) _
          refine IA.load X414 hx hZ e414 t371_13 ((own_l U) ((own_r U) i)) (own_cl (by first | assumption | exact hok1.1 _ | exact hok1.2.1 _ | exact hok.1 _ | exact hok.2.1 _ | omega) (by decide)) (own_nn (by first | assumption | exact hok1.1 _ | exact hok1.2.1 _ | exact hok.1 _ | exact hok.2.1 _ | omega) (by decide)) (by first | assumption | exact hok1.1 _ | exact hok1.2.1 _ | exact hok.1 _ | exact hok.2.1 _ | omega) (g := (mkF m 128 #[.val (.ref aa), .val (.int (Int32.ofNat i)), .val (.int ((Int32.ofNat ((own_h U) ((own_l U) i))) - (Int32.ofNat ((own_h U) ((own_r U) i))))), .val (.int (Int32.ofNat i)), .val (.int (Int32.ofNat ((own_r U) i)))] [(.int (Int32.ofNat ((own_l U) ((own_r U) i)))), (.ref ah), (.int (Int32.ofNat ((own_h U) ((own_r U) ((own_r U) i)))))])) rfl rfl (hb hby d7_128) _ ?_
          show Steps p.tables e below (T414.setTop (mkF m 129 #[.val (.ref aa), .val (.int (Int32.ofNat i)), .val (.int ((Int32.ofNat ((own_h U) ((own_l U) i))) - (Int32.ofNat ((own_h U) ((own_r U) i))))), .val (.int (Int32.ofNat i)), .val (.int (Int32.ofNat ((own_r U) i)))] [(.int (Int32.ofNat ((own_h U) ((own_l U) ((own_r U) i))))), (.int (Int32.ofNat ((own_h U) ((own_r U) ((own_r U) i)))))])) _
          refine XS.icmpYes X414.here hx rfl (pc0 := 129) (pc' := 144) rfl (hb hby d7_129) rfl (flt hc415).2.1 (by decide) (by decide) ?_
          show Steps p.tables e below (T414.setTop (mkF m 144 #[.val (.ref aa), .val (.int (Int32.ofNat i)), .val (.int ((Int32.ofNat ((own_h U) ((own_l U) i))) - (Int32.ofNat ((own_h U) ((own_r U) i))))), .val (.int (Int32.ofNat i)), .val (.int (Int32.ofNat ((own_r U) i)))] [])) _
          refine XS.aloadN X414.here hx rfl (hb hby d7_144) rfl rfl ?_
          show Steps p.tables e below (T414.setTop (mkF m 145 #[.val (.ref aa), .val (.int (Int32.ofNat i)), .val (.int ((Int32.ofNat ((own_h U) ((own_l U) i))) - (Int32.ofNat ((own_h U) ((own_r U) i))))), .val (.int (Int32.ofNat i)), .val (.int (Int32.ofNat ((own_r U) i)))] [(.ref aa)])) _
          refine XS.iloadN X414.here hx rfl (hb hby d7_145) rfl ?_
          show Steps p.tables e below (T414.setTop (mkF m 146 #[.val (.ref aa), .val (.int (Int32.ofNat i)), .val (.int ((Int32.ofNat ((own_h U) ((own_l U) i))) - (Int32.ofNat ((own_h U) ((own_r U) i))))), .val (.int (Int32.ofNat i)), .val (.int (Int32.ofNat ((own_r U) i)))] [(.int (Int32.ofNat i)), (.ref aa)])) _
          refine st439.trans ?_
          show Steps p.tables e below (T439.setTop (mkF m 149 #[.val (.ref aa), .val (.int (Int32.ofNat i)), .val (.int ((Int32.ofNat ((own_h U) ((own_l U) i))) - (Int32.ofNat ((own_h U) ((own_r U) i))))), .val (.int (Int32.ofNat i)), .val (.int (Int32.ofNat ((own_r U) i)))] [(.int (Int32.ofNat (own_r U i)))])) _
          refine XS.istoreN X439.here hx rfl (hb hby d7_149) rfl (l' := #[.val (.ref aa), .val (.int (Int32.ofNat i)), .val (.int ((Int32.ofNat ((own_h U) ((own_l U) i))) - (Int32.ofNat ((own_h U) ((own_r U) i))))), .val (.int (Int32.ofNat (own_r U i))), .val (.int (Int32.ofNat ((own_r U) i)))]) rfl ?_
          show Steps p.tables e below (T439.setTop (mkF m 150 #[.val (.ref aa), .val (.int (Int32.ofNat i)), .val (.int ((Int32.ofNat ((own_h U) ((own_l U) i))) - (Int32.ofNat ((own_h U) ((own_r U) i))))), .val (.int (Int32.ofNat (own_r U i))), .val (.int (Int32.ofNat ((own_r U) i)))] [])) _
          refine XS.iloadN X439.here hx rfl (hb hby d7_150) rfl ?_
          show Steps p.tables e below (T439.setTop (mkF m 151 #[.val (.ref aa), .val (.int (Int32.ofNat i)), .val (.int ((Int32.ofNat ((own_h U) ((own_l U) i))) - (Int32.ofNat ((own_h U) ((own_r U) i))))), .val (.int (Int32.ofNat (own_r U i))), .val (.int (Int32.ofNat ((own_r U) i)))] [(.int (Int32.ofNat (own_r U i)))])) _
          exact retI X439 hx Bd.returns (hb hby d7_151) hr
        · show Q7 Z aa ae ap aS ah al ar S rt md i B h0 n0 _ T439.heap _
          unfold Q7
          rw [hbq]
          exact ⟨rfl, N439, K439, (TR.mk (S := (own_rotL U i)) t441_0 t441_1 t441_2 t441_3 t441_4 t441_5 t441_6 t441_7 t441_8 t441_9 t441_10 t441_11 t441_12 t441_13 t441_14 t441_15)⟩
    · have hbq : own_bal S i = (U, i) := by unfold own_bal; rw [← hU]; unfold own_balU; rw [if_neg hc376, if_neg hc409]
      obtain ⟨fs, hr, hrun, hended, hW, hsame⟩ := X375.leave (v := some (.int (Int32.ofNat i))) (fun h => by rw [Bd.returns] at h; cases h)
      refine ⟨_, _, pre0 _ ?_, hrun, hended, _, _, rfl, ?_, ⟨_, rfl⟩, hW, hsame.mono (by decide) (by decide)⟩
      · show Steps p.tables e below (s₁.setTop (mkF m 0 #[.val (.ref aa), .val (.int (Int32.ofNat i)), .unset, .unset, .unset] [])) _
        refine XS.aloadN X0.here hx rfl (hb hby d7_0) rfl rfl ?_
        show Steps p.tables e below (s₁.setTop (mkF m 1 #[.val (.ref aa), .val (.int (Int32.ofNat i)), .unset, .unset, .unset] [(.ref aa)])) _
        refine XS.iloadN X0.here hx rfl (hb hby d7_1) rfl ?_
        show Steps p.tables e below (s₁.setTop (mkF m 2 #[.val (.ref aa), .val (.int (Int32.ofNat i)), .unset, .unset, .unset] [(.int (Int32.ofNat i)), (.ref aa)])) _
        refine st369.trans ?_
        show Steps p.tables e below (T369.setTop (mkF m 5 #[.val (.ref aa), .val (.int (Int32.ofNat i)), .unset, .unset, .unset] [])) _
        refine XS.aloadN X369.here hx rfl (hb hby d7_5) rfl rfl ?_
        show Steps p.tables e below (T369.setTop (mkF m 6 #[.val (.ref aa), .val (.int (Int32.ofNat i)), .unset, .unset, .unset] [(.ref aa)])) _
        refine st372 _ ?_
        show Steps p.tables e below (T372.setTop (mkF m 9 #[.val (.ref aa), .val (.int (Int32.ofNat i)), .unset, .unset, .unset] [(.ref ah)])) _
        refine XS.aloadN X372.here hx rfl (hb hby d7_9) rfl rfl ?_
        show Steps p.tables e below (T372.setTop (mkF m 10 #[.val (.ref aa), .val (.int (Int32.ofNat i)), .unset, .unset, .unset] [(.ref aa), (.ref ah)])) _
        refine st373 _ ?_
        show Steps p.tables e below (T373.setTop (mkF m 13 #[.val (.ref aa), .val (.int (Int32.ofNat i)), .unset, .unset, .unset] [(.ref al), (.ref ah)])) _
        refine XS.iloadN X373.here hx rfl (hb hby d7_13) rfl ?_
        show Steps p.tables e below (T373.setTop (mkF m 14 #[.val (.ref aa), .val (.int (Int32.ofNat i)), .unset, .unset, .unset] [(.int (Int32.ofNat i)), (.ref al), (.ref ah)])) _
        refine IA.load X373 hx hZ e373 t371_14 i (own_cl hi (by decide)) (own_nn hi (by decide)) hi (g := (mkF m 14 #[.val (.ref aa), .val (.int (Int32.ofNat i)), .unset, .unset, .unset] [(.int (Int32.ofNat i)), (.ref al), (.ref ah)])) rfl rfl (hb hby d7_14) _ ?_
        show Steps p.tables e below (T373.setTop (mkF m 15 #[.val (.ref aa), .val (.int (Int32.ofNat i)), .unset, .unset, .unset] [(.int (Int32.ofNat ((own_l U) i))), (.ref ah)])) _
        refine IA.load X373 hx hZ e373 t371_13 ((own_l U) i) (own_cl (by first | assumption | exact hok1.1 _ | exact hok1.2.1 _ | exact hok.1 _ | exact hok.2.1 _ | omega) (by decide)) (own_nn (by first | assumption | exact hok1.1 _ | exact hok1.2.1 _ | exact hok.1 _ | exact hok.2.1 _ | omega) (by decide)) (by first | assumption | exact hok1.1 _ | exact hok1.2.1 _ | exact hok.1 _ | exact hok.2.1 _ | omega) (g := (mkF m 15 #[.val (.ref aa), .val (.int (Int32.ofNat i)), .unset, .unset, .unset] [(.int (Int32.ofNat ((own_l U) i))), (.ref ah)])) rfl rfl (hb hby d7_15) _ ?_
        show Steps p.tables e below (T373.setTop (mkF m 16 #[.val (.ref aa), .val (.int (Int32.ofNat i)), .unset, .unset, .unset] [(.int (Int32.ofNat ((own_h U) ((own_l U) i))))])) _
        refine XS.aloadN X373.here hx rfl (hb hby d7_16) rfl rfl ?_
        show Steps p.tables e below (T373.setTop (mkF m 17 #[.val (.ref aa), .val (.int (Int32.ofNat i)), .unset, .unset, .unset] [(.ref aa), (.int (Int32.ofNat ((own_h U) ((own_l U) i))))])) _
        refine st374 _ ?_
        show Steps p.tables e below (T374.setTop (mkF m 20 #[.val (.ref aa), .val (.int (Int32.ofNat i)), .unset, .unset, .unset] [(.ref ah), (.int (Int32.ofNat ((own_h U) ((own_l U) i))))])) _
        refine XS.aloadN X374.here hx rfl (hb hby d7_20) rfl rfl ?_
        show Steps p.tables e below (T374.setTop (mkF m 21 #[.val (.ref aa), .val (.int (Int32.ofNat i)), .unset, .unset, .unset] [(.ref aa), (.ref ah), (.int (Int32.ofNat ((own_h U) ((own_l U) i))))])) _
        refine st375 _ ?_
        show Steps p.tables e below (T375.setTop (mkF m 24 #[.val (.ref aa), .val (.int (Int32.ofNat i)), .unset, .unset, .unset] [(.ref ar), (.ref ah), (.int (Int32.ofNat ((own_h U) ((own_l U) i))))])) _
        refine XS.iloadN X375.here hx rfl (hb hby d7_24) rfl ?_
        show Steps p.tables e below (T375.setTop (mkF m 25 #[.val (.ref aa), .val (.int (Int32.ofNat i)), .unset, .unset, .unset] [(.int (Int32.ofNat i)), (.ref ar), (.ref ah), (.int (Int32.ofNat ((own_h U) ((own_l U) i))))])) _
        refine IA.load X375 hx hZ e375 t371_15 i (own_cl hi (by decide)) (own_nn hi (by decide)) hi (g := (mkF m 25 #[.val (.ref aa), .val (.int (Int32.ofNat i)), .unset, .unset, .unset] [(.int (Int32.ofNat i)), (.ref ar), (.ref ah), (.int (Int32.ofNat ((own_h U) ((own_l U) i))))])) rfl rfl (hb hby d7_25) _ ?_
        show Steps p.tables e below (T375.setTop (mkF m 26 #[.val (.ref aa), .val (.int (Int32.ofNat i)), .unset, .unset, .unset] [(.int (Int32.ofNat ((own_r U) i))), (.ref ah), (.int (Int32.ofNat ((own_h U) ((own_l U) i))))])) _
        refine IA.load X375 hx hZ e375 t371_13 ((own_r U) i) (own_cl (by first | assumption | exact hok1.1 _ | exact hok1.2.1 _ | exact hok.1 _ | exact hok.2.1 _ | omega) (by decide)) (own_nn (by first | assumption | exact hok1.1 _ | exact hok1.2.1 _ | exact hok.1 _ | exact hok.2.1 _ | omega) (by decide)) (by first | assumption | exact hok1.1 _ | exact hok1.2.1 _ | exact hok.1 _ | exact hok.2.1 _ | omega) (g := (mkF m 26 #[.val (.ref aa), .val (.int (Int32.ofNat i)), .unset, .unset, .unset] [(.int (Int32.ofNat ((own_r U) i))), (.ref ah), (.int (Int32.ofNat ((own_h U) ((own_l U) i))))])) rfl rfl (hb hby d7_26) _ ?_
        show Steps p.tables e below (T375.setTop (mkF m 27 #[.val (.ref aa), .val (.int (Int32.ofNat i)), .unset, .unset, .unset] [(.int (Int32.ofNat ((own_h U) ((own_r U) i)))), (.int (Int32.ofNat ((own_h U) ((own_l U) i))))])) _
        refine XS.isub X375.here hx rfl (hb hby d7_27) rfl ?_
        show Steps p.tables e below (T375.setTop (mkF m 28 #[.val (.ref aa), .val (.int (Int32.ofNat i)), .unset, .unset, .unset] [(.int ((Int32.ofNat ((own_h U) ((own_l U) i))) - (Int32.ofNat ((own_h U) ((own_r U) i)))))])) _
        refine XS.istoreN X375.here hx rfl (hb hby d7_28) rfl (l' := #[.val (.ref aa), .val (.int (Int32.ofNat i)), .val (.int ((Int32.ofNat ((own_h U) ((own_l U) i))) - (Int32.ofNat ((own_h U) ((own_r U) i))))), .unset, .unset]) rfl ?_
        show Steps p.tables e below (T375.setTop (mkF m 29 #[.val (.ref aa), .val (.int (Int32.ofNat i)), .val (.int ((Int32.ofNat ((own_h U) ((own_l U) i))) - (Int32.ofNat ((own_h U) ((own_r U) i))))), .unset, .unset] [])) _
        refine XS.iloadN X375.here hx rfl (hb hby d7_29) rfl ?_
        show Steps p.tables e below (T375.setTop (mkF m 30 #[.val (.ref aa), .val (.int (Int32.ofNat i)), .val (.int ((Int32.ofNat ((own_h U) ((own_l U) i))) - (Int32.ofNat ((own_h U) ((own_r U) i))))), .unset, .unset] [(.int (Int32.ofNat i))])) _
        refine XS.istoreN X375.here hx rfl (hb hby d7_30) rfl (l' := #[.val (.ref aa), .val (.int (Int32.ofNat i)), .val (.int ((Int32.ofNat ((own_h U) ((own_l U) i))) - (Int32.ofNat ((own_h U) ((own_r U) i))))), .val (.int (Int32.ofNat i)), .unset]) rfl ?_
        show Steps p.tables e below (T375.setTop (mkF m 31 #[.val (.ref aa), .val (.int (Int32.ofNat i)), .val (.int ((Int32.ofNat ((own_h U) ((own_l U) i))) - (Int32.ofNat ((own_h U) ((own_r U) i))))), .val (.int (Int32.ofNat i)), .unset] [])) _
        refine XS.iloadN X375.here hx rfl (hb hby d7_31) rfl ?_
        show Steps p.tables e below (T375.setTop (mkF m 32 #[.val (.ref aa), .val (.int (Int32.ofNat i)), .val (.int ((Int32.ofNat ((own_h U) ((own_l U) i))) - (Int32.ofNat ((own_h U) ((own_r U) i))))), .val (.int (Int32.ofNat i)), .unset] [(.int ((Int32.ofNat ((own_h U) ((own_l U) i))) - (Int32.ofNat ((own_h U) ((own_r U) i)))))])) _
        refine XS.iconst X375.here hx rfl (hb hby d7_32) ?_
        show Steps p.tables e below (T375.setTop (mkF m 33 #[.val (.ref aa), .val (.int (Int32.ofNat i)), .val (.int ((Int32.ofNat ((own_h U) ((own_l U) i))) - (Int32.ofNat ((own_h U) ((own_r U) i))))), .val (.int (Int32.ofNat i)), .unset] [(.int (1 : Int32)), (.int ((Int32.ofNat ((own_h U) ((own_l U) i))) - (Int32.ofNat ((own_h U) ((own_r U) i)))))])) _
        refine XS.icmpYes X375.here hx rfl (pc0 := 33) (pc' := 92) rfl (hb hby d7_33) rfl (flt hc376).2.2.2 (by decide) (by decide) ?_
        show Steps p.tables e below (T375.setTop (mkF m 92 #[.val (.ref aa), .val (.int (Int32.ofNat i)), .val (.int ((Int32.ofNat ((own_h U) ((own_l U) i))) - (Int32.ofNat ((own_h U) ((own_r U) i))))), .val (.int (Int32.ofNat i)), .unset] [])) _
        refine XS.iloadN X375.here hx rfl (hb hby d7_92) rfl ?_
        show Steps p.tables e below (T375.setTop (mkF m 93 #[.val (.ref aa), .val (.int (Int32.ofNat i)), .val (.int ((Int32.ofNat ((own_h U) ((own_l U) i))) - (Int32.ofNat ((own_h U) ((own_r U) i))))), .val (.int (Int32.ofNat i)), .unset] [(.int ((Int32.ofNat ((own_h U) ((own_l U) i))) - (Int32.ofNat ((own_h U) ((own_r U) i)))))])) _
        refine XS.iconst X375.here hx rfl (hb hby d7_93) ?_
        show Steps p.tables e below (T375.setTop (mkF m 94 #[.val (.ref aa), .val (.int (Int32.ofNat i)), .val (.int ((Int32.ofNat ((own_h U) ((own_l U) i))) - (Int32.ofNat ((own_h U) ((own_r U) i))))), .val (.int (Int32.ofNat i)), .unset] [(.int (-1 : Int32)), (.int ((Int32.ofNat ((own_h U) ((own_l U) i))) - (Int32.ofNat ((own_h U) ((own_r U) i)))))])) _
        refine XS.icmpYes X375.here hx rfl (pc0 := 94) (pc' := 150) rfl (hb hby d7_94) rfl (flt hc409).2.1 (by decide) (by decide) ?_
        show Steps p.tables e below (T375.setTop (mkF m 150 #[.val (.ref aa), .val (.int (Int32.ofNat i)), .val (.int ((Int32.ofNat ((own_h U) ((own_l U) i))) - (Int32.ofNat ((own_h U) ((own_r U) i))))), .val (.int (Int32.ofNat i)), .unset] [])) _
        refine XS.iloadN X375.here hx rfl (hb hby d7_150) rfl ?_
        show Steps p.tables e below (T375.setTop (mkF m 151 #[.val (.ref aa), .val (.int (Int32.ofNat i)), .val (.int ((Int32.ofNat ((own_h U) ((own_l U) i))) - (Int32.ofNat ((own_h U) ((own_r U) i))))), .val (.int (Int32.ofNat i)), .unset] [(.int (Int32.ofNat i))])) _
        exact retI X375 hx Bd.returns (hb hby d7_151) hr
      · show Q7 Z aa ae ap aS ah al ar S rt md i B h0 n0 _ T375.heap _
        rw [e375]
        unfold Q7
        rw [hbq]
        exact ⟨rfl, N369, K369, (TR.mk (S := U) t371_0 t371_1 t371_2 t371_3 t371_4 t371_5 t371_6 t371_7 t371_8 t371_9 t371_10 t371_11 t371_12 t371_13 t371_14 t371_15)⟩

theorem d6_0 : decode prog_107_method_11_code 0 = .ok (.aload_n 0, 1) := by decide +kernel
theorem d6_1 : decode prog_107_method_11_code 1 = .ok (.getfield 36, 3) := by decide +kernel
theorem d6_4 : decode prog_107_method_11_code 4 = .ok (.istore 5, 2) := by decide +kernel
theorem d6_6 : decode prog_107_method_11_code 6 = .ok (.iload 5, 2) := by decide +kernel
theorem d6_8 : decode prog_107_method_11_code 8 = .ok (.ifCond .eq 17, 3) := by decide +kernel
theorem d6_25 : decode prog_107_method_11_code 25 = .ok (.aload_n 0, 1) := by decide +kernel
theorem d6_26 : decode prog_107_method_11_code 26 = .ok (.dup, 1) := by decide +kernel
theorem d6_27 : decode prog_107_method_11_code 27 = .ok (.getfield 33, 3) := by decide +kernel
theorem d6_30 : decode prog_107_method_11_code 30 = .ok (.dup_x1, 1) := by decide +kernel
theorem d6_31 : decode prog_107_method_11_code 31 = .ok (.iconst 1, 1) := by decide +kernel
theorem d6_32 : decode prog_107_method_11_code 32 = .ok (.iadd, 1) := by decide +kernel
theorem d6_33 : decode prog_107_method_11_code 33 = .ok (.putfield 33, 3) := by decide +kernel
theorem d6_36 : decode prog_107_method_11_code 36 = .ok (.istore 5, 2) := by decide +kernel
theorem d6_38 : decode prog_107_method_11_code 38 = .ok (.aload_n 0, 1) := by decide +kernel
theorem d6_39 : decode prog_107_method_11_code 39 = .ok (.getfield 7, 3) := by decide +kernel
theorem d6_42 : decode prog_107_method_11_code 42 = .ok (.iload 5, 2) := by decide +kernel
theorem d6_44 : decode prog_107_method_11_code 44 = .ok (.lload_n 1, 1) := by decide +kernel
theorem d6_45 : decode prog_107_method_11_code 45 = .ok (.lastore, 1) := by decide +kernel
theorem d6_46 : decode prog_107_method_11_code 46 = .ok (.aload_n 0, 1) := by decide +kernel
theorem d6_47 : decode prog_107_method_11_code 47 = .ok (.getfield 13, 3) := by decide +kernel
theorem d6_50 : decode prog_107_method_11_code 50 = .ok (.iload 5, 2) := by decide +kernel
theorem d6_52 : decode prog_107_method_11_code 52 = .ok (.lload_n 3, 1) := by decide +kernel
theorem d6_53 : decode prog_107_method_11_code 53 = .ok (.lastore, 1) := by decide +kernel
theorem d6_54 : decode prog_107_method_11_code 54 = .ok (.aload_n 0, 1) := by decide +kernel
theorem d6_55 : decode prog_107_method_11_code 55 = .ok (.getfield 16, 3) := by decide +kernel
theorem d6_58 : decode prog_107_method_11_code 58 = .ok (.iload 5, 2) := by decide +kernel
theorem d6_60 : decode prog_107_method_11_code 60 = .ok (.lload_n 3, 1) := by decide +kernel
theorem d6_61 : decode prog_107_method_11_code 61 = .ok (.lastore, 1) := by decide +kernel
theorem d6_62 : decode prog_107_method_11_code 62 = .ok (.aload_n 0, 1) := by decide +kernel
theorem d6_63 : decode prog_107_method_11_code 63 = .ok (.getfield 19, 3) := by decide +kernel
theorem d6_66 : decode prog_107_method_11_code 66 = .ok (.iload 5, 2) := by decide +kernel
theorem d6_68 : decode prog_107_method_11_code 68 = .ok (.iconst 1, 1) := by decide +kernel
theorem d6_69 : decode prog_107_method_11_code 69 = .ok (.iastore, 1) := by decide +kernel
theorem d6_70 : decode prog_107_method_11_code 70 = .ok (.aload_n 0, 1) := by decide +kernel
theorem d6_71 : decode prog_107_method_11_code 71 = .ok (.getfield 23, 3) := by decide +kernel
theorem d6_74 : decode prog_107_method_11_code 74 = .ok (.iload 5, 2) := by decide +kernel
theorem d6_76 : decode prog_107_method_11_code 76 = .ok (.iconst 0, 1) := by decide +kernel
theorem d6_77 : decode prog_107_method_11_code 77 = .ok (.iastore, 1) := by decide +kernel
theorem d6_78 : decode prog_107_method_11_code 78 = .ok (.aload_n 0, 1) := by decide +kernel
theorem d6_79 : decode prog_107_method_11_code 79 = .ok (.getfield 26, 3) := by decide +kernel
theorem d6_82 : decode prog_107_method_11_code 82 = .ok (.iload 5, 2) := by decide +kernel
theorem d6_84 : decode prog_107_method_11_code 84 = .ok (.iconst 0, 1) := by decide +kernel
theorem d6_85 : decode prog_107_method_11_code 85 = .ok (.iastore, 1) := by decide +kernel
theorem d6_86 : decode prog_107_method_11_code 86 = .ok (.iload 5, 2) := by decide +kernel
theorem d6_88 : decode prog_107_method_11_code 88 = .ok (.ireturn, 1) := by decide +kernel
theorem ef_6 (m : MethodId) (aa : Addr) (qe : Int64) (qp : Int64) : entryFrame m #[(.ref aa), (.long qe), (.long qp)] 6 = mkF m 0 #[.val (.ref aa), .val (.long qe), .second, .val (.long qp), .second, .unset] [] := by first | (simp [entryFrame, mkF, argsToLocals, Value.category]; done) | rfl
def Q6 (Z : State) (aa : Addr) (ae : Addr) (ap : Addr) (aS : Addr) (ah : Addr) (al : Addr) (ar : Addr) (S : own_S) (rt : Nat) (md : Nat) (qe : Int64) (qp : Int64) (h0 : Heap) (n0 : Nat) (v : Option Value) (h : Heap) (L : List Loc) : Prop := v = some (.int (Int32.ofNat md)) ∧ Fr n0 L ∧ Keep h0 h [aa, ae, ap, aS, ah, al, ar] ∧ TR Z h aa ae ap aS ah al ar (own_make S md qe qp) rt (md + 1)
set_option maxRecDepth 65536 in
set_option maxHeartbeats 40000000 in
theorem rm6 (l : Launch) (Z : State) (a0 : Array Value) (hw : ∀ d ∈ tables_1, d.before a0 Z = true) (ws : List Jvm.Cond) (aa : Addr) (ae : Addr) (ap : Addr) (aS : Addr) (ah : Addr) (al : Addr) (ar : Addr) (S : own_S) (rt : Nat) (md : Nat) (qe : Int64) (qp : Int64) (h0 : Heap) (n0 : Nat) (Z0 : n0 ≤ h0.size) (g_aa : n0 ≤ aa) (g_ae : n0 ≤ ae) (g_ap : n0 ≤ ap) (g_aS : n0 ≤ aS) (g_ah : n0 ≤ ah) (g_al : n0 ≤ al) (g_ar : n0 ≤ ar) (hD : own_D aa ae ap aS ah al ar) (hTR : TR Z h0 aa ae ap aS ah al ar S rt md) (hmd : md < 16) :
    MetFree l (⟨"com/example/berthline/berthline/engine/replay/EstimatedEnds", "make", "(JJ)I"⟩ : MethodName) (head1 (Jvm.Cond.code (⟨"com/example/berthline/berthline/engine/replay/EstimatedEnds", "make", "(JJ)I"⟩ : MethodName) prog_107_method_11_code 6 (some .int) :: ws) ({ frames := 0, cells := 0, slots := 0, locals := 0 } : Room)) (fun a U => a = #[(.ref aa), (.long qe), (.long qp)] ∧ Z.Warmed39 U.vm ∧ U.heap = h0) (fun _ _ _ _ _ => True) (fun _ U o U' => ∃ v L, o = .returned v ∧ Q6 Z aa ae ap aS ah al ar S rt md qe qp h0 n0 v U'.heap L ∧ FrameEnd U o U' L ({ frames := 0, cells := 0, slots := 0, locals := 0 } : Room).cells ({ frames := 0, cells := 0, slots := 0, locals := 0 } : Room).slots) := by
  refine MetFree.of_bodySF (plainFor_of_name pn_com_example_berthline_berthline_engine_replay_EstimatedEnds) hisR ?_
  intro p e s m args below meth c s₁ Bd hml0 hP hK
  obtain ⟨rfl, hZ, hh⟩ := hP
  have hx := Bd.exec
  have hby := Bd.bytes
  have hml : c.maxLocals = 6 := hml0
  have hown : s.vm.findClass "com/example/berthline/berthline/engine/replay/EstimatedEnds" = some m.cls := findClass_of_methodNamed Bd.named
  have hnm := (name_of_methodNamed Bd.named Bd.method).1
  have X0 : Stand p l e ({ frames := 0, cells := 0, slots := 0, locals := 0 } : Room) s m #[(.ref aa), (.long qe), (.long qp)] below meth c s₁ [] 0 0 := Stand.of_body Bd
  have e0 : s₁.heap = h0 := by rw [← hh, Bd.state]; rfl
  have N0 := Fr.nil n0
  have pre0 : ∀ t, Steps p.tables e below (s₁.setTop (mkF m 0 #[.val (.ref aa), .val (.long qe), .second, .val (.long qp), .second, .unset] [])) t → Steps p.tables e below (s₁.setTop (entryFrame m #[(.ref aa), (.long qe), (.long qp)] 6)) t := fun t k => castTop (ef_6 m aa qe qp) k
  obtain ⟨dd442_0, dd442_1, dd442_2, dd442_3, dd442_4, dd442_5, dd442_6, dd442_7, dd442_8, dd442_9, dd442_10, dd442_11, dd442_12, dd442_13, dd442_14, dd442_15, dd442_16, dd442_17, dd442_18, dd442_19, dd442_20⟩ := id hD
  obtain ⟨t443_0, t443_1, t443_2, t443_3, t443_4, t443_5, t443_6, t443_7, t443_8, t443_9, t443_10, t443_11, t443_12, t443_13, t443_14, t443_15⟩ := hTR
  obtain ⟨T444, X444, e444, st444⟩ := getF X0 hx hZ hown (host := "") (Or.inl (hw _ (List.mem_of_getElem? (i := 27) rfl))) Via.refl e0 t443_9 (g := (mkF m 1 #[.val (.ref aa), .val (.long qe), .second, .val (.long qp), .second, .unset] [(.ref aa)])) rfl rfl (hb hby d6_1)
  obtain ⟨T445, X445, e445, st445⟩ := getF X444 hx hZ hown (host := "") (Or.inl (hw _ (List.mem_of_getElem? (i := 25) rfl))) Via.refl e444 t443_8 (g := (mkF m 27 #[.val (.ref aa), .val (.long qe), .second, .val (.long qp), .second, .val (.int (0 : Int32))] [(.ref aa), (.ref aa)])) rfl rfl (hb hby d6_27)
  obtain ⟨T446, h446, X446, e446, W446, st446⟩ := putF X445 hx hZ hown (host := "") (Or.inl (hw _ (List.mem_of_getElem? (i := 25) rfl))) Via.refl e445 t443_8 t443_0 (Or.inl (hw _ (List.mem_of_getElem? (i := 26) rfl))) (hw _ (List.mem_of_getElem? (i := 1) rfl)) (ty := .int) (by decide) rfl rfl (g := (mkF m 33 #[.val (.ref aa), .val (.long qe), .second, .val (.long qp), .second, .val (.int (0 : Int32))] [(.int (Int32.ofNat (md + 1))), (.ref aa), (.int (Int32.ofNat md))])) rfl rfl (hb hby d6_33)
  have Fw446 : Fld Z h446 aa "com/example/berthline/berthline/engine/replay/EstimatedEnds" "made" "I" (.int (Int32.ofNat (md + 1))) := Fld.same W446 t443_8
  have E_447 := t443_0.wr W446
  have F_448 := t443_1.other W446 (Or.inr (slot_ne (Or.inl (hw _ (List.mem_of_getElem? (i := 11) rfl))) (Or.inl (hw _ (List.mem_of_getElem? (i := 26) rfl))) (by decide) (t := (.array .long)) (t' := .int) (by decide) (by decide)))
  have F_449 := t443_2.other W446 (Or.inr (slot_ne (Or.inl (hw _ (List.mem_of_getElem? (i := 13) rfl))) (Or.inl (hw _ (List.mem_of_getElem? (i := 26) rfl))) (by decide) (t := (.array .long)) (t' := .int) (by decide) (by decide)))
  have F_450 := t443_3.other W446 (Or.inr (slot_ne (Or.inl (hw _ (List.mem_of_getElem? (i := 15) rfl))) (Or.inl (hw _ (List.mem_of_getElem? (i := 26) rfl))) (by decide) (t := (.array .long)) (t' := .int) (by decide) (by decide)))
  have F_451 := t443_4.other W446 (Or.inr (slot_ne (Or.inl (hw _ (List.mem_of_getElem? (i := 18) rfl))) (Or.inl (hw _ (List.mem_of_getElem? (i := 26) rfl))) (by decide) (t := (.array .int)) (t' := .int) (by decide) (by decide)))
  have F_452 := t443_5.other W446 (Or.inr (slot_ne (Or.inl (hw _ (List.mem_of_getElem? (i := 20) rfl))) (Or.inl (hw _ (List.mem_of_getElem? (i := 26) rfl))) (by decide) (t := (.array .int)) (t' := .int) (by decide) (by decide)))
  have F_453 := t443_6.other W446 (Or.inr (slot_ne (Or.inl (hw _ (List.mem_of_getElem? (i := 22) rfl))) (Or.inl (hw _ (List.mem_of_getElem? (i := 26) rfl))) (by decide) (t := (.array .int)) (t' := .int) (by decide) (by decide)))
  have F_454 := t443_7.other W446 (Or.inr (slot_ne (Or.inl (hw _ (List.mem_of_getElem? (i := 24) rfl))) (Or.inl (hw _ (List.mem_of_getElem? (i := 26) rfl))) (by decide) (t := .int) (t' := .int) (by decide) (by decide)))
  have F_455 := t443_9.other W446 (Or.inr (slot_ne (Or.inl (hw _ (List.mem_of_getElem? (i := 28) rfl))) (Or.inl (hw _ (List.mem_of_getElem? (i := 26) rfl))) (by decide) (t := .int) (t' := .int) (by decide) (by decide)))
  have V_456 := t443_10.other W446 (Ne.symm dd442_0)
  have V_457 := t443_11.other W446 (Ne.symm dd442_1)
  have V_458 := t443_12.other W446 (Ne.symm dd442_2)
  have V_459 := t443_13.other W446 (Ne.symm dd442_3)
  have V_460 := t443_14.other W446 (Ne.symm dd442_4)
  have V_461 := t443_15.other W446 (Ne.symm dd442_5)
  have N446 := Fr.snoc X446 N0 g_aa
  have Z446 : n0 ≤ h446.size := Nat.le_trans Z0 (Keep.of_wr W446).1
  have K446 : Keep h0 h446 [aa, ae, ap, aS, ah, al, ar] := (Keep.refl h0 [aa, ae, ap, aS, ah, al, ar]).wr W446 (Or.inl (List.mem_of_getElem? (i := 0) rfl))
  obtain ⟨T462, X462, e462, st462⟩ := getF X446 hx hZ hown (host := "") (Or.inl (hw _ (List.mem_of_getElem? (i := 10) rfl))) Via.refl e446 F_448 (g := (mkF m 39 #[.val (.ref aa), .val (.long qe), .second, .val (.long qp), .second, .val (.int (Int32.ofNat md))] [(.ref aa)])) rfl rfl (hb hby d6_39)
  obtain ⟨T463, h463, X463, e463, W463, V463, st463⟩ := JA.store X462 hx hZ e462 V_456 md (own_cl hmd (by decide)) (own_nn hmd (by decide)) hmd (x := qe) (g := (mkF m 45 #[.val (.ref aa), .val (.long qe), .second, .val (.long qp), .second, .val (.int (Int32.ofNat md))] [(.long qe), (.int (Int32.ofNat md)), (.ref ae)])) rfl rfl (hb hby d6_45)
  have E_464 := E_447.wr W463
  have F_465 := F_448.other W463 (Or.inl dd442_0)
  have F_466 := F_449.other W463 (Or.inl dd442_0)
  have F_467 := F_450.other W463 (Or.inl dd442_0)
  have F_468 := F_451.other W463 (Or.inl dd442_0)
  have F_469 := F_452.other W463 (Or.inl dd442_0)
  have F_470 := F_453.other W463 (Or.inl dd442_0)
  have F_471 := F_454.other W463 (Or.inl dd442_0)
  have F_472 := F_455.other W463 (Or.inl dd442_0)
  have V_473 := V_457.other W463 (Ne.symm dd442_6)
  have V_474 := V_458.other W463 (Ne.symm dd442_7)
  have V_475 := V_459.other W463 (Ne.symm dd442_8)
  have V_476 := V_460.other W463 (Ne.symm dd442_9)
  have V_477 := V_461.other W463 (Ne.symm dd442_10)
  have F_478 := Fw446.other W463 (Or.inl dd442_0)
  have N463 := Fr.snoc X463 N446 g_ae
  have Z463 : n0 ≤ h463.size := Nat.le_trans Z446 (Keep.of_wr W463).1
  have K463 : Keep h0 h463 [aa, ae, ap, aS, ah, al, ar] := K446.wr W463 (Or.inl (List.mem_of_getElem? (i := 1) rfl))
  obtain ⟨T479, X479, e479, st479⟩ := getF X463 hx hZ hown (host := "") (Or.inl (hw _ (List.mem_of_getElem? (i := 12) rfl))) Via.refl e463 F_466 (g := (mkF m 47 #[.val (.ref aa), .val (.long qe), .second, .val (.long qp), .second, .val (.int (Int32.ofNat md))] [(.ref aa)])) rfl rfl (hb hby d6_47)
  obtain ⟨T480, h480, X480, e480, W480, V480, st480⟩ := JA.store X479 hx hZ e479 V_473 md (own_cl hmd (by decide)) (own_nn hmd (by decide)) hmd (x := qp) (g := (mkF m 53 #[.val (.ref aa), .val (.long qe), .second, .val (.long qp), .second, .val (.int (Int32.ofNat md))] [(.long qp), (.int (Int32.ofNat md)), (.ref ap)])) rfl rfl (hb hby d6_53)
  have E_481 := E_464.wr W480
  have F_482 := F_465.other W480 (Or.inl dd442_1)
  have F_483 := F_466.other W480 (Or.inl dd442_1)
  have F_484 := F_467.other W480 (Or.inl dd442_1)
  have F_485 := F_468.other W480 (Or.inl dd442_1)
  have F_486 := F_469.other W480 (Or.inl dd442_1)
  have F_487 := F_470.other W480 (Or.inl dd442_1)
  have F_488 := F_471.other W480 (Or.inl dd442_1)
  have F_489 := F_472.other W480 (Or.inl dd442_1)
  have V_490 := V_474.other W480 (Ne.symm dd442_11)
  have V_491 := V_475.other W480 (Ne.symm dd442_12)
  have V_492 := V_476.other W480 (Ne.symm dd442_13)
  have V_493 := V_477.other W480 (Ne.symm dd442_14)
  have F_494 := F_478.other W480 (Or.inl dd442_1)
  have V_495 := V463.other W480 dd442_6
  have N480 := Fr.snoc X480 N463 g_ap
  have Z480 : n0 ≤ h480.size := Nat.le_trans Z463 (Keep.of_wr W480).1
  have K480 : Keep h0 h480 [aa, ae, ap, aS, ah, al, ar] := K463.wr W480 (Or.inl (List.mem_of_getElem? (i := 2) rfl))
  obtain ⟨T496, X496, e496, st496⟩ := getF X480 hx hZ hown (host := "") (Or.inl (hw _ (List.mem_of_getElem? (i := 14) rfl))) Via.refl e480 F_484 (g := (mkF m 55 #[.val (.ref aa), .val (.long qe), .second, .val (.long qp), .second, .val (.int (Int32.ofNat md))] [(.ref aa)])) rfl rfl (hb hby d6_55)
  obtain ⟨T497, h497, X497, e497, W497, V497, st497⟩ := JA.store X496 hx hZ e496 V_490 md (own_cl hmd (by decide)) (own_nn hmd (by decide)) hmd (x := qp) (g := (mkF m 61 #[.val (.ref aa), .val (.long qe), .second, .val (.long qp), .second, .val (.int (Int32.ofNat md))] [(.long qp), (.int (Int32.ofNat md)), (.ref aS)])) rfl rfl (hb hby d6_61)
  have E_498 := E_481.wr W497
  have F_499 := F_482.other W497 (Or.inl dd442_2)
  have F_500 := F_483.other W497 (Or.inl dd442_2)
  have F_501 := F_484.other W497 (Or.inl dd442_2)
  have F_502 := F_485.other W497 (Or.inl dd442_2)
  have F_503 := F_486.other W497 (Or.inl dd442_2)
  have F_504 := F_487.other W497 (Or.inl dd442_2)
  have F_505 := F_488.other W497 (Or.inl dd442_2)
  have F_506 := F_489.other W497 (Or.inl dd442_2)
  have V_507 := V_491.other W497 (Ne.symm dd442_15)
  have V_508 := V_492.other W497 (Ne.symm dd442_16)
  have V_509 := V_493.other W497 (Ne.symm dd442_17)
  have F_510 := F_494.other W497 (Or.inl dd442_2)
  have V_511 := V_495.other W497 dd442_7
  have V_512 := V480.other W497 dd442_11
  have N497 := Fr.snoc X497 N480 g_aS
  have Z497 : n0 ≤ h497.size := Nat.le_trans Z480 (Keep.of_wr W497).1
  have K497 : Keep h0 h497 [aa, ae, ap, aS, ah, al, ar] := K480.wr W497 (Or.inl (List.mem_of_getElem? (i := 3) rfl))
  obtain ⟨T513, X513, e513, st513⟩ := getF X497 hx hZ hown (host := "") (Or.inl (hw _ (List.mem_of_getElem? (i := 17) rfl))) Via.refl e497 F_502 (g := (mkF m 63 #[.val (.ref aa), .val (.long qe), .second, .val (.long qp), .second, .val (.int (Int32.ofNat md))] [(.ref aa)])) rfl rfl (hb hby d6_63)
  obtain ⟨T514, h514, X514, e514, W514, V514, st514⟩ := IA.store X513 hx hZ e513 V_507 md (own_cl hmd (by decide)) (own_nn hmd (by decide)) hmd (x := 1) (g := (mkF m 69 #[.val (.ref aa), .val (.long qe), .second, .val (.long qp), .second, .val (.int (Int32.ofNat md))] [(.int (1 : Int32)), (.int (Int32.ofNat md)), (.ref ah)])) rfl rfl (hb hby d6_69)
  have E_515 := E_498.wr W514
  have F_516 := F_499.other W514 (Or.inl dd442_3)
  have F_517 := F_500.other W514 (Or.inl dd442_3)
  have F_518 := F_501.other W514 (Or.inl dd442_3)
  have F_519 := F_502.other W514 (Or.inl dd442_3)
  have F_520 := F_503.other W514 (Or.inl dd442_3)
  have F_521 := F_504.other W514 (Or.inl dd442_3)
  have F_522 := F_505.other W514 (Or.inl dd442_3)
  have F_523 := F_506.other W514 (Or.inl dd442_3)
  have V_524 := V_508.other W514 (Ne.symm dd442_18)
  have V_525 := V_509.other W514 (Ne.symm dd442_19)
  have F_526 := F_510.other W514 (Or.inl dd442_3)
  have V_527 := V_511.other W514 dd442_8
  have V_528 := V_512.other W514 dd442_12
  have V_529 := V497.other W514 dd442_15
  have N514 := Fr.snoc X514 N497 g_ah
  have Z514 : n0 ≤ h514.size := Nat.le_trans Z497 (Keep.of_wr W514).1
  have K514 : Keep h0 h514 [aa, ae, ap, aS, ah, al, ar] := K497.wr W514 (Or.inl (List.mem_of_getElem? (i := 4) rfl))
  obtain ⟨T530, X530, e530, st530⟩ := getF X514 hx hZ hown (host := "") (Or.inl (hw _ (List.mem_of_getElem? (i := 19) rfl))) Via.refl e514 F_520 (g := (mkF m 71 #[.val (.ref aa), .val (.long qe), .second, .val (.long qp), .second, .val (.int (Int32.ofNat md))] [(.ref aa)])) rfl rfl (hb hby d6_71)
  obtain ⟨T531, h531, X531, e531, W531, V531, st531⟩ := IA.store X530 hx hZ e530 V_524 md (own_cl hmd (by decide)) (own_nn hmd (by decide)) hmd (x := 0) (g := (mkF m 77 #[.val (.ref aa), .val (.long qe), .second, .val (.long qp), .second, .val (.int (Int32.ofNat md))] [(.int (0 : Int32)), (.int (Int32.ofNat md)), (.ref al)])) rfl rfl (hb hby d6_77)
  have E_532 := E_515.wr W531
  have F_533 := F_516.other W531 (Or.inl dd442_4)
  have F_534 := F_517.other W531 (Or.inl dd442_4)
  have F_535 := F_518.other W531 (Or.inl dd442_4)
  have F_536 := F_519.other W531 (Or.inl dd442_4)
  have F_537 := F_520.other W531 (Or.inl dd442_4)
  have F_538 := F_521.other W531 (Or.inl dd442_4)
  have F_539 := F_522.other W531 (Or.inl dd442_4)
  have F_540 := F_523.other W531 (Or.inl dd442_4)
  have V_541 := V_525.other W531 (Ne.symm dd442_20)
  have F_542 := F_526.other W531 (Or.inl dd442_4)
  have V_543 := V_527.other W531 dd442_9
  have V_544 := V_528.other W531 dd442_13
  have V_545 := V_529.other W531 dd442_16
  have V_546 := V514.other W531 dd442_18
  have N531 := Fr.snoc X531 N514 g_al
  have Z531 : n0 ≤ h531.size := Nat.le_trans Z514 (Keep.of_wr W531).1
  have K531 : Keep h0 h531 [aa, ae, ap, aS, ah, al, ar] := K514.wr W531 (Or.inl (List.mem_of_getElem? (i := 5) rfl))
  obtain ⟨T547, X547, e547, st547⟩ := getF X531 hx hZ hown (host := "") (Or.inl (hw _ (List.mem_of_getElem? (i := 21) rfl))) Via.refl e531 F_538 (g := (mkF m 79 #[.val (.ref aa), .val (.long qe), .second, .val (.long qp), .second, .val (.int (Int32.ofNat md))] [(.ref aa)])) rfl rfl (hb hby d6_79)
  obtain ⟨T548, h548, X548, e548, W548, V548, st548⟩ := IA.store X547 hx hZ e547 V_541 md (own_cl hmd (by decide)) (own_nn hmd (by decide)) hmd (x := 0) (g := (mkF m 85 #[.val (.ref aa), .val (.long qe), .second, .val (.long qp), .second, .val (.int (Int32.ofNat md))] [(.int (0 : Int32)), (.int (Int32.ofNat md)), (.ref ar)])) rfl rfl (hb hby d6_85)
  have E_549 := E_532.wr W548
  have F_550 := F_533.other W548 (Or.inl dd442_5)
  have F_551 := F_534.other W548 (Or.inl dd442_5)
  have F_552 := F_535.other W548 (Or.inl dd442_5)
  have F_553 := F_536.other W548 (Or.inl dd442_5)
  have F_554 := F_537.other W548 (Or.inl dd442_5)
  have F_555 := F_538.other W548 (Or.inl dd442_5)
  have F_556 := F_539.other W548 (Or.inl dd442_5)
  have F_557 := F_540.other W548 (Or.inl dd442_5)
  have F_558 := F_542.other W548 (Or.inl dd442_5)
  have V_559 := V_543.other W548 dd442_10
  have V_560 := V_544.other W548 dd442_14
  have V_561 := V_545.other W548 dd442_17
  have V_562 := V_546.other W548 dd442_19
  have V_563 := V531.other W548 dd442_20
  have N548 := Fr.snoc X548 N531 g_ar
  have Z548 : n0 ≤ h548.size := Nat.le_trans Z531 (Keep.of_wr W548).1
  have K548 : Keep h0 h548 [aa, ae, ap, aS, ah, al, ar] := K531.wr W548 (Or.inl (List.mem_of_getElem? (i := 6) rfl))
  obtain ⟨fs, hr, hrun, hended, hW, hsame⟩ := X548.leave (v := some (.int (Int32.ofNat md))) (fun h => by rw [Bd.returns] at h; cases h)
  refine ⟨_, _, pre0 _ ?_, hrun, hended, _, _, rfl, ?_, ⟨_, rfl⟩, hW, hsame.mono (by decide) (by decide)⟩
  · show Steps p.tables e below (s₁.setTop (mkF m 0 #[.val (.ref aa), .val (.long qe), .second, .val (.long qp), .second, .unset] [])) _
    refine XS.aloadN X0.here hx rfl (hb hby d6_0) rfl rfl ?_
    show Steps p.tables e below (s₁.setTop (mkF m 1 #[.val (.ref aa), .val (.long qe), .second, .val (.long qp), .second, .unset] [(.ref aa)])) _
    refine st444 _ ?_
    show Steps p.tables e below (T444.setTop (mkF m 4 #[.val (.ref aa), .val (.long qe), .second, .val (.long qp), .second, .unset] [(.int (0 : Int32))])) _
    refine XS.istore X444.here hx rfl (hb hby d6_4) rfl (l' := #[.val (.ref aa), .val (.long qe), .second, .val (.long qp), .second, .val (.int (0 : Int32))]) rfl ?_
    show Steps p.tables e below (T444.setTop (mkF m 6 #[.val (.ref aa), .val (.long qe), .second, .val (.long qp), .second, .val (.int (0 : Int32))] [])) _
    refine XS.iload X444.here hx rfl (hb hby d6_6) rfl ?_
    show Steps p.tables e below (T444.setTop (mkF m 8 #[.val (.ref aa), .val (.long qe), .second, .val (.long qp), .second, .val (.int (0 : Int32))] [(.int (0 : Int32))])) _
    refine XS.ifYes X444.here hx rfl (pc0 := 8) (pc' := 25) rfl (hb hby d6_8) rfl ((if0 _ _).trans (teq (rfl : (0 : Int32) = (0 : Int32))).1) (by decide) (by decide) ?_
    show Steps p.tables e below (T444.setTop (mkF m 25 #[.val (.ref aa), .val (.long qe), .second, .val (.long qp), .second, .val (.int (0 : Int32))] [])) _
    refine XS.aloadN X444.here hx rfl (hb hby d6_25) rfl rfl ?_
    show Steps p.tables e below (T444.setTop (mkF m 26 #[.val (.ref aa), .val (.long qe), .second, .val (.long qp), .second, .val (.int (0 : Int32))] [(.ref aa)])) _
    refine XS.dup X444.here hx rfl (hb hby d6_26) rfl rfl ?_
    show Steps p.tables e below (T444.setTop (mkF m 27 #[.val (.ref aa), .val (.long qe), .second, .val (.long qp), .second, .val (.int (0 : Int32))] [(.ref aa), (.ref aa)])) _
    refine st445 _ ?_
    show Steps p.tables e below (T445.setTop (mkF m 30 #[.val (.ref aa), .val (.long qe), .second, .val (.long qp), .second, .val (.int (0 : Int32))] [(.int (Int32.ofNat md)), (.ref aa)])) _
    refine XS.dupX1 X445.here hx rfl (hb hby d6_30) rfl rfl rfl ?_
    show Steps p.tables e below (T445.setTop (mkF m 31 #[.val (.ref aa), .val (.long qe), .second, .val (.long qp), .second, .val (.int (0 : Int32))] [(.int (Int32.ofNat md)), (.ref aa), (.int (Int32.ofNat md))])) _
    refine XS.iconst X445.here hx rfl (hb hby d6_31) ?_
    show Steps p.tables e below (T445.setTop (mkF m 32 #[.val (.ref aa), .val (.long qe), .second, .val (.long qp), .second, .val (.int (0 : Int32))] [(.int (1 : Int32)), (.int (Int32.ofNat md)), (.ref aa), (.int (Int32.ofNat md))])) _
    refine XS.iadd X445.here hx rfl (hb hby d6_32) rfl ?_
    show Steps p.tables e below (T445.setTop (mkF m 33 #[.val (.ref aa), .val (.long qe), .second, .val (.long qp), .second, .val (.int (0 : Int32))] [(.int ((Int32.ofNat md) + (1 : Int32))), (.ref aa), (.int (Int32.ofNat md))])) _
    refine castTop (g' := (mkF m 33 #[.val (.ref aa), .val (.long qe), .second, .val (.long qp), .second, .val (.int (0 : Int32))] [(.int (Int32.ofNat (md + 1))), (.ref aa), (.int (Int32.ofNat md))])) (by rw [own_inc md]) ?_
    show Steps p.tables e below (T445.setTop (mkF m 33 #[.val (.ref aa), .val (.long qe), .second, .val (.long qp), .second, .val (.int (0 : Int32))] [(.int (Int32.ofNat (md + 1))), (.ref aa), (.int (Int32.ofNat md))])) _
    refine st446 _ ?_
    show Steps p.tables e below (T446.setTop (mkF m 36 #[.val (.ref aa), .val (.long qe), .second, .val (.long qp), .second, .val (.int (0 : Int32))] [(.int (Int32.ofNat md))])) _
    refine XS.istore X446.here hx rfl (hb hby d6_36) rfl (l' := #[.val (.ref aa), .val (.long qe), .second, .val (.long qp), .second, .val (.int (Int32.ofNat md))]) rfl ?_
    show Steps p.tables e below (T446.setTop (mkF m 38 #[.val (.ref aa), .val (.long qe), .second, .val (.long qp), .second, .val (.int (Int32.ofNat md))] [])) _
    refine XS.aloadN X446.here hx rfl (hb hby d6_38) rfl rfl ?_
    show Steps p.tables e below (T446.setTop (mkF m 39 #[.val (.ref aa), .val (.long qe), .second, .val (.long qp), .second, .val (.int (Int32.ofNat md))] [(.ref aa)])) _
    refine st462 _ ?_
    show Steps p.tables e below (T462.setTop (mkF m 42 #[.val (.ref aa), .val (.long qe), .second, .val (.long qp), .second, .val (.int (Int32.ofNat md))] [(.ref ae)])) _
    refine XS.iload X462.here hx rfl (hb hby d6_42) rfl ?_
    show Steps p.tables e below (T462.setTop (mkF m 44 #[.val (.ref aa), .val (.long qe), .second, .val (.long qp), .second, .val (.int (Int32.ofNat md))] [(.int (Int32.ofNat md)), (.ref ae)])) _
    refine XS.lloadN X462.here hx rfl (hb hby d6_44) rfl ?_
    show Steps p.tables e below (T462.setTop (mkF m 45 #[.val (.ref aa), .val (.long qe), .second, .val (.long qp), .second, .val (.int (Int32.ofNat md))] [(.long qe), (.int (Int32.ofNat md)), (.ref ae)])) _
    refine st463 _ ?_
    show Steps p.tables e below (T463.setTop (mkF m 46 #[.val (.ref aa), .val (.long qe), .second, .val (.long qp), .second, .val (.int (Int32.ofNat md))] [])) _
    refine XS.aloadN X463.here hx rfl (hb hby d6_46) rfl rfl ?_
    show Steps p.tables e below (T463.setTop (mkF m 47 #[.val (.ref aa), .val (.long qe), .second, .val (.long qp), .second, .val (.int (Int32.ofNat md))] [(.ref aa)])) _
    refine st479 _ ?_
    show Steps p.tables e below (T479.setTop (mkF m 50 #[.val (.ref aa), .val (.long qe), .second, .val (.long qp), .second, .val (.int (Int32.ofNat md))] [(.ref ap)])) _
    refine XS.iload X479.here hx rfl (hb hby d6_50) rfl ?_
    show Steps p.tables e below (T479.setTop (mkF m 52 #[.val (.ref aa), .val (.long qe), .second, .val (.long qp), .second, .val (.int (Int32.ofNat md))] [(.int (Int32.ofNat md)), (.ref ap)])) _
    refine XS.lloadN X479.here hx rfl (hb hby d6_52) rfl ?_
    show Steps p.tables e below (T479.setTop (mkF m 53 #[.val (.ref aa), .val (.long qe), .second, .val (.long qp), .second, .val (.int (Int32.ofNat md))] [(.long qp), (.int (Int32.ofNat md)), (.ref ap)])) _
    refine st480 _ ?_
    show Steps p.tables e below (T480.setTop (mkF m 54 #[.val (.ref aa), .val (.long qe), .second, .val (.long qp), .second, .val (.int (Int32.ofNat md))] [])) _
    refine XS.aloadN X480.here hx rfl (hb hby d6_54) rfl rfl ?_
    show Steps p.tables e below (T480.setTop (mkF m 55 #[.val (.ref aa), .val (.long qe), .second, .val (.long qp), .second, .val (.int (Int32.ofNat md))] [(.ref aa)])) _
    refine st496 _ ?_
    show Steps p.tables e below (T496.setTop (mkF m 58 #[.val (.ref aa), .val (.long qe), .second, .val (.long qp), .second, .val (.int (Int32.ofNat md))] [(.ref aS)])) _
    refine XS.iload X496.here hx rfl (hb hby d6_58) rfl ?_
    show Steps p.tables e below (T496.setTop (mkF m 60 #[.val (.ref aa), .val (.long qe), .second, .val (.long qp), .second, .val (.int (Int32.ofNat md))] [(.int (Int32.ofNat md)), (.ref aS)])) _
    refine XS.lloadN X496.here hx rfl (hb hby d6_60) rfl ?_
    show Steps p.tables e below (T496.setTop (mkF m 61 #[.val (.ref aa), .val (.long qe), .second, .val (.long qp), .second, .val (.int (Int32.ofNat md))] [(.long qp), (.int (Int32.ofNat md)), (.ref aS)])) _
    refine st497 _ ?_
    show Steps p.tables e below (T497.setTop (mkF m 62 #[.val (.ref aa), .val (.long qe), .second, .val (.long qp), .second, .val (.int (Int32.ofNat md))] [])) _
    refine XS.aloadN X497.here hx rfl (hb hby d6_62) rfl rfl ?_
    show Steps p.tables e below (T497.setTop (mkF m 63 #[.val (.ref aa), .val (.long qe), .second, .val (.long qp), .second, .val (.int (Int32.ofNat md))] [(.ref aa)])) _
    refine st513 _ ?_
    show Steps p.tables e below (T513.setTop (mkF m 66 #[.val (.ref aa), .val (.long qe), .second, .val (.long qp), .second, .val (.int (Int32.ofNat md))] [(.ref ah)])) _
    refine XS.iload X513.here hx rfl (hb hby d6_66) rfl ?_
    show Steps p.tables e below (T513.setTop (mkF m 68 #[.val (.ref aa), .val (.long qe), .second, .val (.long qp), .second, .val (.int (Int32.ofNat md))] [(.int (Int32.ofNat md)), (.ref ah)])) _
    refine XS.iconst X513.here hx rfl (hb hby d6_68) ?_
    show Steps p.tables e below (T513.setTop (mkF m 69 #[.val (.ref aa), .val (.long qe), .second, .val (.long qp), .second, .val (.int (Int32.ofNat md))] [(.int (1 : Int32)), (.int (Int32.ofNat md)), (.ref ah)])) _
    refine st514 _ ?_
    show Steps p.tables e below (T514.setTop (mkF m 70 #[.val (.ref aa), .val (.long qe), .second, .val (.long qp), .second, .val (.int (Int32.ofNat md))] [])) _
    refine XS.aloadN X514.here hx rfl (hb hby d6_70) rfl rfl ?_
    show Steps p.tables e below (T514.setTop (mkF m 71 #[.val (.ref aa), .val (.long qe), .second, .val (.long qp), .second, .val (.int (Int32.ofNat md))] [(.ref aa)])) _
    refine st530 _ ?_
    show Steps p.tables e below (T530.setTop (mkF m 74 #[.val (.ref aa), .val (.long qe), .second, .val (.long qp), .second, .val (.int (Int32.ofNat md))] [(.ref al)])) _
    refine XS.iload X530.here hx rfl (hb hby d6_74) rfl ?_
    show Steps p.tables e below (T530.setTop (mkF m 76 #[.val (.ref aa), .val (.long qe), .second, .val (.long qp), .second, .val (.int (Int32.ofNat md))] [(.int (Int32.ofNat md)), (.ref al)])) _
    refine XS.iconst X530.here hx rfl (hb hby d6_76) ?_
    show Steps p.tables e below (T530.setTop (mkF m 77 #[.val (.ref aa), .val (.long qe), .second, .val (.long qp), .second, .val (.int (Int32.ofNat md))] [(.int (0 : Int32)), (.int (Int32.ofNat md)), (.ref al)])) _
    refine st531 _ ?_
    show Steps p.tables e below (T531.setTop (mkF m 78 #[.val (.ref aa), .val (.long qe), .second, .val (.long qp), .second, .val (.int (Int32.ofNat md))] [])) _
    refine XS.aloadN X531.here hx rfl (hb hby d6_78) rfl rfl ?_
    show Steps p.tables e below (T531.setTop (mkF m 79 #[.val (.ref aa), .val (.long qe), .second, .val (.long qp), .second, .val (.int (Int32.ofNat md))] [(.ref aa)])) _
    refine st547 _ ?_
    show Steps p.tables e below (T547.setTop (mkF m 82 #[.val (.ref aa), .val (.long qe), .second, .val (.long qp), .second, .val (.int (Int32.ofNat md))] [(.ref ar)])) _
    refine XS.iload X547.here hx rfl (hb hby d6_82) rfl ?_
    show Steps p.tables e below (T547.setTop (mkF m 84 #[.val (.ref aa), .val (.long qe), .second, .val (.long qp), .second, .val (.int (Int32.ofNat md))] [(.int (Int32.ofNat md)), (.ref ar)])) _
    refine XS.iconst X547.here hx rfl (hb hby d6_84) ?_
    show Steps p.tables e below (T547.setTop (mkF m 85 #[.val (.ref aa), .val (.long qe), .second, .val (.long qp), .second, .val (.int (Int32.ofNat md))] [(.int (0 : Int32)), (.int (Int32.ofNat md)), (.ref ar)])) _
    refine st548 _ ?_
    show Steps p.tables e below (T548.setTop (mkF m 86 #[.val (.ref aa), .val (.long qe), .second, .val (.long qp), .second, .val (.int (Int32.ofNat md))] [])) _
    refine XS.iload X548.here hx rfl (hb hby d6_86) rfl ?_
    show Steps p.tables e below (T548.setTop (mkF m 88 #[.val (.ref aa), .val (.long qe), .second, .val (.long qp), .second, .val (.int (Int32.ofNat md))] [(.int (Int32.ofNat md))])) _
    exact retI X548 hx Bd.returns (hb hby d6_88) hr
  · show Q6 Z aa ae ap aS ah al ar S rt md qe qp h0 n0 _ T548.heap _
    rw [e548]
    exact ⟨rfl, N548, K548, (TR.mk (S := (own_setR (own_setL (own_setH (own_setS (own_setP (own_setE S md qe) md qp) md qp) md 1) md 0) md 0)) E_549 F_550 F_551 F_552 F_553 F_554 F_555 F_556 F_558 F_557 V_559 V_560 V_561 V_562 V_563 V548)⟩

theorem d5_0_0 : decode prog_107_method_7_code 0 = .ok (.iload_n 1, 1) := by decide +kernel
theorem d5_0_1 : decode prog_107_method_7_code 1 = .ok (.ifCond .ne 15, 3) := by decide +kernel
theorem d5_0_4 : decode prog_107_method_7_code 4 = .ok (.aload_n 0, 1) := by decide +kernel
theorem d5_0_5 : decode prog_107_method_7_code 5 = .ok (.lload_n 2, 1) := by decide +kernel
theorem d5_0_6 : decode prog_107_method_7_code 6 = .ok (.lload 4, 2) := by decide +kernel
theorem d5_0_8 : decode prog_107_method_7_code 8 = .ok (.invokevirtual 62, 3) := by decide +kernel
theorem pd_711708 : parseMethodDescriptor "(JJ)I" = some ⟨[.long, .long], some .int⟩ := by decide +kernel
theorem d5_0_11 : decode prog_107_method_7_code 11 = .ok (.istore 6, 2) := by decide +kernel
theorem d5_0_13 : decode prog_107_method_7_code 13 = .ok (.goto 87, 3) := by decide +kernel
theorem d5_0_100 : decode prog_107_method_7_code 100 = .ok (.iload 6, 2) := by decide +kernel
theorem d5_0_102 : decode prog_107_method_7_code 102 = .ok (.ireturn, 1) := by decide +kernel
theorem ef_5_0 (m : MethodId) (aa : Addr) (qe : Int64) (qp : Int64) : entryFrame m #[(.ref aa), (.int (Int32.ofNat i)), (.long qe), (.long qp)] 7 = mkF m 0 #[.val (.ref aa), .val (.int (Int32.ofNat i)), .val (.long qe), .second, .val (.long qp), .second, .unset] [] := by first | (simp [entryFrame, mkF, argsToLocals, Value.category]; done) | rfl
def Q5_0 (Z : State) (aa : Addr) (ae : Addr) (ap : Addr) (aS : Addr) (ah : Addr) (al : Addr) (ar : Addr) (S : own_S) (rt : Nat) (md : Nat) (i : Nat) (B : Nat) (qe : Int64) (qp : Int64) (h0 : Heap) (n0 : Nat) (v : Option Value) (h : Heap) (L : List Loc) : Prop := v = some (.int (Int32.ofNat (own_add 0 S md i qe qp).2.2)) ∧ Fr n0 L ∧ Keep h0 h [aa, ae, ap, aS, ah, al, ar] ∧ TR Z h aa ae ap aS ah al ar (own_add 0 S md i qe qp).1 rt (own_add 0 S md i qe qp).2.1
set_option maxRecDepth 65536 in
set_option maxHeartbeats 40000000 in
theorem rm5_0 (l : Launch) (Z : State) (a0 : Array Value) (hw : ∀ d ∈ tables_1, d.before a0 Z = true) (ws : List Jvm.Cond) (aa : Addr) (ae : Addr) (ap : Addr) (aS : Addr) (ah : Addr) (al : Addr) (ar : Addr) (S : own_S) (rt : Nat) (md : Nat) (i : Nat) (B : Nat) (qe : Int64) (qp : Int64) (h0 : Heap) (n0 : Nat) (Z0 : n0 ≤ h0.size) (g_aa : n0 ≤ aa) (g_ae : n0 ≤ ae) (g_ap : n0 ≤ ap) (g_aS : n0 ≤ aS) (g_ah : n0 ≤ ah) (g_al : n0 ≤ al) (g_ar : n0 ≤ ar) (hD : own_D aa ae ap aS ah al ar) (hTR : TR Z h0 aa ae ap aS ah al ar S rt md) (hi : i < 16) (hok : own_ok B S) (hB : B + 5 * 0 + 5 < 1000000) (hmd : md < 16) (hdeep : own_deep 0 S i) :
    MetFree l (⟨"com/example/berthline/berthline/engine/replay/EstimatedEnds", "add", "(IJJ)I"⟩ : MethodName) (head1 (Jvm.Cond.code (⟨"com/example/berthline/berthline/engine/replay/EstimatedEnds", "add", "(IJJ)I"⟩ : MethodName) prog_107_method_7_code 7 (some .int) :: ws) ({ frames := 1, cells := 0, slots := 0, locals := 17 } : Room)) (fun a U => a = #[(.ref aa), (.int (Int32.ofNat i)), (.long qe), (.long qp)] ∧ Z.Warmed39 U.vm ∧ U.heap = h0) (fun _ _ _ _ _ => True) (fun _ U o U' => ∃ v L, o = .returned v ∧ Q5_0 Z aa ae ap aS ah al ar S rt md i B qe qp h0 n0 v U'.heap L ∧ FrameEnd U o U' L ({ frames := 1, cells := 0, slots := 0, locals := 17 } : Room).cells ({ frames := 1, cells := 0, slots := 0, locals := 17 } : Room).slots) := by
  refine MetFree.of_bodySF (plainFor_of_name pn_com_example_berthline_berthline_engine_replay_EstimatedEnds) hisR ?_
  intro p e s m args below meth c s₁ Bd hml0 hP hK
  obtain ⟨rfl, hZ, hh⟩ := hP
  have hx := Bd.exec
  have hby := Bd.bytes
  have hml : c.maxLocals = 7 := hml0
  have hown : s.vm.findClass "com/example/berthline/berthline/engine/replay/EstimatedEnds" = some m.cls := findClass_of_methodNamed Bd.named
  have hnm := (name_of_methodNamed Bd.named Bd.method).1
  have X0 : Stand p l e ({ frames := 1, cells := 0, slots := 0, locals := 17 } : Room) s m #[(.ref aa), (.int (Int32.ofNat i)), (.long qe), (.long qp)] below meth c s₁ [] 0 0 := Stand.of_body Bd
  have e0 : s₁.heap = h0 := by rw [← hh, Bd.state]; rfl
  have N0 := Fr.nil n0
  have pre0 : ∀ t, Steps p.tables e below (s₁.setTop (mkF m 0 #[.val (.ref aa), .val (.int (Int32.ofNat i)), .val (.long qe), .second, .val (.long qp), .second, .unset] [])) t → Steps p.tables e below (s₁.setTop (entryFrame m #[(.ref aa), (.int (Int32.ofNat i)), (.long qe), (.long qp)] 7)) t := fun t k => castTop (ef_5_0 m aa qe qp) k
  obtain ⟨dd564_0, dd564_1, dd564_2, dd564_3, dd564_4, dd564_5, dd564_6, dd564_7, dd564_8, dd564_9, dd564_10, dd564_11, dd564_12, dd564_13, dd564_14, dd564_15, dd564_16, dd564_17, dd564_18, dd564_19, dd564_20⟩ := id hD
  obtain ⟨t565_0, t565_1, t565_2, t565_3, t565_4, t565_5, t565_6, t565_7, t565_8, t565_9, t565_10, t565_11, t565_12, t565_13, t565_14, t565_15⟩ := hTR
  by_cases hc566 : (Int32.ofNat i) = (0 : Int32)
  · obtain ⟨cq567, q567, q567'⟩ := t565_0.cell
    obtain ⟨_, _, ⟨T567, L567, k567, n567⟩, -, X567, ⟨Lc567, hQ567, l567, y567, z567⟩, st567⟩ := X0.privateBack hx (y := (⟨"com/example/berthline/berthline/engine/replay/EstimatedEnds", "make", "(JJ)I"⟩ : MethodName)) hown (mvT hZ (hw _ (List.mem_of_getElem? (i := 43) rfl))) (mvT hZ (hw _ (List.mem_of_getElem? (i := 44) rfl))) (own_selects hZ (hw _ (List.mem_of_getElem? (i := 1) rfl)) (hw _ (List.mem_of_getElem? (i := 45) rfl)) (hw _ (List.mem_of_getElem? (i := 44) rfl)) (by decide)) (Cond.privateMethod_at (mvP hZ (hw _ (List.mem_of_getElem? (i := 45) rfl)) (args := #[]))) (mvT hZ (hw _ (List.mem_of_getElem? (i := 46) rfl))) (by decide) (backOf (W := 0) (rm6 l Z a0 hw [] aa ae ap aS ah al ar S rt md qe qp h0 n0 Z0 g_aa g_ae g_ap g_aS g_ah g_al g_ar hD (TR.mk (S := S) t565_0 t565_1 t565_2 t565_3 t565_4 t565_5 t565_6 t565_7 t565_8 t565_9 t565_10 t565_11 t565_12 t565_13 t565_14 t565_15) hmd) hZ (hw _ (List.mem_of_getElem? (i := 46) rfl)) (hw _ (List.mem_of_getElem? (i := 2) rfl)) (by decide) (by decide)) (g := (mkF m 8 #[.val (.ref aa), .val (.int (Int32.ofNat i)), .val (.long qe), .second, .val (.long qp), .second, .unset] [(.long qp), (.long qe), (.ref aa)])) rfl (by rw [hml]; rfl) (Steps.refl _) (a := aa) (by rw [e0]; exact q567) q567' (argsL := [(.long qe), (.long qp)]) (rest := []) (lenOf pd_711708 rfl) rfl (by show 2 * 0 + _ ≤ _; exact Nat.le_of_eq rfl) (hb hby d5_0_8) (fun _ _ => ⟨rfl, e0, (by decide : 0 + 0 ≤ _), (by decide : 0 + 0 ≤ _)⟩)
    dsimp only [Pt.U, Pt.locs, Pt.cells, Pt.slots] at X567 l567 y567 z567 st567 hQ567
    subst l567 y567 z567
    obtain ⟨rfl, N567q, K567c, G567_0⟩ := hQ567
    have N567 := Fr.app N0 N567q
    have E_568 := t565_0.keep K567c
    have Z567 : n0 ≤ T567.heap.size := Nat.le_trans Z0 K567c.1
    have K567 : Keep h0 T567.heap [aa, ae, ap, aS, ah, al, ar] := (Keep.refl h0 [aa, ae, ap, aS, ah, al, ar]).trans K567c (allS (P := fun x => x ∈ [aa, ae, ap, aS, ah, al, ar] ∨ h0.size ≤ x) (Or.inl (List.mem_of_getElem? (i := 0) rfl)) (allS (P := fun x => x ∈ [aa, ae, ap, aS, ah, al, ar] ∨ h0.size ≤ x) (Or.inl (List.mem_of_getElem? (i := 1) rfl)) (allS (P := fun x => x ∈ [aa, ae, ap, aS, ah, al, ar] ∨ h0.size ≤ x) (Or.inl (List.mem_of_getElem? (i := 2) rfl)) (allS (P := fun x => x ∈ [aa, ae, ap, aS, ah, al, ar] ∨ h0.size ≤ x) (Or.inl (List.mem_of_getElem? (i := 3) rfl)) (allS (P := fun x => x ∈ [aa, ae, ap, aS, ah, al, ar] ∨ h0.size ≤ x) (Or.inl (List.mem_of_getElem? (i := 4) rfl)) (allS (P := fun x => x ∈ [aa, ae, ap, aS, ah, al, ar] ∨ h0.size ≤ x) (Or.inl (List.mem_of_getElem? (i := 5) rfl)) (allS (P := fun x => x ∈ [aa, ae, ap, aS, ah, al, ar] ∨ h0.size ≤ x) (Or.inl (List.mem_of_getElem? (i := 6) rfl)) all0)))))))
    obtain ⟨t569_0, t569_1, t569_2, t569_3, t569_4, t569_5, t569_6, t569_7, t569_8, t569_9, t569_10, t569_11, t569_12, t569_13, t569_14, t569_15⟩ := G567_0
    have hbq := own_add_zero S md i qe qp
    obtain ⟨fs, hr, hrun, hended, hW, hsame⟩ := X567.leave (v := some (.int (Int32.ofNat md))) (fun h => by rw [Bd.returns] at h; cases h)
    refine ⟨_, _, pre0 _ ?_, hrun, hended, _, _, rfl, ?_, ⟨_, rfl⟩, hW, hsame.mono (by decide) (by decide)⟩
    · show Steps p.tables e below (s₁.setTop (mkF m 0 #[.val (.ref aa), .val (.int (Int32.ofNat i)), .val (.long qe), .second, .val (.long qp), .second, .unset] [])) _
      refine XS.iloadN X0.here hx rfl (hb hby d5_0_0) rfl ?_
      show Steps p.tables e below (s₁.setTop (mkF m 1 #[.val (.ref aa), .val (.int (Int32.ofNat i)), .val (.long qe), .second, .val (.long qp), .second, .unset] [(.int (Int32.ofNat i))])) _
      refine XS.ifNo X0.here hx rfl (hb hby d5_0_1) rfl ((if0 _ _).trans (teq hc566).2) ?_
      show Steps p.tables e below (s₁.setTop (mkF m 4 #[.val (.ref aa), .val (.int (Int32.ofNat i)), .val (.long qe), .second, .val (.long qp), .second, .unset] [])) _
      refine XS.aloadN X0.here hx rfl (hb hby d5_0_4) rfl rfl ?_
      show Steps p.tables e below (s₁.setTop (mkF m 5 #[.val (.ref aa), .val (.int (Int32.ofNat i)), .val (.long qe), .second, .val (.long qp), .second, .unset] [(.ref aa)])) _
      refine XS.lloadN X0.here hx rfl (hb hby d5_0_5) rfl ?_
      show Steps p.tables e below (s₁.setTop (mkF m 6 #[.val (.ref aa), .val (.int (Int32.ofNat i)), .val (.long qe), .second, .val (.long qp), .second, .unset] [(.long qe), (.ref aa)])) _
      refine XS.lload X0.here hx rfl (hb hby d5_0_6) rfl ?_
      show Steps p.tables e below (s₁.setTop (mkF m 8 #[.val (.ref aa), .val (.int (Int32.ofNat i)), .val (.long qe), .second, .val (.long qp), .second, .unset] [(.long qp), (.long qe), (.ref aa)])) _
      refine st567.trans ?_
      show Steps p.tables e below (T567.setTop (mkF m 11 #[.val (.ref aa), .val (.int (Int32.ofNat i)), .val (.long qe), .second, .val (.long qp), .second, .unset] [(.int (Int32.ofNat md))])) _
      refine XS.istore X567.here hx rfl (hb hby d5_0_11) rfl (l' := #[.val (.ref aa), .val (.int (Int32.ofNat i)), .val (.long qe), .second, .val (.long qp), .second, .val (.int (Int32.ofNat md))]) rfl ?_
      show Steps p.tables e below (T567.setTop (mkF m 13 #[.val (.ref aa), .val (.int (Int32.ofNat i)), .val (.long qe), .second, .val (.long qp), .second, .val (.int (Int32.ofNat md))] [])) _
      refine XS.goto X567.here hx rfl (pc0 := 13) (pc' := 100) rfl (hb hby d5_0_13) (by decide) (by decide) ?_
      show Steps p.tables e below (T567.setTop (mkF m 100 #[.val (.ref aa), .val (.int (Int32.ofNat i)), .val (.long qe), .second, .val (.long qp), .second, .val (.int (Int32.ofNat md))] [])) _
      refine XS.iload X567.here hx rfl (hb hby d5_0_100) rfl ?_
      show Steps p.tables e below (T567.setTop (mkF m 102 #[.val (.ref aa), .val (.int (Int32.ofNat i)), .val (.long qe), .second, .val (.long qp), .second, .val (.int (Int32.ofNat md))] [(.int (Int32.ofNat md))])) _
      exact retI X567 hx Bd.returns (hb hby d5_0_102) hr
    · show Q5_0 Z aa ae ap aS ah al ar S rt md i B qe qp h0 n0 _ T567.heap _
      unfold Q5_0
      rw [hbq]
      exact ⟨rfl, N567, K567, (TR.mk (S := (own_make S md qe qp)) t569_0 t569_1 t569_2 t569_3 t569_4 t569_5 t569_6 t569_7 t569_8 t569_9 t569_10 t569_11 t569_12 t569_13 t569_14 t569_15)⟩
  · exact absurd ((own_z hi).mpr hdeep) hc566

theorem d5_1_0 : decode prog_107_method_7_code 0 = .ok (.iload_n 1, 1) := by decide +kernel
theorem d5_1_1 : decode prog_107_method_7_code 1 = .ok (.ifCond .ne 15, 3) := by decide +kernel
theorem d5_1_4 : decode prog_107_method_7_code 4 = .ok (.aload_n 0, 1) := by decide +kernel
theorem d5_1_5 : decode prog_107_method_7_code 5 = .ok (.lload_n 2, 1) := by decide +kernel
theorem d5_1_6 : decode prog_107_method_7_code 6 = .ok (.lload 4, 2) := by decide +kernel
theorem d5_1_8 : decode prog_107_method_7_code 8 = .ok (.invokevirtual 62, 3) := by decide +kernel
theorem d5_1_11 : decode prog_107_method_7_code 11 = .ok (.istore 6, 2) := by decide +kernel
theorem d5_1_13 : decode prog_107_method_7_code 13 = .ok (.goto 87, 3) := by decide +kernel
theorem d5_1_100 : decode prog_107_method_7_code 100 = .ok (.iload 6, 2) := by decide +kernel
theorem d5_1_102 : decode prog_107_method_7_code 102 = .ok (.ireturn, 1) := by decide +kernel
theorem d5_1_16 : decode prog_107_method_7_code 16 = .ok (.lload_n 2, 1) := by decide +kernel
theorem d5_1_17 : decode prog_107_method_7_code 17 = .ok (.aload_n 0, 1) := by decide +kernel
theorem d5_1_18 : decode prog_107_method_7_code 18 = .ok (.getfield 7, 3) := by decide +kernel
theorem d5_1_21 : decode prog_107_method_7_code 21 = .ok (.iload_n 1, 1) := by decide +kernel
theorem d5_1_22 : decode prog_107_method_7_code 22 = .ok (.laload, 1) := by decide +kernel
theorem d5_1_23 : decode prog_107_method_7_code 23 = .ok (.lcmp, 1) := by decide +kernel
theorem d5_1_24 : decode prog_107_method_7_code 24 = .ok (.ifCond .ge 25, 3) := by decide +kernel
theorem d5_1_27 : decode prog_107_method_7_code 27 = .ok (.aload_n 0, 1) := by decide +kernel
theorem d5_1_28 : decode prog_107_method_7_code 28 = .ok (.getfield 23, 3) := by decide +kernel
theorem d5_1_31 : decode prog_107_method_7_code 31 = .ok (.iload_n 1, 1) := by decide +kernel
theorem d5_1_32 : decode prog_107_method_7_code 32 = .ok (.aload_n 0, 1) := by decide +kernel
theorem d5_1_33 : decode prog_107_method_7_code 33 = .ok (.aload_n 0, 1) := by decide +kernel
theorem d5_1_34 : decode prog_107_method_7_code 34 = .ok (.getfield 23, 3) := by decide +kernel
theorem d5_1_37 : decode prog_107_method_7_code 37 = .ok (.iload_n 1, 1) := by decide +kernel
theorem d5_1_38 : decode prog_107_method_7_code 38 = .ok (.iaload, 1) := by decide +kernel
theorem d5_1_39 : decode prog_107_method_7_code 39 = .ok (.lload_n 2, 1) := by decide +kernel
theorem d5_1_40 : decode prog_107_method_7_code 40 = .ok (.lload 4, 2) := by decide +kernel
theorem d5_1_42 : decode prog_107_method_7_code 42 = .ok (.invokevirtual 42, 3) := by decide +kernel
theorem pd_63945 : parseMethodDescriptor "(IJJ)I" = some ⟨[.int, .long, .long], some .int⟩ := by decide +kernel
theorem d5_1_45 : decode prog_107_method_7_code 45 = .ok (.iastore, 1) := by decide +kernel
theorem d5_1_46 : decode prog_107_method_7_code 46 = .ok (.goto 47, 3) := by decide +kernel
theorem d5_1_93 : decode prog_107_method_7_code 93 = .ok (.aload_n 0, 1) := by decide +kernel
theorem d5_1_94 : decode prog_107_method_7_code 94 = .ok (.iload_n 1, 1) := by decide +kernel
theorem d5_1_95 : decode prog_107_method_7_code 95 = .ok (.invokevirtual 66, 3) := by decide +kernel
theorem d5_1_98 : decode prog_107_method_7_code 98 = .ok (.istore 6, 2) := by decide +kernel
theorem d5_1_49 : decode prog_107_method_7_code 49 = .ok (.lload_n 2, 1) := by decide +kernel
theorem d5_1_50 : decode prog_107_method_7_code 50 = .ok (.aload_n 0, 1) := by decide +kernel
theorem d5_1_51 : decode prog_107_method_7_code 51 = .ok (.getfield 7, 3) := by decide +kernel
theorem d5_1_54 : decode prog_107_method_7_code 54 = .ok (.iload_n 1, 1) := by decide +kernel
theorem d5_1_55 : decode prog_107_method_7_code 55 = .ok (.laload, 1) := by decide +kernel
theorem d5_1_56 : decode prog_107_method_7_code 56 = .ok (.lcmp, 1) := by decide +kernel
theorem d5_1_57 : decode prog_107_method_7_code 57 = .ok (.ifCond .le 25, 3) := by decide +kernel
theorem d5_1_60 : decode prog_107_method_7_code 60 = .ok (.aload_n 0, 1) := by decide +kernel
theorem d5_1_61 : decode prog_107_method_7_code 61 = .ok (.getfield 26, 3) := by decide +kernel
theorem d5_1_64 : decode prog_107_method_7_code 64 = .ok (.iload_n 1, 1) := by decide +kernel
theorem d5_1_65 : decode prog_107_method_7_code 65 = .ok (.aload_n 0, 1) := by decide +kernel
theorem d5_1_66 : decode prog_107_method_7_code 66 = .ok (.aload_n 0, 1) := by decide +kernel
theorem d5_1_67 : decode prog_107_method_7_code 67 = .ok (.getfield 26, 3) := by decide +kernel
theorem d5_1_70 : decode prog_107_method_7_code 70 = .ok (.iload_n 1, 1) := by decide +kernel
theorem d5_1_71 : decode prog_107_method_7_code 71 = .ok (.iaload, 1) := by decide +kernel
theorem d5_1_72 : decode prog_107_method_7_code 72 = .ok (.lload_n 2, 1) := by decide +kernel
theorem d5_1_73 : decode prog_107_method_7_code 73 = .ok (.lload 4, 2) := by decide +kernel
theorem d5_1_75 : decode prog_107_method_7_code 75 = .ok (.invokevirtual 42, 3) := by decide +kernel
theorem d5_1_78 : decode prog_107_method_7_code 78 = .ok (.iastore, 1) := by decide +kernel
theorem d5_1_79 : decode prog_107_method_7_code 79 = .ok (.goto 14, 3) := by decide +kernel
theorem d5_1_82 : decode prog_107_method_7_code 82 = .ok (.aload_n 0, 1) := by decide +kernel
theorem d5_1_83 : decode prog_107_method_7_code 83 = .ok (.getfield 13, 3) := by decide +kernel
theorem d5_1_86 : decode prog_107_method_7_code 86 = .ok (.iload_n 1, 1) := by decide +kernel
theorem d5_1_87 : decode prog_107_method_7_code 87 = .ok (.dup2, 1) := by decide +kernel
theorem d5_1_88 : decode prog_107_method_7_code 88 = .ok (.laload, 1) := by decide +kernel
theorem d5_1_89 : decode prog_107_method_7_code 89 = .ok (.lload 4, 2) := by decide +kernel
theorem d5_1_91 : decode prog_107_method_7_code 91 = .ok (.ladd, 1) := by decide +kernel
theorem d5_1_92 : decode prog_107_method_7_code 92 = .ok (.lastore, 1) := by decide +kernel
theorem ef_5_1 (m : MethodId) (aa : Addr) (qe : Int64) (qp : Int64) : entryFrame m #[(.ref aa), (.int (Int32.ofNat i)), (.long qe), (.long qp)] 7 = mkF m 0 #[.val (.ref aa), .val (.int (Int32.ofNat i)), .val (.long qe), .second, .val (.long qp), .second, .unset] [] := by first | (simp [entryFrame, mkF, argsToLocals, Value.category]; done) | rfl
def Q5_1 (Z : State) (aa : Addr) (ae : Addr) (ap : Addr) (aS : Addr) (ah : Addr) (al : Addr) (ar : Addr) (S : own_S) (rt : Nat) (md : Nat) (i : Nat) (B : Nat) (qe : Int64) (qp : Int64) (h0 : Heap) (n0 : Nat) (v : Option Value) (h : Heap) (L : List Loc) : Prop := v = some (.int (Int32.ofNat (own_add (0 + 1) S md i qe qp).2.2)) ∧ Fr n0 L ∧ Keep h0 h [aa, ae, ap, aS, ah, al, ar] ∧ TR Z h aa ae ap aS ah al ar (own_add (0 + 1) S md i qe qp).1 rt (own_add (0 + 1) S md i qe qp).2.1
set_option maxRecDepth 65536 in
set_option maxHeartbeats 40000000 in
theorem rm5_1 (l : Launch) (Z : State) (a0 : Array Value) (hw : ∀ d ∈ tables_1, d.before a0 Z = true) (ws : List Jvm.Cond) (aa : Addr) (ae : Addr) (ap : Addr) (aS : Addr) (ah : Addr) (al : Addr) (ar : Addr) (S : own_S) (rt : Nat) (md : Nat) (i : Nat) (B : Nat) (qe : Int64) (qp : Int64) (h0 : Heap) (n0 : Nat) (Z0 : n0 ≤ h0.size) (g_aa : n0 ≤ aa) (g_ae : n0 ≤ ae) (g_ap : n0 ≤ ap) (g_aS : n0 ≤ aS) (g_ah : n0 ≤ ah) (g_al : n0 ≤ al) (g_ar : n0 ≤ ar) (hD : own_D aa ae ap aS ah al ar) (hTR : TR Z h0 aa ae ap aS ah al ar S rt md) (hi : i < 16) (hok : own_ok B S) (hB : B + 5 * (0 + 1) + 5 < 1000000) (hmd : md < 16) (hdeep : own_deep (0 + 1) S i) :
    MetFree l (⟨"com/example/berthline/berthline/engine/replay/EstimatedEnds", "add", "(IJJ)I"⟩ : MethodName) (head1 (Jvm.Cond.code (⟨"com/example/berthline/berthline/engine/replay/EstimatedEnds", "add", "(IJJ)I"⟩ : MethodName) prog_107_method_7_code 7 (some .int) :: ws) ({ frames := 4, cells := 0, slots := 0, locals := 63 } : Room)) (fun a U => a = #[(.ref aa), (.int (Int32.ofNat i)), (.long qe), (.long qp)] ∧ Z.Warmed39 U.vm ∧ U.heap = h0) (fun _ _ _ _ _ => True) (fun _ U o U' => ∃ v L, o = .returned v ∧ Q5_1 Z aa ae ap aS ah al ar S rt md i B qe qp h0 n0 v U'.heap L ∧ FrameEnd U o U' L ({ frames := 4, cells := 0, slots := 0, locals := 63 } : Room).cells ({ frames := 4, cells := 0, slots := 0, locals := 63 } : Room).slots) := by
  refine MetFree.of_bodySF (plainFor_of_name pn_com_example_berthline_berthline_engine_replay_EstimatedEnds) hisR ?_
  intro p e s m args below meth c s₁ Bd hml0 hP hK
  obtain ⟨rfl, hZ, hh⟩ := hP
  have hx := Bd.exec
  have hby := Bd.bytes
  have hml : c.maxLocals = 7 := hml0
  have hown : s.vm.findClass "com/example/berthline/berthline/engine/replay/EstimatedEnds" = some m.cls := findClass_of_methodNamed Bd.named
  have hnm := (name_of_methodNamed Bd.named Bd.method).1
  have X0 : Stand p l e ({ frames := 4, cells := 0, slots := 0, locals := 63 } : Room) s m #[(.ref aa), (.int (Int32.ofNat i)), (.long qe), (.long qp)] below meth c s₁ [] 0 0 := Stand.of_body Bd
  have e0 : s₁.heap = h0 := by rw [← hh, Bd.state]; rfl
  have N0 := Fr.nil n0
  have pre0 : ∀ t, Steps p.tables e below (s₁.setTop (mkF m 0 #[.val (.ref aa), .val (.int (Int32.ofNat i)), .val (.long qe), .second, .val (.long qp), .second, .unset] [])) t → Steps p.tables e below (s₁.setTop (entryFrame m #[(.ref aa), (.int (Int32.ofNat i)), (.long qe), (.long qp)] 7)) t := fun t k => castTop (ef_5_1 m aa qe qp) k
  obtain ⟨dd570_0, dd570_1, dd570_2, dd570_3, dd570_4, dd570_5, dd570_6, dd570_7, dd570_8, dd570_9, dd570_10, dd570_11, dd570_12, dd570_13, dd570_14, dd570_15, dd570_16, dd570_17, dd570_18, dd570_19, dd570_20⟩ := id hD
  obtain ⟨t571_0, t571_1, t571_2, t571_3, t571_4, t571_5, t571_6, t571_7, t571_8, t571_9, t571_10, t571_11, t571_12, t571_13, t571_14, t571_15⟩ := hTR
  by_cases hc572 : (Int32.ofNat i) = (0 : Int32)
  · obtain ⟨cq573, q573, q573'⟩ := t571_0.cell
    obtain ⟨_, _, ⟨T573, L573, k573, n573⟩, -, X573, ⟨Lc573, hQ573, l573, y573, z573⟩, st573⟩ := X0.privateBack hx (y := (⟨"com/example/berthline/berthline/engine/replay/EstimatedEnds", "make", "(JJ)I"⟩ : MethodName)) hown (mvT hZ (hw _ (List.mem_of_getElem? (i := 43) rfl))) (mvT hZ (hw _ (List.mem_of_getElem? (i := 44) rfl))) (own_selects hZ (hw _ (List.mem_of_getElem? (i := 1) rfl)) (hw _ (List.mem_of_getElem? (i := 45) rfl)) (hw _ (List.mem_of_getElem? (i := 44) rfl)) (by decide)) (Cond.privateMethod_at (mvP hZ (hw _ (List.mem_of_getElem? (i := 45) rfl)) (args := #[]))) (mvT hZ (hw _ (List.mem_of_getElem? (i := 46) rfl))) (by decide) (backOf (W := 0) (rm6 l Z a0 hw [] aa ae ap aS ah al ar S rt md qe qp h0 n0 Z0 g_aa g_ae g_ap g_aS g_ah g_al g_ar hD (TR.mk (S := S) t571_0 t571_1 t571_2 t571_3 t571_4 t571_5 t571_6 t571_7 t571_8 t571_9 t571_10 t571_11 t571_12 t571_13 t571_14 t571_15) hmd) hZ (hw _ (List.mem_of_getElem? (i := 46) rfl)) (hw _ (List.mem_of_getElem? (i := 2) rfl)) (by decide) (by decide)) (g := (mkF m 8 #[.val (.ref aa), .val (.int (Int32.ofNat i)), .val (.long qe), .second, .val (.long qp), .second, .unset] [(.long qp), (.long qe), (.ref aa)])) rfl (by rw [hml]; rfl) (Steps.refl _) (a := aa) (by rw [e0]; exact q573) q573' (argsL := [(.long qe), (.long qp)]) (rest := []) (lenOf pd_711708 rfl) rfl (by show 2 * 0 + _ ≤ _; exact Nat.le_of_eq rfl) (hb hby d5_1_8) (fun _ _ => ⟨rfl, e0, (by decide : 0 + 0 ≤ _), (by decide : 0 + 0 ≤ _)⟩)
    dsimp only [Pt.U, Pt.locs, Pt.cells, Pt.slots] at X573 l573 y573 z573 st573 hQ573
    subst l573 y573 z573
    obtain ⟨rfl, N573q, K573c, G573_0⟩ := hQ573
    have N573 := Fr.app N0 N573q
    have E_574 := t571_0.keep K573c
    have Z573 : n0 ≤ T573.heap.size := Nat.le_trans Z0 K573c.1
    have K573 : Keep h0 T573.heap [aa, ae, ap, aS, ah, al, ar] := (Keep.refl h0 [aa, ae, ap, aS, ah, al, ar]).trans K573c (allS (P := fun x => x ∈ [aa, ae, ap, aS, ah, al, ar] ∨ h0.size ≤ x) (Or.inl (List.mem_of_getElem? (i := 0) rfl)) (allS (P := fun x => x ∈ [aa, ae, ap, aS, ah, al, ar] ∨ h0.size ≤ x) (Or.inl (List.mem_of_getElem? (i := 1) rfl)) (allS (P := fun x => x ∈ [aa, ae, ap, aS, ah, al, ar] ∨ h0.size ≤ x) (Or.inl (List.mem_of_getElem? (i := 2) rfl)) (allS (P := fun x => x ∈ [aa, ae, ap, aS, ah, al, ar] ∨ h0.size ≤ x) (Or.inl (List.mem_of_getElem? (i := 3) rfl)) (allS (P := fun x => x ∈ [aa, ae, ap, aS, ah, al, ar] ∨ h0.size ≤ x) (Or.inl (List.mem_of_getElem? (i := 4) rfl)) (allS (P := fun x => x ∈ [aa, ae, ap, aS, ah, al, ar] ∨ h0.size ≤ x) (Or.inl (List.mem_of_getElem? (i := 5) rfl)) (allS (P := fun x => x ∈ [aa, ae, ap, aS, ah, al, ar] ∨ h0.size ≤ x) (Or.inl (List.mem_of_getElem? (i := 6) rfl)) all0)))))))
    obtain ⟨t575_0, t575_1, t575_2, t575_3, t575_4, t575_5, t575_6, t575_7, t575_8, t575_9, t575_10, t575_11, t575_12, t575_13, t575_14, t575_15⟩ := G573_0
    have hbq := own_add_nil 0 (S := S) (md := md) qe qp ((own_z hi).mp hc572)
    obtain ⟨fs, hr, hrun, hended, hW, hsame⟩ := X573.leave (v := some (.int (Int32.ofNat md))) (fun h => by rw [Bd.returns] at h; cases h)
    refine ⟨_, _, pre0 _ ?_, hrun, hended, _, _, rfl, ?_, ⟨_, rfl⟩, hW, hsame.mono (by decide) (by decide)⟩
    · show Steps p.tables e below (s₁.setTop (mkF m 0 #[.val (.ref aa), .val (.int (Int32.ofNat i)), .val (.long qe), .second, .val (.long qp), .second, .unset] [])) _
      refine XS.iloadN X0.here hx rfl (hb hby d5_1_0) rfl ?_
      show Steps p.tables e below (s₁.setTop (mkF m 1 #[.val (.ref aa), .val (.int (Int32.ofNat i)), .val (.long qe), .second, .val (.long qp), .second, .unset] [(.int (Int32.ofNat i))])) _
      refine XS.ifNo X0.here hx rfl (hb hby d5_1_1) rfl ((if0 _ _).trans (teq hc572).2) ?_
      show Steps p.tables e below (s₁.setTop (mkF m 4 #[.val (.ref aa), .val (.int (Int32.ofNat i)), .val (.long qe), .second, .val (.long qp), .second, .unset] [])) _
      refine XS.aloadN X0.here hx rfl (hb hby d5_1_4) rfl rfl ?_
      show Steps p.tables e below (s₁.setTop (mkF m 5 #[.val (.ref aa), .val (.int (Int32.ofNat i)), .val (.long qe), .second, .val (.long qp), .second, .unset] [(.ref aa)])) _
      refine XS.lloadN X0.here hx rfl (hb hby d5_1_5) rfl ?_
      show Steps p.tables e below (s₁.setTop (mkF m 6 #[.val (.ref aa), .val (.int (Int32.ofNat i)), .val (.long qe), .second, .val (.long qp), .second, .unset] [(.long qe), (.ref aa)])) _
      refine XS.lload X0.here hx rfl (hb hby d5_1_6) rfl ?_
      show Steps p.tables e below (s₁.setTop (mkF m 8 #[.val (.ref aa), .val (.int (Int32.ofNat i)), .val (.long qe), .second, .val (.long qp), .second, .unset] [(.long qp), (.long qe), (.ref aa)])) _
      refine st573.trans ?_
      show Steps p.tables e below (T573.setTop (mkF m 11 #[.val (.ref aa), .val (.int (Int32.ofNat i)), .val (.long qe), .second, .val (.long qp), .second, .unset] [(.int (Int32.ofNat md))])) _
      refine XS.istore X573.here hx rfl (hb hby d5_1_11) rfl (l' := #[.val (.ref aa), .val (.int (Int32.ofNat i)), .val (.long qe), .second, .val (.long qp), .second, .val (.int (Int32.ofNat md))]) rfl ?_
      show Steps p.tables e below (T573.setTop (mkF m 13 #[.val (.ref aa), .val (.int (Int32.ofNat i)), .val (.long qe), .second, .val (.long qp), .second, .val (.int (Int32.ofNat md))] [])) _
      refine XS.goto X573.here hx rfl (pc0 := 13) (pc' := 100) rfl (hb hby d5_1_13) (by decide) (by decide) ?_
      show Steps p.tables e below (T573.setTop (mkF m 100 #[.val (.ref aa), .val (.int (Int32.ofNat i)), .val (.long qe), .second, .val (.long qp), .second, .val (.int (Int32.ofNat md))] [])) _
      refine XS.iload X573.here hx rfl (hb hby d5_1_100) rfl ?_
      show Steps p.tables e below (T573.setTop (mkF m 102 #[.val (.ref aa), .val (.int (Int32.ofNat i)), .val (.long qe), .second, .val (.long qp), .second, .val (.int (Int32.ofNat md))] [(.int (Int32.ofNat md))])) _
      exact retI X573 hx Bd.returns (hb hby d5_1_102) hr
    · show Q5_1 Z aa ae ap aS ah al ar S rt md i B qe qp h0 n0 _ T573.heap _
      unfold Q5_1
      rw [hbq]
      exact ⟨rfl, N573, K573, (TR.mk (S := (own_make S md qe qp)) t575_0 t575_1 t575_2 t575_3 t575_4 t575_5 t575_6 t575_7 t575_8 t575_9 t575_10 t575_11 t575_12 t575_13 t575_14 t575_15)⟩
  · have hz : ¬ i = 0 := fun q => hc572 ((own_z hi).mpr q)
    obtain ⟨T576, X576, e576, st576⟩ := getF X0 hx hZ hown (host := "") (Or.inl (hw _ (List.mem_of_getElem? (i := 10) rfl))) Via.refl e0 t571_1 (g := (mkF m 18 #[.val (.ref aa), .val (.int (Int32.ofNat i)), .val (.long qe), .second, .val (.long qp), .second, .unset] [(.ref aa), (.long qe)])) rfl rfl (hb hby d5_1_18)
    by_cases hc577 : (lcmpW qe ((own_e S) i)) < (0 : Int32)
    · have hlt : qe < own_e S i := (lw_lt _ _).mp hc577
      obtain ⟨T578, X578, e578, st578⟩ := getF X576 hx hZ hown (host := "") (Or.inl (hw _ (List.mem_of_getElem? (i := 19) rfl))) Via.refl e576 t571_5 (g := (mkF m 28 #[.val (.ref aa), .val (.int (Int32.ofNat i)), .val (.long qe), .second, .val (.long qp), .second, .unset] [(.ref aa)])) rfl rfl (hb hby d5_1_28)
      obtain ⟨T579, X579, e579, st579⟩ := getF X578 hx hZ hown (host := "") (Or.inl (hw _ (List.mem_of_getElem? (i := 19) rfl))) Via.refl e578 t571_5 (g := (mkF m 34 #[.val (.ref aa), .val (.int (Int32.ofNat i)), .val (.long qe), .second, .val (.long qp), .second, .unset] [(.ref aa), (.ref aa), (.int (Int32.ofNat i)), (.ref al)])) rfl rfl (hb hby d5_1_34)
      obtain ⟨cq580, q580, q580'⟩ := t571_0.cell
      obtain ⟨_, _, ⟨T580, L580, k580, n580⟩, -, X580, ⟨Lc580, hQ580, l580, y580, z580⟩, st580⟩ := X579.privateBack hx (y := (⟨"com/example/berthline/berthline/engine/replay/EstimatedEnds", "add", "(IJJ)I"⟩ : MethodName)) hown (mvT hZ (hw _ (List.mem_of_getElem? (i := 39) rfl))) (mvT hZ (hw _ (List.mem_of_getElem? (i := 40) rfl))) (own_selects hZ (hw _ (List.mem_of_getElem? (i := 1) rfl)) (hw _ (List.mem_of_getElem? (i := 41) rfl)) (hw _ (List.mem_of_getElem? (i := 40) rfl)) (by decide)) (Cond.privateMethod_at (mvP hZ (hw _ (List.mem_of_getElem? (i := 41) rfl)) (args := #[]))) (mvT hZ (hw _ (List.mem_of_getElem? (i := 42) rfl))) (by decide) (backOf (W := 2) (rm5_0 l Z a0 hw [] aa ae ap aS ah al ar S rt md ((own_l S) i) B qe qp h0 n0 Z0 g_aa g_ae g_ap g_aS g_ah g_al g_ar hD (TR.mk (S := S) t571_0 t571_1 t571_2 t571_3 t571_4 t571_5 t571_6 t571_7 t571_8 t571_9 t571_10 t571_11 t571_12 t571_13 t571_14 t571_15) (hok.1 _) hok (by omega) hmd (own_deep_l hdeep hz)) hZ (hw _ (List.mem_of_getElem? (i := 42) rfl)) (hw _ (List.mem_of_getElem? (i := 2) rfl)) (by decide) (by decide)) (g := (mkF m 42 #[.val (.ref aa), .val (.int (Int32.ofNat i)), .val (.long qe), .second, .val (.long qp), .second, .unset] [(.long qp), (.long qe), (.int (Int32.ofNat ((own_l S) i))), (.ref aa), (.int (Int32.ofNat i)), (.ref al)])) rfl (by rw [hml]; rfl) (Steps.refl _) (a := aa) (by rw [e579]; exact q580) q580' (argsL := [(.int (Int32.ofNat ((own_l S) i))), (.long qe), (.long qp)]) (rest := [(.int (Int32.ofNat i)), (.ref al)]) (lenOf pd_63945 rfl) rfl (by show 2 * 0 + _ ≤ _; exact Nat.le_of_eq rfl) (hb hby d5_1_42) (fun _ _ => ⟨rfl, e579, (by decide : 0 + 0 ≤ _), (by decide : 0 + 0 ≤ _)⟩)
      dsimp only [Pt.U, Pt.locs, Pt.cells, Pt.slots] at X580 l580 y580 z580 st580 hQ580
      subst l580 y580 z580
      obtain ⟨rfl, N580q, K580c, G580_0⟩ := hQ580
      have N580 := Fr.app N0 N580q
      have E_581 := t571_0.keep K580c
      have Z580 : n0 ≤ T580.heap.size := Nat.le_trans Z0 K580c.1
      have K580 : Keep h0 T580.heap [aa, ae, ap, aS, ah, al, ar] := (Keep.refl h0 [aa, ae, ap, aS, ah, al, ar]).trans K580c (allS (P := fun x => x ∈ [aa, ae, ap, aS, ah, al, ar] ∨ h0.size ≤ x) (Or.inl (List.mem_of_getElem? (i := 0) rfl)) (allS (P := fun x => x ∈ [aa, ae, ap, aS, ah, al, ar] ∨ h0.size ≤ x) (Or.inl (List.mem_of_getElem? (i := 1) rfl)) (allS (P := fun x => x ∈ [aa, ae, ap, aS, ah, al, ar] ∨ h0.size ≤ x) (Or.inl (List.mem_of_getElem? (i := 2) rfl)) (allS (P := fun x => x ∈ [aa, ae, ap, aS, ah, al, ar] ∨ h0.size ≤ x) (Or.inl (List.mem_of_getElem? (i := 3) rfl)) (allS (P := fun x => x ∈ [aa, ae, ap, aS, ah, al, ar] ∨ h0.size ≤ x) (Or.inl (List.mem_of_getElem? (i := 4) rfl)) (allS (P := fun x => x ∈ [aa, ae, ap, aS, ah, al, ar] ∨ h0.size ≤ x) (Or.inl (List.mem_of_getElem? (i := 5) rfl)) (allS (P := fun x => x ∈ [aa, ae, ap, aS, ah, al, ar] ∨ h0.size ≤ x) (Or.inl (List.mem_of_getElem? (i := 6) rfl)) all0)))))))
      obtain ⟨t582_0, t582_1, t582_2, t582_3, t582_4, t582_5, t582_6, t582_7, t582_8, t582_9, t582_10, t582_11, t582_12, t582_13, t582_14, t582_15⟩ := G580_0
      have hokR := (own_ok_add 0 hok (hok.1 i) hmd qe qp)
      obtain ⟨R, hR⟩ : ∃ z, z = (own_add 0 S md ((own_l S) i) qe qp) := ⟨_, rfl⟩
      rw [← hR] at t582_8 t582_10 t582_11 t582_12 t582_13 t582_14 t582_15 hokR
      obtain ⟨T583, h583, X583, e583, W583, V583, st583⟩ := IA.store X580 hx hZ rfl t582_14 i (own_cl hi (by decide)) (own_nn hi (by decide)) hi (x := R.2.2) (g := (mkF m 45 #[.val (.ref aa), .val (.int (Int32.ofNat i)), .val (.long qe), .second, .val (.long qp), .second, .unset] [(.int (Int32.ofNat R.2.2)), (.int (Int32.ofNat i)), (.ref al)])) rfl rfl (hb hby d5_1_45)
      have E_584 := t582_0.wr W583
      have F_585 := t582_1.other W583 (Or.inl dd570_4)
      have F_586 := t582_2.other W583 (Or.inl dd570_4)
      have F_587 := t582_3.other W583 (Or.inl dd570_4)
      have F_588 := t582_4.other W583 (Or.inl dd570_4)
      have F_589 := t582_5.other W583 (Or.inl dd570_4)
      have F_590 := t582_6.other W583 (Or.inl dd570_4)
      have F_591 := t582_7.other W583 (Or.inl dd570_4)
      have F_592 := t582_8.other W583 (Or.inl dd570_4)
      have F_593 := t582_9.other W583 (Or.inl dd570_4)
      have V_594 := t582_10.other W583 dd570_9
      have V_595 := t582_11.other W583 dd570_13
      have V_596 := t582_12.other W583 dd570_16
      have V_597 := t582_13.other W583 dd570_18
      have V_598 := t582_15.other W583 (Ne.symm dd570_20)
      have N583 := Fr.snoc X583 N580 g_al
      have Z583 : n0 ≤ h583.size := Nat.le_trans Z580 (Keep.of_wr W583).1
      have K583 : Keep h0 h583 [aa, ae, ap, aS, ah, al, ar] := K580.wr W583 (Or.inl (List.mem_of_getElem? (i := 5) rfl))
      obtain ⟨cq599, q599, q599'⟩ := E_584.cell
      obtain ⟨_, _, ⟨T599, L599, k599, n599⟩, -, X599, ⟨Lc599, hQ599, l599, y599, z599⟩, st599⟩ := X583.privateBack hx (y := (⟨"com/example/berthline/berthline/engine/replay/EstimatedEnds", "balance", "(I)I"⟩ : MethodName)) hown (mvT hZ (hw _ (List.mem_of_getElem? (i := 47) rfl))) (mvT hZ (hw _ (List.mem_of_getElem? (i := 48) rfl))) (own_selects hZ (hw _ (List.mem_of_getElem? (i := 1) rfl)) (hw _ (List.mem_of_getElem? (i := 49) rfl)) (hw _ (List.mem_of_getElem? (i := 48) rfl)) (by decide)) (Cond.privateMethod_at (mvP hZ (hw _ (List.mem_of_getElem? (i := 49) rfl)) (args := #[]))) (mvT hZ (hw _ (List.mem_of_getElem? (i := 50) rfl))) (by decide) (backOf (W := 0) (rm7 l Z a0 hw [] aa ae ap aS ah al ar (own_setL R.1 i R.2.2) rt R.2.1 i (B + 5 * 0) h583 n0 Z583 g_aa g_ae g_ap g_aS g_ah g_al g_ar hD (TR.mk (S := (own_setL R.1 i R.2.2)) E_584 F_585 F_586 F_587 F_588 F_589 F_590 F_591 F_592 F_593 V_594 V_595 V_596 V_597 V583 V_598) hi (own_ok_setL hokR.1 hokR.2) (by omega)) hZ (hw _ (List.mem_of_getElem? (i := 50) rfl)) (hw _ (List.mem_of_getElem? (i := 2) rfl)) (by decide) (by decide)) (g := (mkF m 95 #[.val (.ref aa), .val (.int (Int32.ofNat i)), .val (.long qe), .second, .val (.long qp), .second, .unset] [(.int (Int32.ofNat i)), (.ref aa)])) rfl (by rw [hml]; rfl) (Steps.refl _) (a := aa) (by rw [e583]; exact q599) q599' (argsL := [(.int (Int32.ofNat i))]) (rest := []) (lenOf pd_216441 rfl) rfl (by show 2 * 0 + _ ≤ _; exact Nat.le_of_eq rfl) (hb hby d5_1_95) (fun _ _ => ⟨rfl, e583, (by decide : 0 + 0 ≤ _), (by decide : 0 + 0 ≤ _)⟩)
      dsimp only [Pt.U, Pt.locs, Pt.cells, Pt.slots] at X599 l599 y599 z599 st599 hQ599
      subst l599 y599 z599
      obtain ⟨rfl, N599q, K599c, G599_0⟩ := hQ599
      have N599 := Fr.app N583 N599q
      have E_600 := E_584.keep K599c
      have Z599 : n0 ≤ T599.heap.size := Nat.le_trans Z583 K599c.1
      have K599 : Keep h0 T599.heap [aa, ae, ap, aS, ah, al, ar] := K583.trans K599c (allS (P := fun x => x ∈ [aa, ae, ap, aS, ah, al, ar] ∨ h0.size ≤ x) (Or.inl (List.mem_of_getElem? (i := 0) rfl)) (allS (P := fun x => x ∈ [aa, ae, ap, aS, ah, al, ar] ∨ h0.size ≤ x) (Or.inl (List.mem_of_getElem? (i := 1) rfl)) (allS (P := fun x => x ∈ [aa, ae, ap, aS, ah, al, ar] ∨ h0.size ≤ x) (Or.inl (List.mem_of_getElem? (i := 2) rfl)) (allS (P := fun x => x ∈ [aa, ae, ap, aS, ah, al, ar] ∨ h0.size ≤ x) (Or.inl (List.mem_of_getElem? (i := 3) rfl)) (allS (P := fun x => x ∈ [aa, ae, ap, aS, ah, al, ar] ∨ h0.size ≤ x) (Or.inl (List.mem_of_getElem? (i := 4) rfl)) (allS (P := fun x => x ∈ [aa, ae, ap, aS, ah, al, ar] ∨ h0.size ≤ x) (Or.inl (List.mem_of_getElem? (i := 5) rfl)) (allS (P := fun x => x ∈ [aa, ae, ap, aS, ah, al, ar] ∨ h0.size ≤ x) (Or.inl (List.mem_of_getElem? (i := 6) rfl)) all0)))))))
      obtain ⟨t601_0, t601_1, t601_2, t601_3, t601_4, t601_5, t601_6, t601_7, t601_8, t601_9, t601_10, t601_11, t601_12, t601_13, t601_14, t601_15⟩ := G599_0
      have hbq := own_add_lt 0 (md := md) (p := qp) hz hlt
      rw [← hR] at hbq
      obtain ⟨fs, hr, hrun, hended, hW, hsame⟩ := X599.leave (v := some (.int (Int32.ofNat (own_bal (own_setL R.1 i R.2.2) i).2))) (fun h => by rw [Bd.returns] at h; cases h)
      refine ⟨_, _, pre0 _ ?_, hrun, hended, _, _, rfl, ?_, ⟨_, rfl⟩, hW, hsame.mono (by decide) (by decide)⟩
      · show Steps p.tables e below (s₁.setTop (mkF m 0 #[.val (.ref aa), .val (.int (Int32.ofNat i)), .val (.long qe), .second, .val (.long qp), .second, .unset] [])) _
        refine XS.iloadN X0.here hx rfl (hb hby d5_1_0) rfl ?_
        show Steps p.tables e below (s₁.setTop (mkF m 1 #[.val (.ref aa), .val (.int (Int32.ofNat i)), .val (.long qe), .second, .val (.long qp), .second, .unset] [(.int (Int32.ofNat i))])) _
        refine XS.ifYes X0.here hx rfl (pc0 := 1) (pc' := 16) rfl (hb hby d5_1_1) rfl ((if0 _ _).trans (feq hc572).2) (by decide) (by decide) ?_
        show Steps p.tables e below (s₁.setTop (mkF m 16 #[.val (.ref aa), .val (.int (Int32.ofNat i)), .val (.long qe), .second, .val (.long qp), .second, .unset] [])) _
        refine XS.lloadN X0.here hx rfl (hb hby d5_1_16) rfl ?_
        show Steps p.tables e below (s₁.setTop (mkF m 17 #[.val (.ref aa), .val (.int (Int32.ofNat i)), .val (.long qe), .second, .val (.long qp), .second, .unset] [(.long qe)])) _
        refine XS.aloadN X0.here hx rfl (hb hby d5_1_17) rfl rfl ?_
        show Steps p.tables e below (s₁.setTop (mkF m 18 #[.val (.ref aa), .val (.int (Int32.ofNat i)), .val (.long qe), .second, .val (.long qp), .second, .unset] [(.ref aa), (.long qe)])) _
        refine st576 _ ?_
        show Steps p.tables e below (T576.setTop (mkF m 21 #[.val (.ref aa), .val (.int (Int32.ofNat i)), .val (.long qe), .second, .val (.long qp), .second, .unset] [(.ref ae), (.long qe)])) _
        refine XS.iloadN X576.here hx rfl (hb hby d5_1_21) rfl ?_
        show Steps p.tables e below (T576.setTop (mkF m 22 #[.val (.ref aa), .val (.int (Int32.ofNat i)), .val (.long qe), .second, .val (.long qp), .second, .unset] [(.int (Int32.ofNat i)), (.ref ae), (.long qe)])) _
        refine JA.load X576 hx hZ e576 t571_10 i (own_cl hi (by decide)) (own_nn hi (by decide)) hi (g := (mkF m 22 #[.val (.ref aa), .val (.int (Int32.ofNat i)), .val (.long qe), .second, .val (.long qp), .second, .unset] [(.int (Int32.ofNat i)), (.ref ae), (.long qe)])) rfl rfl (hb hby d5_1_22) _ ?_
        show Steps p.tables e below (T576.setTop (mkF m 23 #[.val (.ref aa), .val (.int (Int32.ofNat i)), .val (.long qe), .second, .val (.long qp), .second, .unset] [(.long ((own_e S) i)), (.long qe)])) _
        refine XS.lcmp X576.here hx rfl (hb hby d5_1_23) rfl ?_
        show Steps p.tables e below (T576.setTop (mkF m 24 #[.val (.ref aa), .val (.int (Int32.ofNat i)), .val (.long qe), .second, .val (.long qp), .second, .unset] [(.int (lcmpW qe ((own_e S) i)))])) _
        refine XS.ifNo X576.here hx rfl (hb hby d5_1_24) rfl ((if0 _ _).trans (tlt hc577).2.1) ?_
        show Steps p.tables e below (T576.setTop (mkF m 27 #[.val (.ref aa), .val (.int (Int32.ofNat i)), .val (.long qe), .second, .val (.long qp), .second, .unset] [])) _
        refine XS.aloadN X576.here hx rfl (hb hby d5_1_27) rfl rfl ?_
        show Steps p.tables e below (T576.setTop (mkF m 28 #[.val (.ref aa), .val (.int (Int32.ofNat i)), .val (.long qe), .second, .val (.long qp), .second, .unset] [(.ref aa)])) _
        refine st578 _ ?_
        show Steps p.tables e below (T578.setTop (mkF m 31 #[.val (.ref aa), .val (.int (Int32.ofNat i)), .val (.long qe), .second, .val (.long qp), .second, .unset] [(.ref al)])) _
        refine XS.iloadN X578.here hx rfl (hb hby d5_1_31) rfl ?_
        show Steps p.tables e below (T578.setTop (mkF m 32 #[.val (.ref aa), .val (.int (Int32.ofNat i)), .val (.long qe), .second, .val (.long qp), .second, .unset] [(.int (Int32.ofNat i)), (.ref al)])) _
        refine XS.aloadN X578.here hx rfl (hb hby d5_1_32) rfl rfl ?_
        show Steps p.tables e below (T578.setTop (mkF m 33 #[.val (.ref aa), .val (.int (Int32.ofNat i)), .val (.long qe), .second, .val (.long qp), .second, .unset] [(.ref aa), (.int (Int32.ofNat i)), (.ref al)])) _
        refine XS.aloadN X578.here hx rfl (hb hby d5_1_33) rfl rfl ?_
        show Steps p.tables e below (T578.setTop (mkF m 34 #[.val (.ref aa), .val (.int (Int32.ofNat i)), .val (.long qe), .second, .val (.long qp), .second, .unset] [(.ref aa), (.ref aa), (.int (Int32.ofNat i)), (.ref al)])) _
        refine st579 _ ?_
        show Steps p.tables e below (T579.setTop (mkF m 37 #[.val (.ref aa), .val (.int (Int32.ofNat i)), .val (.long qe), .second, .val (.long qp), .second, .unset] [(.ref al), (.ref aa), (.int (Int32.ofNat i)), (.ref al)])) _
        refine XS.iloadN X579.here hx rfl (hb hby d5_1_37) rfl ?_
        show Steps p.tables e below (T579.setTop (mkF m 38 #[.val (.ref aa), .val (.int (Int32.ofNat i)), .val (.long qe), .second, .val (.long qp), .second, .unset] [(.int (Int32.ofNat i)), (.ref al), (.ref aa), (.int (Int32.ofNat i)), (.ref al)])) _
        refine IA.load X579 hx hZ e579 t571_14 i (own_cl hi (by decide)) (own_nn hi (by decide)) hi (g := (mkF m 38 #[.val (.ref aa), .val (.int (Int32.ofNat i)), .val (.long qe), .second, .val (.long qp), .second, .unset] [(.int (Int32.ofNat i)), (.ref al), (.ref aa), (.int (Int32.ofNat i)), (.ref al)])) rfl rfl (hb hby d5_1_38) _ ?_
        show Steps p.tables e below (T579.setTop (mkF m 39 #[.val (.ref aa), .val (.int (Int32.ofNat i)), .val (.long qe), .second, .val (.long qp), .second, .unset] [(.int (Int32.ofNat ((own_l S) i))), (.ref aa), (.int (Int32.ofNat i)), (.ref al)])) _
        refine XS.lloadN X579.here hx rfl (hb hby d5_1_39) rfl ?_
        show Steps p.tables e below (T579.setTop (mkF m 40 #[.val (.ref aa), .val (.int (Int32.ofNat i)), .val (.long qe), .second, .val (.long qp), .second, .unset] [(.long qe), (.int (Int32.ofNat ((own_l S) i))), (.ref aa), (.int (Int32.ofNat i)), (.ref al)])) _
        refine XS.lload X579.here hx rfl (hb hby d5_1_40) rfl ?_
        show Steps p.tables e below (T579.setTop (mkF m 42 #[.val (.ref aa), .val (.int (Int32.ofNat i)), .val (.long qe), .second, .val (.long qp), .second, .unset] [(.long qp), (.long qe), (.int (Int32.ofNat ((own_l S) i))), (.ref aa), (.int (Int32.ofNat i)), (.ref al)])) _
        refine st580.trans ?_
        show Steps p.tables e below (T580.setTop (mkF m 45 #[.val (.ref aa), .val (.int (Int32.ofNat i)), .val (.long qe), .second, .val (.long qp), .second, .unset] [(.int (Int32.ofNat (own_add 0 S md ((own_l S) i) qe qp).2.2)), (.int (Int32.ofNat i)), (.ref al)])) _
        refine castTop (g' := (mkF m 45 #[.val (.ref aa), .val (.int (Int32.ofNat i)), .val (.long qe), .second, .val (.long qp), .second, .unset] [(.int (Int32.ofNat R.2.2)), (.int (Int32.ofNat i)), (.ref al)])) (by rw [hR]) ?_
        show Steps p.tables e below (T580.setTop (mkF m 45 #[.val (.ref aa), .val (.int (Int32.ofNat i)), .val (.long qe), .second, .val (.long qp), .second, .unset] [(.int (Int32.ofNat R.2.2)), (.int (Int32.ofNat i)), (.ref al)])) _
        refine st583 _ ?_
        show Steps p.tables e below (T583.setTop (mkF m 46 #[.val (.ref aa), .val (.int (Int32.ofNat i)), .val (.long qe), .second, .val (.long qp), .second, .unset] [])) _
        refine XS.goto X583.here hx rfl (pc0 := 46) (pc' := 93) rfl (hb hby d5_1_46) (by decide) (by decide) ?_
        show Steps p.tables e below (T583.setTop (mkF m 93 #[.val (.ref aa), .val (.int (Int32.ofNat i)), .val (.long qe), .second, .val (.long qp), .second, .unset] [])) _
        refine XS.aloadN X583.here hx rfl (hb hby d5_1_93) rfl rfl ?_
        show Steps p.tables e below (T583.setTop (mkF m 94 #[.val (.ref aa), .val (.int (Int32.ofNat i)), .val (.long qe), .second, .val (.long qp), .second, .unset] [(.ref aa)])) _
        refine XS.iloadN X583.here hx rfl (hb hby d5_1_94) rfl ?_
        show Steps p.tables e below (T583.setTop (mkF m 95 #[.val (.ref aa), .val (.int (Int32.ofNat i)), .val (.long qe), .second, .val (.long qp), .second, .unset] [(.int (Int32.ofNat i)), (.ref aa)])) _
        refine st599.trans ?_
        show Steps p.tables e below (T599.setTop (mkF m 98 #[.val (.ref aa), .val (.int (Int32.ofNat i)), .val (.long qe), .second, .val (.long qp), .second, .unset] [(.int (Int32.ofNat (own_bal (own_setL R.1 i R.2.2) i).2))])) _
        refine XS.istore X599.here hx rfl (hb hby d5_1_98) rfl (l' := #[.val (.ref aa), .val (.int (Int32.ofNat i)), .val (.long qe), .second, .val (.long qp), .second, .val (.int (Int32.ofNat (own_bal (own_setL R.1 i R.2.2) i).2))]) rfl ?_
        show Steps p.tables e below (T599.setTop (mkF m 100 #[.val (.ref aa), .val (.int (Int32.ofNat i)), .val (.long qe), .second, .val (.long qp), .second, .val (.int (Int32.ofNat (own_bal (own_setL R.1 i R.2.2) i).2))] [])) _
        refine XS.iload X599.here hx rfl (hb hby d5_1_100) rfl ?_
        show Steps p.tables e below (T599.setTop (mkF m 102 #[.val (.ref aa), .val (.int (Int32.ofNat i)), .val (.long qe), .second, .val (.long qp), .second, .val (.int (Int32.ofNat (own_bal (own_setL R.1 i R.2.2) i).2))] [(.int (Int32.ofNat (own_bal (own_setL R.1 i R.2.2) i).2))])) _
        exact retI X599 hx Bd.returns (hb hby d5_1_102) hr
      · show Q5_1 Z aa ae ap aS ah al ar S rt md i B qe qp h0 n0 _ T599.heap _
        unfold Q5_1
        rw [hbq]
        exact ⟨rfl, N599, K599, (TR.mk (S := (own_bal (own_setL R.1 i R.2.2) i).1) t601_0 t601_1 t601_2 t601_3 t601_4 t601_5 t601_6 t601_7 t601_8 t601_9 t601_10 t601_11 t601_12 t601_13 t601_14 t601_15)⟩
    · obtain ⟨T602, X602, e602, st602⟩ := getF X576 hx hZ hown (host := "") (Or.inl (hw _ (List.mem_of_getElem? (i := 10) rfl))) Via.refl e576 t571_1 (g := (mkF m 51 #[.val (.ref aa), .val (.int (Int32.ofNat i)), .val (.long qe), .second, .val (.long qp), .second, .unset] [(.ref aa), (.long qe)])) rfl rfl (hb hby d5_1_51)
      by_cases hc603 : (0 : Int32) < (lcmpW qe ((own_e S) i))
      · have hnl : ¬ qe < own_e S i := fun q => hc577 ((lw_lt _ _).mpr q)
        have hgt : own_e S i < qe := (lw_gt _ _).mp hc603
        obtain ⟨T604, X604, e604, st604⟩ := getF X602 hx hZ hown (host := "") (Or.inl (hw _ (List.mem_of_getElem? (i := 21) rfl))) Via.refl e602 t571_6 (g := (mkF m 61 #[.val (.ref aa), .val (.int (Int32.ofNat i)), .val (.long qe), .second, .val (.long qp), .second, .unset] [(.ref aa)])) rfl rfl (hb hby d5_1_61)
        obtain ⟨T605, X605, e605, st605⟩ := getF X604 hx hZ hown (host := "") (Or.inl (hw _ (List.mem_of_getElem? (i := 21) rfl))) Via.refl e604 t571_6 (g := (mkF m 67 #[.val (.ref aa), .val (.int (Int32.ofNat i)), .val (.long qe), .second, .val (.long qp), .second, .unset] [(.ref aa), (.ref aa), (.int (Int32.ofNat i)), (.ref ar)])) rfl rfl (hb hby d5_1_67)
        obtain ⟨cq606, q606, q606'⟩ := t571_0.cell
        obtain ⟨_, _, ⟨T606, L606, k606, n606⟩, -, X606, ⟨Lc606, hQ606, l606, y606, z606⟩, st606⟩ := X605.privateBack hx (y := (⟨"com/example/berthline/berthline/engine/replay/EstimatedEnds", "add", "(IJJ)I"⟩ : MethodName)) hown (mvT hZ (hw _ (List.mem_of_getElem? (i := 39) rfl))) (mvT hZ (hw _ (List.mem_of_getElem? (i := 40) rfl))) (own_selects hZ (hw _ (List.mem_of_getElem? (i := 1) rfl)) (hw _ (List.mem_of_getElem? (i := 41) rfl)) (hw _ (List.mem_of_getElem? (i := 40) rfl)) (by decide)) (Cond.privateMethod_at (mvP hZ (hw _ (List.mem_of_getElem? (i := 41) rfl)) (args := #[]))) (mvT hZ (hw _ (List.mem_of_getElem? (i := 42) rfl))) (by decide) (backOf (W := 2) (rm5_0 l Z a0 hw [] aa ae ap aS ah al ar S rt md ((own_r S) i) B qe qp h0 n0 Z0 g_aa g_ae g_ap g_aS g_ah g_al g_ar hD (TR.mk (S := S) t571_0 t571_1 t571_2 t571_3 t571_4 t571_5 t571_6 t571_7 t571_8 t571_9 t571_10 t571_11 t571_12 t571_13 t571_14 t571_15) (hok.2.1 _) hok (by omega) hmd (own_deep_r hdeep hz)) hZ (hw _ (List.mem_of_getElem? (i := 42) rfl)) (hw _ (List.mem_of_getElem? (i := 2) rfl)) (by decide) (by decide)) (g := (mkF m 75 #[.val (.ref aa), .val (.int (Int32.ofNat i)), .val (.long qe), .second, .val (.long qp), .second, .unset] [(.long qp), (.long qe), (.int (Int32.ofNat ((own_r S) i))), (.ref aa), (.int (Int32.ofNat i)), (.ref ar)])) rfl (by rw [hml]; rfl) (Steps.refl _) (a := aa) (by rw [e605]; exact q606) q606' (argsL := [(.int (Int32.ofNat ((own_r S) i))), (.long qe), (.long qp)]) (rest := [(.int (Int32.ofNat i)), (.ref ar)]) (lenOf pd_63945 rfl) rfl (by show 2 * 0 + _ ≤ _; exact Nat.le_of_eq rfl) (hb hby d5_1_75) (fun _ _ => ⟨rfl, e605, (by decide : 0 + 0 ≤ _), (by decide : 0 + 0 ≤ _)⟩)
        dsimp only [Pt.U, Pt.locs, Pt.cells, Pt.slots] at X606 l606 y606 z606 st606 hQ606
        subst l606 y606 z606
        obtain ⟨rfl, N606q, K606c, G606_0⟩ := hQ606
        have N606 := Fr.app N0 N606q
        have E_607 := t571_0.keep K606c
        have Z606 : n0 ≤ T606.heap.size := Nat.le_trans Z0 K606c.1
        have K606 : Keep h0 T606.heap [aa, ae, ap, aS, ah, al, ar] := (Keep.refl h0 [aa, ae, ap, aS, ah, al, ar]).trans K606c (allS (P := fun x => x ∈ [aa, ae, ap, aS, ah, al, ar] ∨ h0.size ≤ x) (Or.inl (List.mem_of_getElem? (i := 0) rfl)) (allS (P := fun x => x ∈ [aa, ae, ap, aS, ah, al, ar] ∨ h0.size ≤ x) (Or.inl (List.mem_of_getElem? (i := 1) rfl)) (allS (P := fun x => x ∈ [aa, ae, ap, aS, ah, al, ar] ∨ h0.size ≤ x) (Or.inl (List.mem_of_getElem? (i := 2) rfl)) (allS (P := fun x => x ∈ [aa, ae, ap, aS, ah, al, ar] ∨ h0.size ≤ x) (Or.inl (List.mem_of_getElem? (i := 3) rfl)) (allS (P := fun x => x ∈ [aa, ae, ap, aS, ah, al, ar] ∨ h0.size ≤ x) (Or.inl (List.mem_of_getElem? (i := 4) rfl)) (allS (P := fun x => x ∈ [aa, ae, ap, aS, ah, al, ar] ∨ h0.size ≤ x) (Or.inl (List.mem_of_getElem? (i := 5) rfl)) (allS (P := fun x => x ∈ [aa, ae, ap, aS, ah, al, ar] ∨ h0.size ≤ x) (Or.inl (List.mem_of_getElem? (i := 6) rfl)) all0)))))))
        obtain ⟨t608_0, t608_1, t608_2, t608_3, t608_4, t608_5, t608_6, t608_7, t608_8, t608_9, t608_10, t608_11, t608_12, t608_13, t608_14, t608_15⟩ := G606_0
        have hokR := (own_ok_add 0 hok (hok.2.1 i) hmd qe qp)
        obtain ⟨R, hR⟩ : ∃ z, z = (own_add 0 S md ((own_r S) i) qe qp) := ⟨_, rfl⟩
        rw [← hR] at t608_8 t608_10 t608_11 t608_12 t608_13 t608_14 t608_15 hokR
        obtain ⟨T609, h609, X609, e609, W609, V609, st609⟩ := IA.store X606 hx hZ rfl t608_15 i (own_cl hi (by decide)) (own_nn hi (by decide)) hi (x := R.2.2) (g := (mkF m 78 #[.val (.ref aa), .val (.int (Int32.ofNat i)), .val (.long qe), .second, .val (.long qp), .second, .unset] [(.int (Int32.ofNat R.2.2)), (.int (Int32.ofNat i)), (.ref ar)])) rfl rfl (hb hby d5_1_78)
        have E_610 := t608_0.wr W609
        have F_611 := t608_1.other W609 (Or.inl dd570_5)
        have F_612 := t608_2.other W609 (Or.inl dd570_5)
        have F_613 := t608_3.other W609 (Or.inl dd570_5)
        have F_614 := t608_4.other W609 (Or.inl dd570_5)
        have F_615 := t608_5.other W609 (Or.inl dd570_5)
        have F_616 := t608_6.other W609 (Or.inl dd570_5)
        have F_617 := t608_7.other W609 (Or.inl dd570_5)
        have F_618 := t608_8.other W609 (Or.inl dd570_5)
        have F_619 := t608_9.other W609 (Or.inl dd570_5)
        have V_620 := t608_10.other W609 dd570_10
        have V_621 := t608_11.other W609 dd570_14
        have V_622 := t608_12.other W609 dd570_17
        have V_623 := t608_13.other W609 dd570_19
        have V_624 := t608_14.other W609 dd570_20
        have N609 := Fr.snoc X609 N606 g_ar
        have Z609 : n0 ≤ h609.size := Nat.le_trans Z606 (Keep.of_wr W609).1
        have K609 : Keep h0 h609 [aa, ae, ap, aS, ah, al, ar] := K606.wr W609 (Or.inl (List.mem_of_getElem? (i := 6) rfl))
        obtain ⟨cq625, q625, q625'⟩ := E_610.cell
        obtain ⟨_, _, ⟨T625, L625, k625, n625⟩, -, X625, ⟨Lc625, hQ625, l625, y625, z625⟩, st625⟩ := X609.privateBack hx (y := (⟨"com/example/berthline/berthline/engine/replay/EstimatedEnds", "balance", "(I)I"⟩ : MethodName)) hown (mvT hZ (hw _ (List.mem_of_getElem? (i := 47) rfl))) (mvT hZ (hw _ (List.mem_of_getElem? (i := 48) rfl))) (own_selects hZ (hw _ (List.mem_of_getElem? (i := 1) rfl)) (hw _ (List.mem_of_getElem? (i := 49) rfl)) (hw _ (List.mem_of_getElem? (i := 48) rfl)) (by decide)) (Cond.privateMethod_at (mvP hZ (hw _ (List.mem_of_getElem? (i := 49) rfl)) (args := #[]))) (mvT hZ (hw _ (List.mem_of_getElem? (i := 50) rfl))) (by decide) (backOf (W := 0) (rm7 l Z a0 hw [] aa ae ap aS ah al ar (own_setR R.1 i R.2.2) rt R.2.1 i (B + 5 * 0) h609 n0 Z609 g_aa g_ae g_ap g_aS g_ah g_al g_ar hD (TR.mk (S := (own_setR R.1 i R.2.2)) E_610 F_611 F_612 F_613 F_614 F_615 F_616 F_617 F_618 F_619 V_620 V_621 V_622 V_623 V_624 V609) hi (own_ok_setR hokR.1 hokR.2) (by omega)) hZ (hw _ (List.mem_of_getElem? (i := 50) rfl)) (hw _ (List.mem_of_getElem? (i := 2) rfl)) (by decide) (by decide)) (g := (mkF m 95 #[.val (.ref aa), .val (.int (Int32.ofNat i)), .val (.long qe), .second, .val (.long qp), .second, .unset] [(.int (Int32.ofNat i)), (.ref aa)])) rfl (by rw [hml]; rfl) (Steps.refl _) (a := aa) (by rw [e609]; exact q625) q625' (argsL := [(.int (Int32.ofNat i))]) (rest := []) (lenOf pd_216441 rfl) rfl (by show 2 * 0 + _ ≤ _; exact Nat.le_of_eq rfl) (hb hby d5_1_95) (fun _ _ => ⟨rfl, e609, (by decide : 0 + 0 ≤ _), (by decide : 0 + 0 ≤ _)⟩)
        dsimp only [Pt.U, Pt.locs, Pt.cells, Pt.slots] at X625 l625 y625 z625 st625 hQ625
        subst l625 y625 z625
        obtain ⟨rfl, N625q, K625c, G625_0⟩ := hQ625
        have N625 := Fr.app N609 N625q
        have E_626 := E_610.keep K625c
        have Z625 : n0 ≤ T625.heap.size := Nat.le_trans Z609 K625c.1
        have K625 : Keep h0 T625.heap [aa, ae, ap, aS, ah, al, ar] := K609.trans K625c (allS (P := fun x => x ∈ [aa, ae, ap, aS, ah, al, ar] ∨ h0.size ≤ x) (Or.inl (List.mem_of_getElem? (i := 0) rfl)) (allS (P := fun x => x ∈ [aa, ae, ap, aS, ah, al, ar] ∨ h0.size ≤ x) (Or.inl (List.mem_of_getElem? (i := 1) rfl)) (allS (P := fun x => x ∈ [aa, ae, ap, aS, ah, al, ar] ∨ h0.size ≤ x) (Or.inl (List.mem_of_getElem? (i := 2) rfl)) (allS (P := fun x => x ∈ [aa, ae, ap, aS, ah, al, ar] ∨ h0.size ≤ x) (Or.inl (List.mem_of_getElem? (i := 3) rfl)) (allS (P := fun x => x ∈ [aa, ae, ap, aS, ah, al, ar] ∨ h0.size ≤ x) (Or.inl (List.mem_of_getElem? (i := 4) rfl)) (allS (P := fun x => x ∈ [aa, ae, ap, aS, ah, al, ar] ∨ h0.size ≤ x) (Or.inl (List.mem_of_getElem? (i := 5) rfl)) (allS (P := fun x => x ∈ [aa, ae, ap, aS, ah, al, ar] ∨ h0.size ≤ x) (Or.inl (List.mem_of_getElem? (i := 6) rfl)) all0)))))))
        obtain ⟨t627_0, t627_1, t627_2, t627_3, t627_4, t627_5, t627_6, t627_7, t627_8, t627_9, t627_10, t627_11, t627_12, t627_13, t627_14, t627_15⟩ := G625_0
        have hbq := own_add_gt 0 (md := md) (p := qp) hz hnl hgt
        rw [← hR] at hbq
        obtain ⟨fs, hr, hrun, hended, hW, hsame⟩ := X625.leave (v := some (.int (Int32.ofNat (own_bal (own_setR R.1 i R.2.2) i).2))) (fun h => by rw [Bd.returns] at h; cases h)
        refine ⟨_, _, pre0 _ ?_, hrun, hended, _, _, rfl, ?_, ⟨_, rfl⟩, hW, hsame.mono (by decide) (by decide)⟩
        · show Steps p.tables e below (s₁.setTop (mkF m 0 #[.val (.ref aa), .val (.int (Int32.ofNat i)), .val (.long qe), .second, .val (.long qp), .second, .unset] [])) _
          refine XS.iloadN X0.here hx rfl (hb hby d5_1_0) rfl ?_
          show Steps p.tables e below (s₁.setTop (mkF m 1 #[.val (.ref aa), .val (.int (Int32.ofNat i)), .val (.long qe), .second, .val (.long qp), .second, .unset] [(.int (Int32.ofNat i))])) _
          refine XS.ifYes X0.here hx rfl (pc0 := 1) (pc' := 16) rfl (hb hby d5_1_1) rfl ((if0 _ _).trans (feq hc572).2) (by decide) (by decide) ?_
          show Steps p.tables e below (s₁.setTop (mkF m 16 #[.val (.ref aa), .val (.int (Int32.ofNat i)), .val (.long qe), .second, .val (.long qp), .second, .unset] [])) _
          refine XS.lloadN X0.here hx rfl (hb hby d5_1_16) rfl ?_
          show Steps p.tables e below (s₁.setTop (mkF m 17 #[.val (.ref aa), .val (.int (Int32.ofNat i)), .val (.long qe), .second, .val (.long qp), .second, .unset] [(.long qe)])) _
          refine XS.aloadN X0.here hx rfl (hb hby d5_1_17) rfl rfl ?_
          show Steps p.tables e below (s₁.setTop (mkF m 18 #[.val (.ref aa), .val (.int (Int32.ofNat i)), .val (.long qe), .second, .val (.long qp), .second, .unset] [(.ref aa), (.long qe)])) _
          refine st576 _ ?_
          show Steps p.tables e below (T576.setTop (mkF m 21 #[.val (.ref aa), .val (.int (Int32.ofNat i)), .val (.long qe), .second, .val (.long qp), .second, .unset] [(.ref ae), (.long qe)])) _
          refine XS.iloadN X576.here hx rfl (hb hby d5_1_21) rfl ?_
          show Steps p.tables e below (T576.setTop (mkF m 22 #[.val (.ref aa), .val (.int (Int32.ofNat i)), .val (.long qe), .second, .val (.long qp), .second, .unset] [(.int (Int32.ofNat i)), (.ref ae), (.long qe)])) _
          refine JA.load X576 hx hZ e576 t571_10 i (own_cl hi (by decide)) (own_nn hi (by decide)) hi (g := (mkF m 22 #[.val (.ref aa), .val (.int (Int32.ofNat i)), .val (.long qe), .second, .val (.long qp), .second, .unset] [(.int (Int32.ofNat i)), (.ref ae), (.long qe)])) rfl rfl (hb hby d5_1_22) _ ?_
          show Steps p.tables e below (T576.setTop (mkF m 23 #[.val (.ref aa), .val (.int (Int32.ofNat i)), .val (.long qe), .second, .val (.long qp), .second, .unset] [(.long ((own_e S) i)), (.long qe)])) _
          refine XS.lcmp X576.here hx rfl (hb hby d5_1_23) rfl ?_
          show Steps p.tables e below (T576.setTop (mkF m 24 #[.val (.ref aa), .val (.int (Int32.ofNat i)), .val (.long qe), .second, .val (.long qp), .second, .unset] [(.int (lcmpW qe ((own_e S) i)))])) _
          refine XS.ifYes X576.here hx rfl (pc0 := 24) (pc' := 49) rfl (hb hby d5_1_24) rfl ((if0 _ _).trans (flt hc577).2.1) (by decide) (by decide) ?_
          show Steps p.tables e below (T576.setTop (mkF m 49 #[.val (.ref aa), .val (.int (Int32.ofNat i)), .val (.long qe), .second, .val (.long qp), .second, .unset] [])) _
          refine XS.lloadN X576.here hx rfl (hb hby d5_1_49) rfl ?_
          show Steps p.tables e below (T576.setTop (mkF m 50 #[.val (.ref aa), .val (.int (Int32.ofNat i)), .val (.long qe), .second, .val (.long qp), .second, .unset] [(.long qe)])) _
          refine XS.aloadN X576.here hx rfl (hb hby d5_1_50) rfl rfl ?_
          show Steps p.tables e below (T576.setTop (mkF m 51 #[.val (.ref aa), .val (.int (Int32.ofNat i)), .val (.long qe), .second, .val (.long qp), .second, .unset] [(.ref aa), (.long qe)])) _
          refine st602 _ ?_
          show Steps p.tables e below (T602.setTop (mkF m 54 #[.val (.ref aa), .val (.int (Int32.ofNat i)), .val (.long qe), .second, .val (.long qp), .second, .unset] [(.ref ae), (.long qe)])) _
          refine XS.iloadN X602.here hx rfl (hb hby d5_1_54) rfl ?_
          show Steps p.tables e below (T602.setTop (mkF m 55 #[.val (.ref aa), .val (.int (Int32.ofNat i)), .val (.long qe), .second, .val (.long qp), .second, .unset] [(.int (Int32.ofNat i)), (.ref ae), (.long qe)])) _
          refine JA.load X602 hx hZ e602 t571_10 i (own_cl hi (by decide)) (own_nn hi (by decide)) hi (g := (mkF m 55 #[.val (.ref aa), .val (.int (Int32.ofNat i)), .val (.long qe), .second, .val (.long qp), .second, .unset] [(.int (Int32.ofNat i)), (.ref ae), (.long qe)])) rfl rfl (hb hby d5_1_55) _ ?_
          show Steps p.tables e below (T602.setTop (mkF m 56 #[.val (.ref aa), .val (.int (Int32.ofNat i)), .val (.long qe), .second, .val (.long qp), .second, .unset] [(.long ((own_e S) i)), (.long qe)])) _
          refine XS.lcmp X602.here hx rfl (hb hby d5_1_56) rfl ?_
          show Steps p.tables e below (T602.setTop (mkF m 57 #[.val (.ref aa), .val (.int (Int32.ofNat i)), .val (.long qe), .second, .val (.long qp), .second, .unset] [(.int (lcmpW qe ((own_e S) i)))])) _
          refine XS.ifNo X602.here hx rfl (hb hby d5_1_57) rfl ((if0 _ _).trans (tlt hc603).2.2.2) ?_
          show Steps p.tables e below (T602.setTop (mkF m 60 #[.val (.ref aa), .val (.int (Int32.ofNat i)), .val (.long qe), .second, .val (.long qp), .second, .unset] [])) _
          refine XS.aloadN X602.here hx rfl (hb hby d5_1_60) rfl rfl ?_
          show Steps p.tables e below (T602.setTop (mkF m 61 #[.val (.ref aa), .val (.int (Int32.ofNat i)), .val (.long qe), .second, .val (.long qp), .second, .unset] [(.ref aa)])) _
          refine st604 _ ?_
          show Steps p.tables e below (T604.setTop (mkF m 64 #[.val (.ref aa), .val (.int (Int32.ofNat i)), .val (.long qe), .second, .val (.long qp), .second, .unset] [(.ref ar)])) _
          refine XS.iloadN X604.here hx rfl (hb hby d5_1_64) rfl ?_
          show Steps p.tables e below (T604.setTop (mkF m 65 #[.val (.ref aa), .val (.int (Int32.ofNat i)), .val (.long qe), .second, .val (.long qp), .second, .unset] [(.int (Int32.ofNat i)), (.ref ar)])) _
          refine XS.aloadN X604.here hx rfl (hb hby d5_1_65) rfl rfl ?_
          show Steps p.tables e below (T604.setTop (mkF m 66 #[.val (.ref aa), .val (.int (Int32.ofNat i)), .val (.long qe), .second, .val (.long qp), .second, .unset] [(.ref aa), (.int (Int32.ofNat i)), (.ref ar)])) _
          refine XS.aloadN X604.here hx rfl (hb hby d5_1_66) rfl rfl ?_
          show Steps p.tables e below (T604.setTop (mkF m 67 #[.val (.ref aa), .val (.int (Int32.ofNat i)), .val (.long qe), .second, .val (.long qp), .second, .unset] [(.ref aa), (.ref aa), (.int (Int32.ofNat i)), (.ref ar)])) _
          refine st605 _ ?_
          show Steps p.tables e below (T605.setTop (mkF m 70 #[.val (.ref aa), .val (.int (Int32.ofNat i)), .val (.long qe), .second, .val (.long qp), .second, .unset] [(.ref ar), (.ref aa), (.int (Int32.ofNat i)), (.ref ar)])) _
          refine XS.iloadN X605.here hx rfl (hb hby d5_1_70) rfl ?_
          show Steps p.tables e below (T605.setTop (mkF m 71 #[.val (.ref aa), .val (.int (Int32.ofNat i)), .val (.long qe), .second, .val (.long qp), .second, .unset] [(.int (Int32.ofNat i)), (.ref ar), (.ref aa), (.int (Int32.ofNat i)), (.ref ar)])) _
          refine IA.load X605 hx hZ e605 t571_15 i (own_cl hi (by decide)) (own_nn hi (by decide)) hi (g := (mkF m 71 #[.val (.ref aa), .val (.int (Int32.ofNat i)), .val (.long qe), .second, .val (.long qp), .second, .unset] [(.int (Int32.ofNat i)), (.ref ar), (.ref aa), (.int (Int32.ofNat i)), (.ref ar)])) rfl rfl (hb hby d5_1_71) _ ?_
          show Steps p.tables e below (T605.setTop (mkF m 72 #[.val (.ref aa), .val (.int (Int32.ofNat i)), .val (.long qe), .second, .val (.long qp), .second, .unset] [(.int (Int32.ofNat ((own_r S) i))), (.ref aa), (.int (Int32.ofNat i)), (.ref ar)])) _
          refine XS.lloadN X605.here hx rfl (hb hby d5_1_72) rfl ?_
          show Steps p.tables e below (T605.setTop (mkF m 73 #[.val (.ref aa), .val (.int (Int32.ofNat i)), .val (.long qe), .second, .val (.long qp), .second, .unset] [(.long qe), (.int (Int32.ofNat ((own_r S) i))), (.ref aa), (.int (Int32.ofNat i)), (.ref ar)])) _
          refine XS.lload X605.here hx rfl (hb hby d5_1_73) rfl ?_
          show Steps p.tables e below (T605.setTop (mkF m 75 #[.val (.ref aa), .val (.int (Int32.ofNat i)), .val (.long qe), .second, .val (.long qp), .second, .unset] [(.long qp), (.long qe), (.int (Int32.ofNat ((own_r S) i))), (.ref aa), (.int (Int32.ofNat i)), (.ref ar)])) _
          refine st606.trans ?_
          show Steps p.tables e below (T606.setTop (mkF m 78 #[.val (.ref aa), .val (.int (Int32.ofNat i)), .val (.long qe), .second, .val (.long qp), .second, .unset] [(.int (Int32.ofNat (own_add 0 S md ((own_r S) i) qe qp).2.2)), (.int (Int32.ofNat i)), (.ref ar)])) _
          refine castTop (g' := (mkF m 78 #[.val (.ref aa), .val (.int (Int32.ofNat i)), .val (.long qe), .second, .val (.long qp), .second, .unset] [(.int (Int32.ofNat R.2.2)), (.int (Int32.ofNat i)), (.ref ar)])) (by rw [hR]) ?_
          show Steps p.tables e below (T606.setTop (mkF m 78 #[.val (.ref aa), .val (.int (Int32.ofNat i)), .val (.long qe), .second, .val (.long qp), .second, .unset] [(.int (Int32.ofNat R.2.2)), (.int (Int32.ofNat i)), (.ref ar)])) _
          refine st609 _ ?_
          show Steps p.tables e below (T609.setTop (mkF m 79 #[.val (.ref aa), .val (.int (Int32.ofNat i)), .val (.long qe), .second, .val (.long qp), .second, .unset] [])) _
          refine XS.goto X609.here hx rfl (pc0 := 79) (pc' := 93) rfl (hb hby d5_1_79) (by decide) (by decide) ?_
          show Steps p.tables e below (T609.setTop (mkF m 93 #[.val (.ref aa), .val (.int (Int32.ofNat i)), .val (.long qe), .second, .val (.long qp), .second, .unset] [])) _
          refine XS.aloadN X609.here hx rfl (hb hby d5_1_93) rfl rfl ?_
          show Steps p.tables e below (T609.setTop (mkF m 94 #[.val (.ref aa), .val (.int (Int32.ofNat i)), .val (.long qe), .second, .val (.long qp), .second, .unset] [(.ref aa)])) _
          refine XS.iloadN X609.here hx rfl (hb hby d5_1_94) rfl ?_
          show Steps p.tables e below (T609.setTop (mkF m 95 #[.val (.ref aa), .val (.int (Int32.ofNat i)), .val (.long qe), .second, .val (.long qp), .second, .unset] [(.int (Int32.ofNat i)), (.ref aa)])) _
          refine st625.trans ?_
          show Steps p.tables e below (T625.setTop (mkF m 98 #[.val (.ref aa), .val (.int (Int32.ofNat i)), .val (.long qe), .second, .val (.long qp), .second, .unset] [(.int (Int32.ofNat (own_bal (own_setR R.1 i R.2.2) i).2))])) _
          refine XS.istore X625.here hx rfl (hb hby d5_1_98) rfl (l' := #[.val (.ref aa), .val (.int (Int32.ofNat i)), .val (.long qe), .second, .val (.long qp), .second, .val (.int (Int32.ofNat (own_bal (own_setR R.1 i R.2.2) i).2))]) rfl ?_
          show Steps p.tables e below (T625.setTop (mkF m 100 #[.val (.ref aa), .val (.int (Int32.ofNat i)), .val (.long qe), .second, .val (.long qp), .second, .val (.int (Int32.ofNat (own_bal (own_setR R.1 i R.2.2) i).2))] [])) _
          refine XS.iload X625.here hx rfl (hb hby d5_1_100) rfl ?_
          show Steps p.tables e below (T625.setTop (mkF m 102 #[.val (.ref aa), .val (.int (Int32.ofNat i)), .val (.long qe), .second, .val (.long qp), .second, .val (.int (Int32.ofNat (own_bal (own_setR R.1 i R.2.2) i).2))] [(.int (Int32.ofNat (own_bal (own_setR R.1 i R.2.2) i).2))])) _
          exact retI X625 hx Bd.returns (hb hby d5_1_102) hr
        · show Q5_1 Z aa ae ap aS ah al ar S rt md i B qe qp h0 n0 _ T625.heap _
          unfold Q5_1
          rw [hbq]
          exact ⟨rfl, N625, K625, (TR.mk (S := (own_bal (own_setR R.1 i R.2.2) i).1) t627_0 t627_1 t627_2 t627_3 t627_4 t627_5 t627_6 t627_7 t627_8 t627_9 t627_10 t627_11 t627_12 t627_13 t627_14 t627_15)⟩
      · have hnl : ¬ qe < own_e S i := fun q => hc577 ((lw_lt _ _).mpr q)
        have hng : ¬ own_e S i < qe := fun q => hc603 ((lw_gt _ _).mpr q)
        obtain ⟨T628, X628, e628, st628⟩ := getF X602 hx hZ hown (host := "") (Or.inl (hw _ (List.mem_of_getElem? (i := 12) rfl))) Via.refl e602 t571_2 (g := (mkF m 83 #[.val (.ref aa), .val (.int (Int32.ofNat i)), .val (.long qe), .second, .val (.long qp), .second, .unset] [(.ref aa)])) rfl rfl (hb hby d5_1_83)
        obtain ⟨T629, h629, X629, e629, W629, V629, st629⟩ := JA.store X628 hx hZ e628 t571_11 i (own_cl hi (by decide)) (own_nn hi (by decide)) hi (x := (((own_p S) i) + qp)) (g := (mkF m 92 #[.val (.ref aa), .val (.int (Int32.ofNat i)), .val (.long qe), .second, .val (.long qp), .second, .unset] [(.long (((own_p S) i) + qp)), (.int (Int32.ofNat i)), (.ref ap)])) rfl rfl (hb hby d5_1_92)
        have E_630 := t571_0.wr W629
        have F_631 := t571_1.other W629 (Or.inl dd570_1)
        have F_632 := t571_2.other W629 (Or.inl dd570_1)
        have F_633 := t571_3.other W629 (Or.inl dd570_1)
        have F_634 := t571_4.other W629 (Or.inl dd570_1)
        have F_635 := t571_5.other W629 (Or.inl dd570_1)
        have F_636 := t571_6.other W629 (Or.inl dd570_1)
        have F_637 := t571_7.other W629 (Or.inl dd570_1)
        have F_638 := t571_8.other W629 (Or.inl dd570_1)
        have F_639 := t571_9.other W629 (Or.inl dd570_1)
        have V_640 := t571_10.other W629 dd570_6
        have V_641 := t571_12.other W629 (Ne.symm dd570_11)
        have V_642 := t571_13.other W629 (Ne.symm dd570_12)
        have V_643 := t571_14.other W629 (Ne.symm dd570_13)
        have V_644 := t571_15.other W629 (Ne.symm dd570_14)
        have N629 := Fr.snoc X629 N0 g_ap
        have Z629 : n0 ≤ h629.size := Nat.le_trans Z0 (Keep.of_wr W629).1
        have K629 : Keep h0 h629 [aa, ae, ap, aS, ah, al, ar] := (Keep.refl h0 [aa, ae, ap, aS, ah, al, ar]).wr W629 (Or.inl (List.mem_of_getElem? (i := 2) rfl))
        obtain ⟨cq645, q645, q645'⟩ := E_630.cell
        obtain ⟨_, _, ⟨T645, L645, k645, n645⟩, -, X645, ⟨Lc645, hQ645, l645, y645, z645⟩, st645⟩ := X629.privateBack hx (y := (⟨"com/example/berthline/berthline/engine/replay/EstimatedEnds", "balance", "(I)I"⟩ : MethodName)) hown (mvT hZ (hw _ (List.mem_of_getElem? (i := 47) rfl))) (mvT hZ (hw _ (List.mem_of_getElem? (i := 48) rfl))) (own_selects hZ (hw _ (List.mem_of_getElem? (i := 1) rfl)) (hw _ (List.mem_of_getElem? (i := 49) rfl)) (hw _ (List.mem_of_getElem? (i := 48) rfl)) (by decide)) (Cond.privateMethod_at (mvP hZ (hw _ (List.mem_of_getElem? (i := 49) rfl)) (args := #[]))) (mvT hZ (hw _ (List.mem_of_getElem? (i := 50) rfl))) (by decide) (backOf (W := 0) (rm7 l Z a0 hw [] aa ae ap aS ah al ar (own_setP S i (((own_p S) i) + qp)) rt md i B h629 n0 Z629 g_aa g_ae g_ap g_aS g_ah g_al g_ar hD (TR.mk (S := (own_setP S i (((own_p S) i) + qp))) E_630 F_631 F_632 F_633 F_634 F_635 F_636 F_637 F_638 F_639 V_640 V629 V_641 V_642 V_643 V_644) hi (own_ok_setP hok) (by omega)) hZ (hw _ (List.mem_of_getElem? (i := 50) rfl)) (hw _ (List.mem_of_getElem? (i := 2) rfl)) (by decide) (by decide)) (g := (mkF m 95 #[.val (.ref aa), .val (.int (Int32.ofNat i)), .val (.long qe), .second, .val (.long qp), .second, .unset] [(.int (Int32.ofNat i)), (.ref aa)])) rfl (by rw [hml]; rfl) (Steps.refl _) (a := aa) (by rw [e629]; exact q645) q645' (argsL := [(.int (Int32.ofNat i))]) (rest := []) (lenOf pd_216441 rfl) rfl (by show 2 * 0 + _ ≤ _; exact Nat.le_of_eq rfl) (hb hby d5_1_95) (fun _ _ => ⟨rfl, e629, (by decide : 0 + 0 ≤ _), (by decide : 0 + 0 ≤ _)⟩)
        dsimp only [Pt.U, Pt.locs, Pt.cells, Pt.slots] at X645 l645 y645 z645 st645 hQ645
        subst l645 y645 z645
        obtain ⟨rfl, N645q, K645c, G645_0⟩ := hQ645
        have N645 := Fr.app N629 N645q
        have E_646 := E_630.keep K645c
        have Z645 : n0 ≤ T645.heap.size := Nat.le_trans Z629 K645c.1
        have K645 : Keep h0 T645.heap [aa, ae, ap, aS, ah, al, ar] := K629.trans K645c (allS (P := fun x => x ∈ [aa, ae, ap, aS, ah, al, ar] ∨ h0.size ≤ x) (Or.inl (List.mem_of_getElem? (i := 0) rfl)) (allS (P := fun x => x ∈ [aa, ae, ap, aS, ah, al, ar] ∨ h0.size ≤ x) (Or.inl (List.mem_of_getElem? (i := 1) rfl)) (allS (P := fun x => x ∈ [aa, ae, ap, aS, ah, al, ar] ∨ h0.size ≤ x) (Or.inl (List.mem_of_getElem? (i := 2) rfl)) (allS (P := fun x => x ∈ [aa, ae, ap, aS, ah, al, ar] ∨ h0.size ≤ x) (Or.inl (List.mem_of_getElem? (i := 3) rfl)) (allS (P := fun x => x ∈ [aa, ae, ap, aS, ah, al, ar] ∨ h0.size ≤ x) (Or.inl (List.mem_of_getElem? (i := 4) rfl)) (allS (P := fun x => x ∈ [aa, ae, ap, aS, ah, al, ar] ∨ h0.size ≤ x) (Or.inl (List.mem_of_getElem? (i := 5) rfl)) (allS (P := fun x => x ∈ [aa, ae, ap, aS, ah, al, ar] ∨ h0.size ≤ x) (Or.inl (List.mem_of_getElem? (i := 6) rfl)) all0)))))))
        obtain ⟨t647_0, t647_1, t647_2, t647_3, t647_4, t647_5, t647_6, t647_7, t647_8, t647_9, t647_10, t647_11, t647_12, t647_13, t647_14, t647_15⟩ := G645_0
        have hbq := own_add_eq 0 (md := md) (p := qp) hz hnl hng
        obtain ⟨fs, hr, hrun, hended, hW, hsame⟩ := X645.leave (v := some (.int (Int32.ofNat (own_bal (own_setP S i (((own_p S) i) + qp)) i).2))) (fun h => by rw [Bd.returns] at h; cases h)
        refine ⟨_, _, pre0 _ ?_, hrun, hended, _, _, rfl, ?_, ⟨_, rfl⟩, hW, hsame.mono (by decide) (by decide)⟩
        · show Steps p.tables e below (s₁.setTop (mkF m 0 #[.val (.ref aa), .val (.int (Int32.ofNat i)), .val (.long qe), .second, .val (.long qp), .second, .unset] [])) _
          refine XS.iloadN X0.here hx rfl (hb hby d5_1_0) rfl ?_
          show Steps p.tables e below (s₁.setTop (mkF m 1 #[.val (.ref aa), .val (.int (Int32.ofNat i)), .val (.long qe), .second, .val (.long qp), .second, .unset] [(.int (Int32.ofNat i))])) _
          refine XS.ifYes X0.here hx rfl (pc0 := 1) (pc' := 16) rfl (hb hby d5_1_1) rfl ((if0 _ _).trans (feq hc572).2) (by decide) (by decide) ?_
          show Steps p.tables e below (s₁.setTop (mkF m 16 #[.val (.ref aa), .val (.int (Int32.ofNat i)), .val (.long qe), .second, .val (.long qp), .second, .unset] [])) _
          refine XS.lloadN X0.here hx rfl (hb hby d5_1_16) rfl ?_
          show Steps p.tables e below (s₁.setTop (mkF m 17 #[.val (.ref aa), .val (.int (Int32.ofNat i)), .val (.long qe), .second, .val (.long qp), .second, .unset] [(.long qe)])) _
          refine XS.aloadN X0.here hx rfl (hb hby d5_1_17) rfl rfl ?_
          show Steps p.tables e below (s₁.setTop (mkF m 18 #[.val (.ref aa), .val (.int (Int32.ofNat i)), .val (.long qe), .second, .val (.long qp), .second, .unset] [(.ref aa), (.long qe)])) _
          refine st576 _ ?_
          show Steps p.tables e below (T576.setTop (mkF m 21 #[.val (.ref aa), .val (.int (Int32.ofNat i)), .val (.long qe), .second, .val (.long qp), .second, .unset] [(.ref ae), (.long qe)])) _
          refine XS.iloadN X576.here hx rfl (hb hby d5_1_21) rfl ?_
          show Steps p.tables e below (T576.setTop (mkF m 22 #[.val (.ref aa), .val (.int (Int32.ofNat i)), .val (.long qe), .second, .val (.long qp), .second, .unset] [(.int (Int32.ofNat i)), (.ref ae), (.long qe)])) _
          refine JA.load X576 hx hZ e576 t571_10 i (own_cl hi (by decide)) (own_nn hi (by decide)) hi (g := (mkF m 22 #[.val (.ref aa), .val (.int (Int32.ofNat i)), .val (.long qe), .second, .val (.long qp), .second, .unset] [(.int (Int32.ofNat i)), (.ref ae), (.long qe)])) rfl rfl (hb hby d5_1_22) _ ?_
          show Steps p.tables e below (T576.setTop (mkF m 23 #[.val (.ref aa), .val (.int (Int32.ofNat i)), .val (.long qe), .second, .val (.long qp), .second, .unset] [(.long ((own_e S) i)), (.long qe)])) _
          refine XS.lcmp X576.here hx rfl (hb hby d5_1_23) rfl ?_
          show Steps p.tables e below (T576.setTop (mkF m 24 #[.val (.ref aa), .val (.int (Int32.ofNat i)), .val (.long qe), .second, .val (.long qp), .second, .unset] [(.int (lcmpW qe ((own_e S) i)))])) _
          refine XS.ifYes X576.here hx rfl (pc0 := 24) (pc' := 49) rfl (hb hby d5_1_24) rfl ((if0 _ _).trans (flt hc577).2.1) (by decide) (by decide) ?_
          show Steps p.tables e below (T576.setTop (mkF m 49 #[.val (.ref aa), .val (.int (Int32.ofNat i)), .val (.long qe), .second, .val (.long qp), .second, .unset] [])) _
          refine XS.lloadN X576.here hx rfl (hb hby d5_1_49) rfl ?_
          show Steps p.tables e below (T576.setTop (mkF m 50 #[.val (.ref aa), .val (.int (Int32.ofNat i)), .val (.long qe), .second, .val (.long qp), .second, .unset] [(.long qe)])) _
          refine XS.aloadN X576.here hx rfl (hb hby d5_1_50) rfl rfl ?_
          show Steps p.tables e below (T576.setTop (mkF m 51 #[.val (.ref aa), .val (.int (Int32.ofNat i)), .val (.long qe), .second, .val (.long qp), .second, .unset] [(.ref aa), (.long qe)])) _
          refine st602 _ ?_
          show Steps p.tables e below (T602.setTop (mkF m 54 #[.val (.ref aa), .val (.int (Int32.ofNat i)), .val (.long qe), .second, .val (.long qp), .second, .unset] [(.ref ae), (.long qe)])) _
          refine XS.iloadN X602.here hx rfl (hb hby d5_1_54) rfl ?_
          show Steps p.tables e below (T602.setTop (mkF m 55 #[.val (.ref aa), .val (.int (Int32.ofNat i)), .val (.long qe), .second, .val (.long qp), .second, .unset] [(.int (Int32.ofNat i)), (.ref ae), (.long qe)])) _
          refine JA.load X602 hx hZ e602 t571_10 i (own_cl hi (by decide)) (own_nn hi (by decide)) hi (g := (mkF m 55 #[.val (.ref aa), .val (.int (Int32.ofNat i)), .val (.long qe), .second, .val (.long qp), .second, .unset] [(.int (Int32.ofNat i)), (.ref ae), (.long qe)])) rfl rfl (hb hby d5_1_55) _ ?_
          show Steps p.tables e below (T602.setTop (mkF m 56 #[.val (.ref aa), .val (.int (Int32.ofNat i)), .val (.long qe), .second, .val (.long qp), .second, .unset] [(.long ((own_e S) i)), (.long qe)])) _
          refine XS.lcmp X602.here hx rfl (hb hby d5_1_56) rfl ?_
          show Steps p.tables e below (T602.setTop (mkF m 57 #[.val (.ref aa), .val (.int (Int32.ofNat i)), .val (.long qe), .second, .val (.long qp), .second, .unset] [(.int (lcmpW qe ((own_e S) i)))])) _
          refine XS.ifYes X602.here hx rfl (pc0 := 57) (pc' := 82) rfl (hb hby d5_1_57) rfl ((if0 _ _).trans (flt hc603).2.2.2) (by decide) (by decide) ?_
          show Steps p.tables e below (T602.setTop (mkF m 82 #[.val (.ref aa), .val (.int (Int32.ofNat i)), .val (.long qe), .second, .val (.long qp), .second, .unset] [])) _
          refine XS.aloadN X602.here hx rfl (hb hby d5_1_82) rfl rfl ?_
          show Steps p.tables e below (T602.setTop (mkF m 83 #[.val (.ref aa), .val (.int (Int32.ofNat i)), .val (.long qe), .second, .val (.long qp), .second, .unset] [(.ref aa)])) _
          refine st628 _ ?_
          show Steps p.tables e below (T628.setTop (mkF m 86 #[.val (.ref aa), .val (.int (Int32.ofNat i)), .val (.long qe), .second, .val (.long qp), .second, .unset] [(.ref ap)])) _
          refine XS.iloadN X628.here hx rfl (hb hby d5_1_86) rfl ?_
          show Steps p.tables e below (T628.setTop (mkF m 87 #[.val (.ref aa), .val (.int (Int32.ofNat i)), .val (.long qe), .second, .val (.long qp), .second, .unset] [(.int (Int32.ofNat i)), (.ref ap)])) _
          jvm_step X628.here [X628.here.top, hx, (hb hby d5_1_87), Value.category]
          show Steps p.tables e below (T628.setTop (mkF m 88 #[.val (.ref aa), .val (.int (Int32.ofNat i)), .val (.long qe), .second, .val (.long qp), .second, .unset] [(.int (Int32.ofNat i)), (.ref ap), (.int (Int32.ofNat i)), (.ref ap)])) _
          refine JA.load X628 hx hZ e628 t571_11 i (own_cl hi (by decide)) (own_nn hi (by decide)) hi (g := (mkF m 88 #[.val (.ref aa), .val (.int (Int32.ofNat i)), .val (.long qe), .second, .val (.long qp), .second, .unset] [(.int (Int32.ofNat i)), (.ref ap), (.int (Int32.ofNat i)), (.ref ap)])) rfl rfl (hb hby d5_1_88) _ ?_
          show Steps p.tables e below (T628.setTop (mkF m 89 #[.val (.ref aa), .val (.int (Int32.ofNat i)), .val (.long qe), .second, .val (.long qp), .second, .unset] [(.long ((own_p S) i)), (.int (Int32.ofNat i)), (.ref ap)])) _
          refine XS.lload X628.here hx rfl (hb hby d5_1_89) rfl ?_
          show Steps p.tables e below (T628.setTop (mkF m 91 #[.val (.ref aa), .val (.int (Int32.ofNat i)), .val (.long qe), .second, .val (.long qp), .second, .unset] [(.long qp), (.long ((own_p S) i)), (.int (Int32.ofNat i)), (.ref ap)])) _
          refine XS.ladd X628.here hx rfl (hb hby d5_1_91) rfl ?_
          show Steps p.tables e below (T628.setTop (mkF m 92 #[.val (.ref aa), .val (.int (Int32.ofNat i)), .val (.long qe), .second, .val (.long qp), .second, .unset] [(.long (((own_p S) i) + qp)), (.int (Int32.ofNat i)), (.ref ap)])) _
          refine st629 _ ?_
          show Steps p.tables e below (T629.setTop (mkF m 93 #[.val (.ref aa), .val (.int (Int32.ofNat i)), .val (.long qe), .second, .val (.long qp), .second, .unset] [])) _
          refine XS.aloadN X629.here hx rfl (hb hby d5_1_93) rfl rfl ?_
          show Steps p.tables e below (T629.setTop (mkF m 94 #[.val (.ref aa), .val (.int (Int32.ofNat i)), .val (.long qe), .second, .val (.long qp), .second, .unset] [(.ref aa)])) _
          refine XS.iloadN X629.here hx rfl (hb hby d5_1_94) rfl ?_
          show Steps p.tables e below (T629.setTop (mkF m 95 #[.val (.ref aa), .val (.int (Int32.ofNat i)), .val (.long qe), .second, .val (.long qp), .second, .unset] [(.int (Int32.ofNat i)), (.ref aa)])) _
          refine st645.trans ?_
          show Steps p.tables e below (T645.setTop (mkF m 98 #[.val (.ref aa), .val (.int (Int32.ofNat i)), .val (.long qe), .second, .val (.long qp), .second, .unset] [(.int (Int32.ofNat (own_bal (own_setP S i (((own_p S) i) + qp)) i).2))])) _
          refine XS.istore X645.here hx rfl (hb hby d5_1_98) rfl (l' := #[.val (.ref aa), .val (.int (Int32.ofNat i)), .val (.long qe), .second, .val (.long qp), .second, .val (.int (Int32.ofNat (own_bal (own_setP S i (((own_p S) i) + qp)) i).2))]) rfl ?_
          show Steps p.tables e below (T645.setTop (mkF m 100 #[.val (.ref aa), .val (.int (Int32.ofNat i)), .val (.long qe), .second, .val (.long qp), .second, .val (.int (Int32.ofNat (own_bal (own_setP S i (((own_p S) i) + qp)) i).2))] [])) _
          refine XS.iload X645.here hx rfl (hb hby d5_1_100) rfl ?_
          show Steps p.tables e below (T645.setTop (mkF m 102 #[.val (.ref aa), .val (.int (Int32.ofNat i)), .val (.long qe), .second, .val (.long qp), .second, .val (.int (Int32.ofNat (own_bal (own_setP S i (((own_p S) i) + qp)) i).2))] [(.int (Int32.ofNat (own_bal (own_setP S i (((own_p S) i) + qp)) i).2))])) _
          exact retI X645 hx Bd.returns (hb hby d5_1_102) hr
        · show Q5_1 Z aa ae ap aS ah al ar S rt md i B qe qp h0 n0 _ T645.heap _
          unfold Q5_1
          rw [hbq]
          exact ⟨rfl, N645, K645, (TR.mk (S := (own_bal (own_setP S i (((own_p S) i) + qp)) i).1) t647_0 t647_1 t647_2 t647_3 t647_4 t647_5 t647_6 t647_7 t647_8 t647_9 t647_10 t647_11 t647_12 t647_13 t647_14 t647_15)⟩

theorem d5_2_0 : decode prog_107_method_7_code 0 = .ok (.iload_n 1, 1) := by decide +kernel
theorem d5_2_1 : decode prog_107_method_7_code 1 = .ok (.ifCond .ne 15, 3) := by decide +kernel
theorem d5_2_4 : decode prog_107_method_7_code 4 = .ok (.aload_n 0, 1) := by decide +kernel
theorem d5_2_5 : decode prog_107_method_7_code 5 = .ok (.lload_n 2, 1) := by decide +kernel
theorem d5_2_6 : decode prog_107_method_7_code 6 = .ok (.lload 4, 2) := by decide +kernel
theorem d5_2_8 : decode prog_107_method_7_code 8 = .ok (.invokevirtual 62, 3) := by decide +kernel
theorem d5_2_11 : decode prog_107_method_7_code 11 = .ok (.istore 6, 2) := by decide +kernel
theorem d5_2_13 : decode prog_107_method_7_code 13 = .ok (.goto 87, 3) := by decide +kernel
theorem d5_2_100 : decode prog_107_method_7_code 100 = .ok (.iload 6, 2) := by decide +kernel
theorem d5_2_102 : decode prog_107_method_7_code 102 = .ok (.ireturn, 1) := by decide +kernel
theorem d5_2_16 : decode prog_107_method_7_code 16 = .ok (.lload_n 2, 1) := by decide +kernel
theorem d5_2_17 : decode prog_107_method_7_code 17 = .ok (.aload_n 0, 1) := by decide +kernel
theorem d5_2_18 : decode prog_107_method_7_code 18 = .ok (.getfield 7, 3) := by decide +kernel
theorem d5_2_21 : decode prog_107_method_7_code 21 = .ok (.iload_n 1, 1) := by decide +kernel
theorem d5_2_22 : decode prog_107_method_7_code 22 = .ok (.laload, 1) := by decide +kernel
theorem d5_2_23 : decode prog_107_method_7_code 23 = .ok (.lcmp, 1) := by decide +kernel
theorem d5_2_24 : decode prog_107_method_7_code 24 = .ok (.ifCond .ge 25, 3) := by decide +kernel
theorem d5_2_27 : decode prog_107_method_7_code 27 = .ok (.aload_n 0, 1) := by decide +kernel
theorem d5_2_28 : decode prog_107_method_7_code 28 = .ok (.getfield 23, 3) := by decide +kernel
theorem d5_2_31 : decode prog_107_method_7_code 31 = .ok (.iload_n 1, 1) := by decide +kernel
theorem d5_2_32 : decode prog_107_method_7_code 32 = .ok (.aload_n 0, 1) := by decide +kernel
theorem d5_2_33 : decode prog_107_method_7_code 33 = .ok (.aload_n 0, 1) := by decide +kernel
theorem d5_2_34 : decode prog_107_method_7_code 34 = .ok (.getfield 23, 3) := by decide +kernel
theorem d5_2_37 : decode prog_107_method_7_code 37 = .ok (.iload_n 1, 1) := by decide +kernel
theorem d5_2_38 : decode prog_107_method_7_code 38 = .ok (.iaload, 1) := by decide +kernel
theorem d5_2_39 : decode prog_107_method_7_code 39 = .ok (.lload_n 2, 1) := by decide +kernel
theorem d5_2_40 : decode prog_107_method_7_code 40 = .ok (.lload 4, 2) := by decide +kernel
theorem d5_2_42 : decode prog_107_method_7_code 42 = .ok (.invokevirtual 42, 3) := by decide +kernel
theorem d5_2_45 : decode prog_107_method_7_code 45 = .ok (.iastore, 1) := by decide +kernel
theorem d5_2_46 : decode prog_107_method_7_code 46 = .ok (.goto 47, 3) := by decide +kernel
theorem d5_2_93 : decode prog_107_method_7_code 93 = .ok (.aload_n 0, 1) := by decide +kernel
theorem d5_2_94 : decode prog_107_method_7_code 94 = .ok (.iload_n 1, 1) := by decide +kernel
theorem d5_2_95 : decode prog_107_method_7_code 95 = .ok (.invokevirtual 66, 3) := by decide +kernel
theorem d5_2_98 : decode prog_107_method_7_code 98 = .ok (.istore 6, 2) := by decide +kernel
theorem d5_2_49 : decode prog_107_method_7_code 49 = .ok (.lload_n 2, 1) := by decide +kernel
theorem d5_2_50 : decode prog_107_method_7_code 50 = .ok (.aload_n 0, 1) := by decide +kernel
theorem d5_2_51 : decode prog_107_method_7_code 51 = .ok (.getfield 7, 3) := by decide +kernel
theorem d5_2_54 : decode prog_107_method_7_code 54 = .ok (.iload_n 1, 1) := by decide +kernel
theorem d5_2_55 : decode prog_107_method_7_code 55 = .ok (.laload, 1) := by decide +kernel
theorem d5_2_56 : decode prog_107_method_7_code 56 = .ok (.lcmp, 1) := by decide +kernel
theorem d5_2_57 : decode prog_107_method_7_code 57 = .ok (.ifCond .le 25, 3) := by decide +kernel
theorem d5_2_60 : decode prog_107_method_7_code 60 = .ok (.aload_n 0, 1) := by decide +kernel
theorem d5_2_61 : decode prog_107_method_7_code 61 = .ok (.getfield 26, 3) := by decide +kernel
theorem d5_2_64 : decode prog_107_method_7_code 64 = .ok (.iload_n 1, 1) := by decide +kernel
theorem d5_2_65 : decode prog_107_method_7_code 65 = .ok (.aload_n 0, 1) := by decide +kernel
theorem d5_2_66 : decode prog_107_method_7_code 66 = .ok (.aload_n 0, 1) := by decide +kernel
theorem d5_2_67 : decode prog_107_method_7_code 67 = .ok (.getfield 26, 3) := by decide +kernel
theorem d5_2_70 : decode prog_107_method_7_code 70 = .ok (.iload_n 1, 1) := by decide +kernel
theorem d5_2_71 : decode prog_107_method_7_code 71 = .ok (.iaload, 1) := by decide +kernel
theorem d5_2_72 : decode prog_107_method_7_code 72 = .ok (.lload_n 2, 1) := by decide +kernel
theorem d5_2_73 : decode prog_107_method_7_code 73 = .ok (.lload 4, 2) := by decide +kernel
theorem d5_2_75 : decode prog_107_method_7_code 75 = .ok (.invokevirtual 42, 3) := by decide +kernel
theorem d5_2_78 : decode prog_107_method_7_code 78 = .ok (.iastore, 1) := by decide +kernel
theorem d5_2_79 : decode prog_107_method_7_code 79 = .ok (.goto 14, 3) := by decide +kernel
theorem d5_2_82 : decode prog_107_method_7_code 82 = .ok (.aload_n 0, 1) := by decide +kernel
theorem d5_2_83 : decode prog_107_method_7_code 83 = .ok (.getfield 13, 3) := by decide +kernel
theorem d5_2_86 : decode prog_107_method_7_code 86 = .ok (.iload_n 1, 1) := by decide +kernel
theorem d5_2_87 : decode prog_107_method_7_code 87 = .ok (.dup2, 1) := by decide +kernel
theorem d5_2_88 : decode prog_107_method_7_code 88 = .ok (.laload, 1) := by decide +kernel
theorem d5_2_89 : decode prog_107_method_7_code 89 = .ok (.lload 4, 2) := by decide +kernel
theorem d5_2_91 : decode prog_107_method_7_code 91 = .ok (.ladd, 1) := by decide +kernel
theorem d5_2_92 : decode prog_107_method_7_code 92 = .ok (.lastore, 1) := by decide +kernel
theorem ef_5_2 (m : MethodId) (aa : Addr) (qe : Int64) (qp : Int64) : entryFrame m #[(.ref aa), (.int (Int32.ofNat i)), (.long qe), (.long qp)] 7 = mkF m 0 #[.val (.ref aa), .val (.int (Int32.ofNat i)), .val (.long qe), .second, .val (.long qp), .second, .unset] [] := by first | (simp [entryFrame, mkF, argsToLocals, Value.category]; done) | rfl
def Q5_2 (Z : State) (aa : Addr) (ae : Addr) (ap : Addr) (aS : Addr) (ah : Addr) (al : Addr) (ar : Addr) (S : own_S) (rt : Nat) (md : Nat) (i : Nat) (B : Nat) (qe : Int64) (qp : Int64) (h0 : Heap) (n0 : Nat) (v : Option Value) (h : Heap) (L : List Loc) : Prop := v = some (.int (Int32.ofNat (own_add (0 + 1 + 1) S md i qe qp).2.2)) ∧ Fr n0 L ∧ Keep h0 h [aa, ae, ap, aS, ah, al, ar] ∧ TR Z h aa ae ap aS ah al ar (own_add (0 + 1 + 1) S md i qe qp).1 rt (own_add (0 + 1 + 1) S md i qe qp).2.1
set_option maxRecDepth 65536 in
set_option maxHeartbeats 40000000 in
theorem rm5_2 (l : Launch) (Z : State) (a0 : Array Value) (hw : ∀ d ∈ tables_1, d.before a0 Z = true) (ws : List Jvm.Cond) (aa : Addr) (ae : Addr) (ap : Addr) (aS : Addr) (ah : Addr) (al : Addr) (ar : Addr) (S : own_S) (rt : Nat) (md : Nat) (i : Nat) (B : Nat) (qe : Int64) (qp : Int64) (h0 : Heap) (n0 : Nat) (Z0 : n0 ≤ h0.size) (g_aa : n0 ≤ aa) (g_ae : n0 ≤ ae) (g_ap : n0 ≤ ap) (g_aS : n0 ≤ aS) (g_ah : n0 ≤ ah) (g_al : n0 ≤ al) (g_ar : n0 ≤ ar) (hD : own_D aa ae ap aS ah al ar) (hTR : TR Z h0 aa ae ap aS ah al ar S rt md) (hi : i < 16) (hok : own_ok B S) (hB : B + 5 * (0 + 1 + 1) + 5 < 1000000) (hmd : md < 16) (hdeep : own_deep (0 + 1 + 1) S i) :
    MetFree l (⟨"com/example/berthline/berthline/engine/replay/EstimatedEnds", "add", "(IJJ)I"⟩ : MethodName) (head1 (Jvm.Cond.code (⟨"com/example/berthline/berthline/engine/replay/EstimatedEnds", "add", "(IJJ)I"⟩ : MethodName) prog_107_method_7_code 7 (some .int) :: ws) ({ frames := 5, cells := 0, slots := 0, locals := 83 } : Room)) (fun a U => a = #[(.ref aa), (.int (Int32.ofNat i)), (.long qe), (.long qp)] ∧ Z.Warmed39 U.vm ∧ U.heap = h0) (fun _ _ _ _ _ => True) (fun _ U o U' => ∃ v L, o = .returned v ∧ Q5_2 Z aa ae ap aS ah al ar S rt md i B qe qp h0 n0 v U'.heap L ∧ FrameEnd U o U' L ({ frames := 5, cells := 0, slots := 0, locals := 83 } : Room).cells ({ frames := 5, cells := 0, slots := 0, locals := 83 } : Room).slots) := by
  refine MetFree.of_bodySF (plainFor_of_name pn_com_example_berthline_berthline_engine_replay_EstimatedEnds) hisR ?_
  intro p e s m args below meth c s₁ Bd hml0 hP hK
  obtain ⟨rfl, hZ, hh⟩ := hP
  have hx := Bd.exec
  have hby := Bd.bytes
  have hml : c.maxLocals = 7 := hml0
  have hown : s.vm.findClass "com/example/berthline/berthline/engine/replay/EstimatedEnds" = some m.cls := findClass_of_methodNamed Bd.named
  have hnm := (name_of_methodNamed Bd.named Bd.method).1
  have X0 : Stand p l e ({ frames := 5, cells := 0, slots := 0, locals := 83 } : Room) s m #[(.ref aa), (.int (Int32.ofNat i)), (.long qe), (.long qp)] below meth c s₁ [] 0 0 := Stand.of_body Bd
  have e0 : s₁.heap = h0 := by rw [← hh, Bd.state]; rfl
  have N0 := Fr.nil n0
  have pre0 : ∀ t, Steps p.tables e below (s₁.setTop (mkF m 0 #[.val (.ref aa), .val (.int (Int32.ofNat i)), .val (.long qe), .second, .val (.long qp), .second, .unset] [])) t → Steps p.tables e below (s₁.setTop (entryFrame m #[(.ref aa), (.int (Int32.ofNat i)), (.long qe), (.long qp)] 7)) t := fun t k => castTop (ef_5_2 m aa qe qp) k
  obtain ⟨dd648_0, dd648_1, dd648_2, dd648_3, dd648_4, dd648_5, dd648_6, dd648_7, dd648_8, dd648_9, dd648_10, dd648_11, dd648_12, dd648_13, dd648_14, dd648_15, dd648_16, dd648_17, dd648_18, dd648_19, dd648_20⟩ := id hD
  obtain ⟨t649_0, t649_1, t649_2, t649_3, t649_4, t649_5, t649_6, t649_7, t649_8, t649_9, t649_10, t649_11, t649_12, t649_13, t649_14, t649_15⟩ := hTR
  by_cases hc650 : (Int32.ofNat i) = (0 : Int32)
  · obtain ⟨cq651, q651, q651'⟩ := t649_0.cell
    obtain ⟨_, _, ⟨T651, L651, k651, n651⟩, -, X651, ⟨Lc651, hQ651, l651, y651, z651⟩, st651⟩ := X0.privateBack hx (y := (⟨"com/example/berthline/berthline/engine/replay/EstimatedEnds", "make", "(JJ)I"⟩ : MethodName)) hown (mvT hZ (hw _ (List.mem_of_getElem? (i := 43) rfl))) (mvT hZ (hw _ (List.mem_of_getElem? (i := 44) rfl))) (own_selects hZ (hw _ (List.mem_of_getElem? (i := 1) rfl)) (hw _ (List.mem_of_getElem? (i := 45) rfl)) (hw _ (List.mem_of_getElem? (i := 44) rfl)) (by decide)) (Cond.privateMethod_at (mvP hZ (hw _ (List.mem_of_getElem? (i := 45) rfl)) (args := #[]))) (mvT hZ (hw _ (List.mem_of_getElem? (i := 46) rfl))) (by decide) (backOf (W := 0) (rm6 l Z a0 hw [] aa ae ap aS ah al ar S rt md qe qp h0 n0 Z0 g_aa g_ae g_ap g_aS g_ah g_al g_ar hD (TR.mk (S := S) t649_0 t649_1 t649_2 t649_3 t649_4 t649_5 t649_6 t649_7 t649_8 t649_9 t649_10 t649_11 t649_12 t649_13 t649_14 t649_15) hmd) hZ (hw _ (List.mem_of_getElem? (i := 46) rfl)) (hw _ (List.mem_of_getElem? (i := 2) rfl)) (by decide) (by decide)) (g := (mkF m 8 #[.val (.ref aa), .val (.int (Int32.ofNat i)), .val (.long qe), .second, .val (.long qp), .second, .unset] [(.long qp), (.long qe), (.ref aa)])) rfl (by rw [hml]; rfl) (Steps.refl _) (a := aa) (by rw [e0]; exact q651) q651' (argsL := [(.long qe), (.long qp)]) (rest := []) (lenOf pd_711708 rfl) rfl (by show 2 * 0 + _ ≤ _; exact Nat.le_of_eq rfl) (hb hby d5_2_8) (fun _ _ => ⟨rfl, e0, (by decide : 0 + 0 ≤ _), (by decide : 0 + 0 ≤ _)⟩)
    dsimp only [Pt.U, Pt.locs, Pt.cells, Pt.slots] at X651 l651 y651 z651 st651 hQ651
    subst l651 y651 z651
    obtain ⟨rfl, N651q, K651c, G651_0⟩ := hQ651
    have N651 := Fr.app N0 N651q
    have E_652 := t649_0.keep K651c
    have Z651 : n0 ≤ T651.heap.size := Nat.le_trans Z0 K651c.1
    have K651 : Keep h0 T651.heap [aa, ae, ap, aS, ah, al, ar] := (Keep.refl h0 [aa, ae, ap, aS, ah, al, ar]).trans K651c (allS (P := fun x => x ∈ [aa, ae, ap, aS, ah, al, ar] ∨ h0.size ≤ x) (Or.inl (List.mem_of_getElem? (i := 0) rfl)) (allS (P := fun x => x ∈ [aa, ae, ap, aS, ah, al, ar] ∨ h0.size ≤ x) (Or.inl (List.mem_of_getElem? (i := 1) rfl)) (allS (P := fun x => x ∈ [aa, ae, ap, aS, ah, al, ar] ∨ h0.size ≤ x) (Or.inl (List.mem_of_getElem? (i := 2) rfl)) (allS (P := fun x => x ∈ [aa, ae, ap, aS, ah, al, ar] ∨ h0.size ≤ x) (Or.inl (List.mem_of_getElem? (i := 3) rfl)) (allS (P := fun x => x ∈ [aa, ae, ap, aS, ah, al, ar] ∨ h0.size ≤ x) (Or.inl (List.mem_of_getElem? (i := 4) rfl)) (allS (P := fun x => x ∈ [aa, ae, ap, aS, ah, al, ar] ∨ h0.size ≤ x) (Or.inl (List.mem_of_getElem? (i := 5) rfl)) (allS (P := fun x => x ∈ [aa, ae, ap, aS, ah, al, ar] ∨ h0.size ≤ x) (Or.inl (List.mem_of_getElem? (i := 6) rfl)) all0)))))))
    obtain ⟨t653_0, t653_1, t653_2, t653_3, t653_4, t653_5, t653_6, t653_7, t653_8, t653_9, t653_10, t653_11, t653_12, t653_13, t653_14, t653_15⟩ := G651_0
    have hbq := own_add_nil (0 + 1) (S := S) (md := md) qe qp ((own_z hi).mp hc650)
    obtain ⟨fs, hr, hrun, hended, hW, hsame⟩ := X651.leave (v := some (.int (Int32.ofNat md))) (fun h => by rw [Bd.returns] at h; cases h)
    refine ⟨_, _, pre0 _ ?_, hrun, hended, _, _, rfl, ?_, ⟨_, rfl⟩, hW, hsame.mono (by decide) (by decide)⟩
    · show Steps p.tables e below (s₁.setTop (mkF m 0 #[.val (.ref aa), .val (.int (Int32.ofNat i)), .val (.long qe), .second, .val (.long qp), .second, .unset] [])) _
      refine XS.iloadN X0.here hx rfl (hb hby d5_2_0) rfl ?_
      show Steps p.tables e below (s₁.setTop (mkF m 1 #[.val (.ref aa), .val (.int (Int32.ofNat i)), .val (.long qe), .second, .val (.long qp), .second, .unset] [(.int (Int32.ofNat i))])) _
      refine XS.ifNo X0.here hx rfl (hb hby d5_2_1) rfl ((if0 _ _).trans (teq hc650).2) ?_
      show Steps p.tables e below (s₁.setTop (mkF m 4 #[.val (.ref aa), .val (.int (Int32.ofNat i)), .val (.long qe), .second, .val (.long qp), .second, .unset] [])) _
      refine XS.aloadN X0.here hx rfl (hb hby d5_2_4) rfl rfl ?_
      show Steps p.tables e below (s₁.setTop (mkF m 5 #[.val (.ref aa), .val (.int (Int32.ofNat i)), .val (.long qe), .second, .val (.long qp), .second, .unset] [(.ref aa)])) _
      refine XS.lloadN X0.here hx rfl (hb hby d5_2_5) rfl ?_
      show Steps p.tables e below (s₁.setTop (mkF m 6 #[.val (.ref aa), .val (.int (Int32.ofNat i)), .val (.long qe), .second, .val (.long qp), .second, .unset] [(.long qe), (.ref aa)])) _
      refine XS.lload X0.here hx rfl (hb hby d5_2_6) rfl ?_
      show Steps p.tables e below (s₁.setTop (mkF m 8 #[.val (.ref aa), .val (.int (Int32.ofNat i)), .val (.long qe), .second, .val (.long qp), .second, .unset] [(.long qp), (.long qe), (.ref aa)])) _
      refine st651.trans ?_
      show Steps p.tables e below (T651.setTop (mkF m 11 #[.val (.ref aa), .val (.int (Int32.ofNat i)), .val (.long qe), .second, .val (.long qp), .second, .unset] [(.int (Int32.ofNat md))])) _
      refine XS.istore X651.here hx rfl (hb hby d5_2_11) rfl (l' := #[.val (.ref aa), .val (.int (Int32.ofNat i)), .val (.long qe), .second, .val (.long qp), .second, .val (.int (Int32.ofNat md))]) rfl ?_
      show Steps p.tables e below (T651.setTop (mkF m 13 #[.val (.ref aa), .val (.int (Int32.ofNat i)), .val (.long qe), .second, .val (.long qp), .second, .val (.int (Int32.ofNat md))] [])) _
      refine XS.goto X651.here hx rfl (pc0 := 13) (pc' := 100) rfl (hb hby d5_2_13) (by decide) (by decide) ?_
      show Steps p.tables e below (T651.setTop (mkF m 100 #[.val (.ref aa), .val (.int (Int32.ofNat i)), .val (.long qe), .second, .val (.long qp), .second, .val (.int (Int32.ofNat md))] [])) _
      refine XS.iload X651.here hx rfl (hb hby d5_2_100) rfl ?_
      show Steps p.tables e below (T651.setTop (mkF m 102 #[.val (.ref aa), .val (.int (Int32.ofNat i)), .val (.long qe), .second, .val (.long qp), .second, .val (.int (Int32.ofNat md))] [(.int (Int32.ofNat md))])) _
      exact retI X651 hx Bd.returns (hb hby d5_2_102) hr
    · show Q5_2 Z aa ae ap aS ah al ar S rt md i B qe qp h0 n0 _ T651.heap _
      unfold Q5_2
      rw [hbq]
      exact ⟨rfl, N651, K651, (TR.mk (S := (own_make S md qe qp)) t653_0 t653_1 t653_2 t653_3 t653_4 t653_5 t653_6 t653_7 t653_8 t653_9 t653_10 t653_11 t653_12 t653_13 t653_14 t653_15)⟩
  · have hz : ¬ i = 0 := fun q => hc650 ((own_z hi).mpr q)
    obtain ⟨T654, X654, e654, st654⟩ := getF X0 hx hZ hown (host := "") (Or.inl (hw _ (List.mem_of_getElem? (i := 10) rfl))) Via.refl e0 t649_1 (g := (mkF m 18 #[.val (.ref aa), .val (.int (Int32.ofNat i)), .val (.long qe), .second, .val (.long qp), .second, .unset] [(.ref aa), (.long qe)])) rfl rfl (hb hby d5_2_18)
    by_cases hc655 : (lcmpW qe ((own_e S) i)) < (0 : Int32)
    · have hlt : qe < own_e S i := (lw_lt _ _).mp hc655
      obtain ⟨T656, X656, e656, st656⟩ := getF X654 hx hZ hown (host := "") (Or.inl (hw _ (List.mem_of_getElem? (i := 19) rfl))) Via.refl e654 t649_5 (g := (mkF m 28 #[.val (.ref aa), .val (.int (Int32.ofNat i)), .val (.long qe), .second, .val (.long qp), .second, .unset] [(.ref aa)])) rfl rfl (hb hby d5_2_28)
      obtain ⟨T657, X657, e657, st657⟩ := getF X656 hx hZ hown (host := "") (Or.inl (hw _ (List.mem_of_getElem? (i := 19) rfl))) Via.refl e656 t649_5 (g := (mkF m 34 #[.val (.ref aa), .val (.int (Int32.ofNat i)), .val (.long qe), .second, .val (.long qp), .second, .unset] [(.ref aa), (.ref aa), (.int (Int32.ofNat i)), (.ref al)])) rfl rfl (hb hby d5_2_34)
      obtain ⟨cq658, q658, q658'⟩ := t649_0.cell
      obtain ⟨_, _, ⟨T658, L658, k658, n658⟩, -, X658, ⟨Lc658, hQ658, l658, y658, z658⟩, st658⟩ := X657.privateBack hx (y := (⟨"com/example/berthline/berthline/engine/replay/EstimatedEnds", "add", "(IJJ)I"⟩ : MethodName)) hown (mvT hZ (hw _ (List.mem_of_getElem? (i := 39) rfl))) (mvT hZ (hw _ (List.mem_of_getElem? (i := 40) rfl))) (own_selects hZ (hw _ (List.mem_of_getElem? (i := 1) rfl)) (hw _ (List.mem_of_getElem? (i := 41) rfl)) (hw _ (List.mem_of_getElem? (i := 40) rfl)) (by decide)) (Cond.privateMethod_at (mvP hZ (hw _ (List.mem_of_getElem? (i := 41) rfl)) (args := #[]))) (mvT hZ (hw _ (List.mem_of_getElem? (i := 42) rfl))) (by decide) (backOf (W := 2) (rm5_1 l Z a0 hw [] aa ae ap aS ah al ar S rt md ((own_l S) i) B qe qp h0 n0 Z0 g_aa g_ae g_ap g_aS g_ah g_al g_ar hD (TR.mk (S := S) t649_0 t649_1 t649_2 t649_3 t649_4 t649_5 t649_6 t649_7 t649_8 t649_9 t649_10 t649_11 t649_12 t649_13 t649_14 t649_15) (hok.1 _) hok (by omega) hmd (own_deep_l hdeep hz)) hZ (hw _ (List.mem_of_getElem? (i := 42) rfl)) (hw _ (List.mem_of_getElem? (i := 2) rfl)) (by decide) (by decide)) (g := (mkF m 42 #[.val (.ref aa), .val (.int (Int32.ofNat i)), .val (.long qe), .second, .val (.long qp), .second, .unset] [(.long qp), (.long qe), (.int (Int32.ofNat ((own_l S) i))), (.ref aa), (.int (Int32.ofNat i)), (.ref al)])) rfl (by rw [hml]; rfl) (Steps.refl _) (a := aa) (by rw [e657]; exact q658) q658' (argsL := [(.int (Int32.ofNat ((own_l S) i))), (.long qe), (.long qp)]) (rest := [(.int (Int32.ofNat i)), (.ref al)]) (lenOf pd_63945 rfl) rfl (by show 2 * 0 + _ ≤ _; exact Nat.le_of_eq rfl) (hb hby d5_2_42) (fun _ _ => ⟨rfl, e657, (by decide : 0 + 0 ≤ _), (by decide : 0 + 0 ≤ _)⟩)
      dsimp only [Pt.U, Pt.locs, Pt.cells, Pt.slots] at X658 l658 y658 z658 st658 hQ658
      subst l658 y658 z658
      obtain ⟨rfl, N658q, K658c, G658_0⟩ := hQ658
      have N658 := Fr.app N0 N658q
      have E_659 := t649_0.keep K658c
      have Z658 : n0 ≤ T658.heap.size := Nat.le_trans Z0 K658c.1
      have K658 : Keep h0 T658.heap [aa, ae, ap, aS, ah, al, ar] := (Keep.refl h0 [aa, ae, ap, aS, ah, al, ar]).trans K658c (allS (P := fun x => x ∈ [aa, ae, ap, aS, ah, al, ar] ∨ h0.size ≤ x) (Or.inl (List.mem_of_getElem? (i := 0) rfl)) (allS (P := fun x => x ∈ [aa, ae, ap, aS, ah, al, ar] ∨ h0.size ≤ x) (Or.inl (List.mem_of_getElem? (i := 1) rfl)) (allS (P := fun x => x ∈ [aa, ae, ap, aS, ah, al, ar] ∨ h0.size ≤ x) (Or.inl (List.mem_of_getElem? (i := 2) rfl)) (allS (P := fun x => x ∈ [aa, ae, ap, aS, ah, al, ar] ∨ h0.size ≤ x) (Or.inl (List.mem_of_getElem? (i := 3) rfl)) (allS (P := fun x => x ∈ [aa, ae, ap, aS, ah, al, ar] ∨ h0.size ≤ x) (Or.inl (List.mem_of_getElem? (i := 4) rfl)) (allS (P := fun x => x ∈ [aa, ae, ap, aS, ah, al, ar] ∨ h0.size ≤ x) (Or.inl (List.mem_of_getElem? (i := 5) rfl)) (allS (P := fun x => x ∈ [aa, ae, ap, aS, ah, al, ar] ∨ h0.size ≤ x) (Or.inl (List.mem_of_getElem? (i := 6) rfl)) all0)))))))
      obtain ⟨t660_0, t660_1, t660_2, t660_3, t660_4, t660_5, t660_6, t660_7, t660_8, t660_9, t660_10, t660_11, t660_12, t660_13, t660_14, t660_15⟩ := G658_0
      have hokR := (own_ok_add (0 + 1) hok (hok.1 i) hmd qe qp)
      obtain ⟨R, hR⟩ : ∃ z, z = (own_add (0 + 1) S md ((own_l S) i) qe qp) := ⟨_, rfl⟩
      rw [← hR] at t660_8 t660_10 t660_11 t660_12 t660_13 t660_14 t660_15 hokR
      obtain ⟨T661, h661, X661, e661, W661, V661, st661⟩ := IA.store X658 hx hZ rfl t660_14 i (own_cl hi (by decide)) (own_nn hi (by decide)) hi (x := R.2.2) (g := (mkF m 45 #[.val (.ref aa), .val (.int (Int32.ofNat i)), .val (.long qe), .second, .val (.long qp), .second, .unset] [(.int (Int32.ofNat R.2.2)), (.int (Int32.ofNat i)), (.ref al)])) rfl rfl (hb hby d5_2_45)
      have E_662 := t660_0.wr W661
      have F_663 := t660_1.other W661 (Or.inl dd648_4)
      have F_664 := t660_2.other W661 (Or.inl dd648_4)
      have F_665 := t660_3.other W661 (Or.inl dd648_4)
      have F_666 := t660_4.other W661 (Or.inl dd648_4)
      have F_667 := t660_5.other W661 (Or.inl dd648_4)
      have F_668 := t660_6.other W661 (Or.inl dd648_4)
      have F_669 := t660_7.other W661 (Or.inl dd648_4)
      have F_670 := t660_8.other W661 (Or.inl dd648_4)
      have F_671 := t660_9.other W661 (Or.inl dd648_4)
      have V_672 := t660_10.other W661 dd648_9
      have V_673 := t660_11.other W661 dd648_13
      have V_674 := t660_12.other W661 dd648_16
      have V_675 := t660_13.other W661 dd648_18
      have V_676 := t660_15.other W661 (Ne.symm dd648_20)
      have N661 := Fr.snoc X661 N658 g_al
      have Z661 : n0 ≤ h661.size := Nat.le_trans Z658 (Keep.of_wr W661).1
      have K661 : Keep h0 h661 [aa, ae, ap, aS, ah, al, ar] := K658.wr W661 (Or.inl (List.mem_of_getElem? (i := 5) rfl))
      obtain ⟨cq677, q677, q677'⟩ := E_662.cell
      obtain ⟨_, _, ⟨T677, L677, k677, n677⟩, -, X677, ⟨Lc677, hQ677, l677, y677, z677⟩, st677⟩ := X661.privateBack hx (y := (⟨"com/example/berthline/berthline/engine/replay/EstimatedEnds", "balance", "(I)I"⟩ : MethodName)) hown (mvT hZ (hw _ (List.mem_of_getElem? (i := 47) rfl))) (mvT hZ (hw _ (List.mem_of_getElem? (i := 48) rfl))) (own_selects hZ (hw _ (List.mem_of_getElem? (i := 1) rfl)) (hw _ (List.mem_of_getElem? (i := 49) rfl)) (hw _ (List.mem_of_getElem? (i := 48) rfl)) (by decide)) (Cond.privateMethod_at (mvP hZ (hw _ (List.mem_of_getElem? (i := 49) rfl)) (args := #[]))) (mvT hZ (hw _ (List.mem_of_getElem? (i := 50) rfl))) (by decide) (backOf (W := 0) (rm7 l Z a0 hw [] aa ae ap aS ah al ar (own_setL R.1 i R.2.2) rt R.2.1 i (B + 5 * (0 + 1)) h661 n0 Z661 g_aa g_ae g_ap g_aS g_ah g_al g_ar hD (TR.mk (S := (own_setL R.1 i R.2.2)) E_662 F_663 F_664 F_665 F_666 F_667 F_668 F_669 F_670 F_671 V_672 V_673 V_674 V_675 V661 V_676) hi (own_ok_setL hokR.1 hokR.2) (by omega)) hZ (hw _ (List.mem_of_getElem? (i := 50) rfl)) (hw _ (List.mem_of_getElem? (i := 2) rfl)) (by decide) (by decide)) (g := (mkF m 95 #[.val (.ref aa), .val (.int (Int32.ofNat i)), .val (.long qe), .second, .val (.long qp), .second, .unset] [(.int (Int32.ofNat i)), (.ref aa)])) rfl (by rw [hml]; rfl) (Steps.refl _) (a := aa) (by rw [e661]; exact q677) q677' (argsL := [(.int (Int32.ofNat i))]) (rest := []) (lenOf pd_216441 rfl) rfl (by show 2 * 0 + _ ≤ _; exact Nat.le_of_eq rfl) (hb hby d5_2_95) (fun _ _ => ⟨rfl, e661, (by decide : 0 + 0 ≤ _), (by decide : 0 + 0 ≤ _)⟩)
      dsimp only [Pt.U, Pt.locs, Pt.cells, Pt.slots] at X677 l677 y677 z677 st677 hQ677
      subst l677 y677 z677
      obtain ⟨rfl, N677q, K677c, G677_0⟩ := hQ677
      have N677 := Fr.app N661 N677q
      have E_678 := E_662.keep K677c
      have Z677 : n0 ≤ T677.heap.size := Nat.le_trans Z661 K677c.1
      have K677 : Keep h0 T677.heap [aa, ae, ap, aS, ah, al, ar] := K661.trans K677c (allS (P := fun x => x ∈ [aa, ae, ap, aS, ah, al, ar] ∨ h0.size ≤ x) (Or.inl (List.mem_of_getElem? (i := 0) rfl)) (allS (P := fun x => x ∈ [aa, ae, ap, aS, ah, al, ar] ∨ h0.size ≤ x) (Or.inl (List.mem_of_getElem? (i := 1) rfl)) (allS (P := fun x => x ∈ [aa, ae, ap, aS, ah, al, ar] ∨ h0.size ≤ x) (Or.inl (List.mem_of_getElem? (i := 2) rfl)) (allS (P := fun x => x ∈ [aa, ae, ap, aS, ah, al, ar] ∨ h0.size ≤ x) (Or.inl (List.mem_of_getElem? (i := 3) rfl)) (allS (P := fun x => x ∈ [aa, ae, ap, aS, ah, al, ar] ∨ h0.size ≤ x) (Or.inl (List.mem_of_getElem? (i := 4) rfl)) (allS (P := fun x => x ∈ [aa, ae, ap, aS, ah, al, ar] ∨ h0.size ≤ x) (Or.inl (List.mem_of_getElem? (i := 5) rfl)) (allS (P := fun x => x ∈ [aa, ae, ap, aS, ah, al, ar] ∨ h0.size ≤ x) (Or.inl (List.mem_of_getElem? (i := 6) rfl)) all0)))))))
      obtain ⟨t679_0, t679_1, t679_2, t679_3, t679_4, t679_5, t679_6, t679_7, t679_8, t679_9, t679_10, t679_11, t679_12, t679_13, t679_14, t679_15⟩ := G677_0
      have hbq := own_add_lt (0 + 1) (md := md) (p := qp) hz hlt
      rw [← hR] at hbq
      obtain ⟨fs, hr, hrun, hended, hW, hsame⟩ := X677.leave (v := some (.int (Int32.ofNat (own_bal (own_setL R.1 i R.2.2) i).2))) (fun h => by rw [Bd.returns] at h; cases h)
      refine ⟨_, _, pre0 _ ?_, hrun, hended, _, _, rfl, ?_, ⟨_, rfl⟩, hW, hsame.mono (by decide) (by decide)⟩
      · show Steps p.tables e below (s₁.setTop (mkF m 0 #[.val (.ref aa), .val (.int (Int32.ofNat i)), .val (.long qe), .second, .val (.long qp), .second, .unset] [])) _
        refine XS.iloadN X0.here hx rfl (hb hby d5_2_0) rfl ?_
        show Steps p.tables e below (s₁.setTop (mkF m 1 #[.val (.ref aa), .val (.int (Int32.ofNat i)), .val (.long qe), .second, .val (.long qp), .second, .unset] [(.int (Int32.ofNat i))])) _
        refine XS.ifYes X0.here hx rfl (pc0 := 1) (pc' := 16) rfl (hb hby d5_2_1) rfl ((if0 _ _).trans (feq hc650).2) (by decide) (by decide) ?_
        show Steps p.tables e below (s₁.setTop (mkF m 16 #[.val (.ref aa), .val (.int (Int32.ofNat i)), .val (.long qe), .second, .val (.long qp), .second, .unset] [])) _
        refine XS.lloadN X0.here hx rfl (hb hby d5_2_16) rfl ?_
        show Steps p.tables e below (s₁.setTop (mkF m 17 #[.val (.ref aa), .val (.int (Int32.ofNat i)), .val (.long qe), .second, .val (.long qp), .second, .unset] [(.long qe)])) _
        refine XS.aloadN X0.here hx rfl (hb hby d5_2_17) rfl rfl ?_
        show Steps p.tables e below (s₁.setTop (mkF m 18 #[.val (.ref aa), .val (.int (Int32.ofNat i)), .val (.long qe), .second, .val (.long qp), .second, .unset] [(.ref aa), (.long qe)])) _
        refine st654 _ ?_
        show Steps p.tables e below (T654.setTop (mkF m 21 #[.val (.ref aa), .val (.int (Int32.ofNat i)), .val (.long qe), .second, .val (.long qp), .second, .unset] [(.ref ae), (.long qe)])) _
        refine XS.iloadN X654.here hx rfl (hb hby d5_2_21) rfl ?_
        show Steps p.tables e below (T654.setTop (mkF m 22 #[.val (.ref aa), .val (.int (Int32.ofNat i)), .val (.long qe), .second, .val (.long qp), .second, .unset] [(.int (Int32.ofNat i)), (.ref ae), (.long qe)])) _
        refine JA.load X654 hx hZ e654 t649_10 i (own_cl hi (by decide)) (own_nn hi (by decide)) hi (g := (mkF m 22 #[.val (.ref aa), .val (.int (Int32.ofNat i)), .val (.long qe), .second, .val (.long qp), .second, .unset] [(.int (Int32.ofNat i)), (.ref ae), (.long qe)])) rfl rfl (hb hby d5_2_22) _ ?_
        show Steps p.tables e below (T654.setTop (mkF m 23 #[.val (.ref aa), .val (.int (Int32.ofNat i)), .val (.long qe), .second, .val (.long qp), .second, .unset] [(.long ((own_e S) i)), (.long qe)])) _
        refine XS.lcmp X654.here hx rfl (hb hby d5_2_23) rfl ?_
        show Steps p.tables e below (T654.setTop (mkF m 24 #[.val (.ref aa), .val (.int (Int32.ofNat i)), .val (.long qe), .second, .val (.long qp), .second, .unset] [(.int (lcmpW qe ((own_e S) i)))])) _
        refine XS.ifNo X654.here hx rfl (hb hby d5_2_24) rfl ((if0 _ _).trans (tlt hc655).2.1) ?_
        show Steps p.tables e below (T654.setTop (mkF m 27 #[.val (.ref aa), .val (.int (Int32.ofNat i)), .val (.long qe), .second, .val (.long qp), .second, .unset] [])) _
        refine XS.aloadN X654.here hx rfl (hb hby d5_2_27) rfl rfl ?_
        show Steps p.tables e below (T654.setTop (mkF m 28 #[.val (.ref aa), .val (.int (Int32.ofNat i)), .val (.long qe), .second, .val (.long qp), .second, .unset] [(.ref aa)])) _
        refine st656 _ ?_
        show Steps p.tables e below (T656.setTop (mkF m 31 #[.val (.ref aa), .val (.int (Int32.ofNat i)), .val (.long qe), .second, .val (.long qp), .second, .unset] [(.ref al)])) _
        refine XS.iloadN X656.here hx rfl (hb hby d5_2_31) rfl ?_
        show Steps p.tables e below (T656.setTop (mkF m 32 #[.val (.ref aa), .val (.int (Int32.ofNat i)), .val (.long qe), .second, .val (.long qp), .second, .unset] [(.int (Int32.ofNat i)), (.ref al)])) _
        refine XS.aloadN X656.here hx rfl (hb hby d5_2_32) rfl rfl ?_
        show Steps p.tables e below (T656.setTop (mkF m 33 #[.val (.ref aa), .val (.int (Int32.ofNat i)), .val (.long qe), .second, .val (.long qp), .second, .unset] [(.ref aa), (.int (Int32.ofNat i)), (.ref al)])) _
        refine XS.aloadN X656.here hx rfl (hb hby d5_2_33) rfl rfl ?_
        show Steps p.tables e below (T656.setTop (mkF m 34 #[.val (.ref aa), .val (.int (Int32.ofNat i)), .val (.long qe), .second, .val (.long qp), .second, .unset] [(.ref aa), (.ref aa), (.int (Int32.ofNat i)), (.ref al)])) _
        refine st657 _ ?_
        show Steps p.tables e below (T657.setTop (mkF m 37 #[.val (.ref aa), .val (.int (Int32.ofNat i)), .val (.long qe), .second, .val (.long qp), .second, .unset] [(.ref al), (.ref aa), (.int (Int32.ofNat i)), (.ref al)])) _
        refine XS.iloadN X657.here hx rfl (hb hby d5_2_37) rfl ?_
        show Steps p.tables e below (T657.setTop (mkF m 38 #[.val (.ref aa), .val (.int (Int32.ofNat i)), .val (.long qe), .second, .val (.long qp), .second, .unset] [(.int (Int32.ofNat i)), (.ref al), (.ref aa), (.int (Int32.ofNat i)), (.ref al)])) _
        refine IA.load X657 hx hZ e657 t649_14 i (own_cl hi (by decide)) (own_nn hi (by decide)) hi (g := (mkF m 38 #[.val (.ref aa), .val (.int (Int32.ofNat i)), .val (.long qe), .second, .val (.long qp), .second, .unset] [(.int (Int32.ofNat i)), (.ref al), (.ref aa), (.int (Int32.ofNat i)), (.ref al)])) rfl rfl (hb hby d5_2_38) _ ?_
        show Steps p.tables e below (T657.setTop (mkF m 39 #[.val (.ref aa), .val (.int (Int32.ofNat i)), .val (.long qe), .second, .val (.long qp), .second, .unset] [(.int (Int32.ofNat ((own_l S) i))), (.ref aa), (.int (Int32.ofNat i)), (.ref al)])) _
        refine XS.lloadN X657.here hx rfl (hb hby d5_2_39) rfl ?_
        show Steps p.tables e below (T657.setTop (mkF m 40 #[.val (.ref aa), .val (.int (Int32.ofNat i)), .val (.long qe), .second, .val (.long qp), .second, .unset] [(.long qe), (.int (Int32.ofNat ((own_l S) i))), (.ref aa), (.int (Int32.ofNat i)), (.ref al)])) _
        refine XS.lload X657.here hx rfl (hb hby d5_2_40) rfl ?_
        show Steps p.tables e below (T657.setTop (mkF m 42 #[.val (.ref aa), .val (.int (Int32.ofNat i)), .val (.long qe), .second, .val (.long qp), .second, .unset] [(.long qp), (.long qe), (.int (Int32.ofNat ((own_l S) i))), (.ref aa), (.int (Int32.ofNat i)), (.ref al)])) _
        refine st658.trans ?_
        show Steps p.tables e below (T658.setTop (mkF m 45 #[.val (.ref aa), .val (.int (Int32.ofNat i)), .val (.long qe), .second, .val (.long qp), .second, .unset] [(.int (Int32.ofNat (own_add (0 + 1) S md ((own_l S) i) qe qp).2.2)), (.int (Int32.ofNat i)), (.ref al)])) _
        refine castTop (g' := (mkF m 45 #[.val (.ref aa), .val (.int (Int32.ofNat i)), .val (.long qe), .second, .val (.long qp), .second, .unset] [(.int (Int32.ofNat R.2.2)), (.int (Int32.ofNat i)), (.ref al)])) (by rw [hR]) ?_
        show Steps p.tables e below (T658.setTop (mkF m 45 #[.val (.ref aa), .val (.int (Int32.ofNat i)), .val (.long qe), .second, .val (.long qp), .second, .unset] [(.int (Int32.ofNat R.2.2)), (.int (Int32.ofNat i)), (.ref al)])) _
        refine st661 _ ?_
        show Steps p.tables e below (T661.setTop (mkF m 46 #[.val (.ref aa), .val (.int (Int32.ofNat i)), .val (.long qe), .second, .val (.long qp), .second, .unset] [])) _
        refine XS.goto X661.here hx rfl (pc0 := 46) (pc' := 93) rfl (hb hby d5_2_46) (by decide) (by decide) ?_
        show Steps p.tables e below (T661.setTop (mkF m 93 #[.val (.ref aa), .val (.int (Int32.ofNat i)), .val (.long qe), .second, .val (.long qp), .second, .unset] [])) _
        refine XS.aloadN X661.here hx rfl (hb hby d5_2_93) rfl rfl ?_
        show Steps p.tables e below (T661.setTop (mkF m 94 #[.val (.ref aa), .val (.int (Int32.ofNat i)), .val (.long qe), .second, .val (.long qp), .second, .unset] [(.ref aa)])) _
        refine XS.iloadN X661.here hx rfl (hb hby d5_2_94) rfl ?_
        show Steps p.tables e below (T661.setTop (mkF m 95 #[.val (.ref aa), .val (.int (Int32.ofNat i)), .val (.long qe), .second, .val (.long qp), .second, .unset] [(.int (Int32.ofNat i)), (.ref aa)])) _
        refine st677.trans ?_
        show Steps p.tables e below (T677.setTop (mkF m 98 #[.val (.ref aa), .val (.int (Int32.ofNat i)), .val (.long qe), .second, .val (.long qp), .second, .unset] [(.int (Int32.ofNat (own_bal (own_setL R.1 i R.2.2) i).2))])) _
        refine XS.istore X677.here hx rfl (hb hby d5_2_98) rfl (l' := #[.val (.ref aa), .val (.int (Int32.ofNat i)), .val (.long qe), .second, .val (.long qp), .second, .val (.int (Int32.ofNat (own_bal (own_setL R.1 i R.2.2) i).2))]) rfl ?_
        show Steps p.tables e below (T677.setTop (mkF m 100 #[.val (.ref aa), .val (.int (Int32.ofNat i)), .val (.long qe), .second, .val (.long qp), .second, .val (.int (Int32.ofNat (own_bal (own_setL R.1 i R.2.2) i).2))] [])) _
        refine XS.iload X677.here hx rfl (hb hby d5_2_100) rfl ?_
        show Steps p.tables e below (T677.setTop (mkF m 102 #[.val (.ref aa), .val (.int (Int32.ofNat i)), .val (.long qe), .second, .val (.long qp), .second, .val (.int (Int32.ofNat (own_bal (own_setL R.1 i R.2.2) i).2))] [(.int (Int32.ofNat (own_bal (own_setL R.1 i R.2.2) i).2))])) _
        exact retI X677 hx Bd.returns (hb hby d5_2_102) hr
      · show Q5_2 Z aa ae ap aS ah al ar S rt md i B qe qp h0 n0 _ T677.heap _
        unfold Q5_2
        rw [hbq]
        exact ⟨rfl, N677, K677, (TR.mk (S := (own_bal (own_setL R.1 i R.2.2) i).1) t679_0 t679_1 t679_2 t679_3 t679_4 t679_5 t679_6 t679_7 t679_8 t679_9 t679_10 t679_11 t679_12 t679_13 t679_14 t679_15)⟩
    · obtain ⟨T680, X680, e680, st680⟩ := getF X654 hx hZ hown (host := "") (Or.inl (hw _ (List.mem_of_getElem? (i := 10) rfl))) Via.refl e654 t649_1 (g := (mkF m 51 #[.val (.ref aa), .val (.int (Int32.ofNat i)), .val (.long qe), .second, .val (.long qp), .second, .unset] [(.ref aa), (.long qe)])) rfl rfl (hb hby d5_2_51)
      by_cases hc681 : (0 : Int32) < (lcmpW qe ((own_e S) i))
      · have hnl : ¬ qe < own_e S i := fun q => hc655 ((lw_lt _ _).mpr q)
        have hgt : own_e S i < qe := (lw_gt _ _).mp hc681
        obtain ⟨T682, X682, e682, st682⟩ := getF X680 hx hZ hown (host := "") (Or.inl (hw _ (List.mem_of_getElem? (i := 21) rfl))) Via.refl e680 t649_6 (g := (mkF m 61 #[.val (.ref aa), .val (.int (Int32.ofNat i)), .val (.long qe), .second, .val (.long qp), .second, .unset] [(.ref aa)])) rfl rfl (hb hby d5_2_61)
        obtain ⟨T683, X683, e683, st683⟩ := getF X682 hx hZ hown (host := "") (Or.inl (hw _ (List.mem_of_getElem? (i := 21) rfl))) Via.refl e682 t649_6 (g := (mkF m 67 #[.val (.ref aa), .val (.int (Int32.ofNat i)), .val (.long qe), .second, .val (.long qp), .second, .unset] [(.ref aa), (.ref aa), (.int (Int32.ofNat i)), (.ref ar)])) rfl rfl (hb hby d5_2_67)
        obtain ⟨cq684, q684, q684'⟩ := t649_0.cell
        obtain ⟨_, _, ⟨T684, L684, k684, n684⟩, -, X684, ⟨Lc684, hQ684, l684, y684, z684⟩, st684⟩ := X683.privateBack hx (y := (⟨"com/example/berthline/berthline/engine/replay/EstimatedEnds", "add", "(IJJ)I"⟩ : MethodName)) hown (mvT hZ (hw _ (List.mem_of_getElem? (i := 39) rfl))) (mvT hZ (hw _ (List.mem_of_getElem? (i := 40) rfl))) (own_selects hZ (hw _ (List.mem_of_getElem? (i := 1) rfl)) (hw _ (List.mem_of_getElem? (i := 41) rfl)) (hw _ (List.mem_of_getElem? (i := 40) rfl)) (by decide)) (Cond.privateMethod_at (mvP hZ (hw _ (List.mem_of_getElem? (i := 41) rfl)) (args := #[]))) (mvT hZ (hw _ (List.mem_of_getElem? (i := 42) rfl))) (by decide) (backOf (W := 2) (rm5_1 l Z a0 hw [] aa ae ap aS ah al ar S rt md ((own_r S) i) B qe qp h0 n0 Z0 g_aa g_ae g_ap g_aS g_ah g_al g_ar hD (TR.mk (S := S) t649_0 t649_1 t649_2 t649_3 t649_4 t649_5 t649_6 t649_7 t649_8 t649_9 t649_10 t649_11 t649_12 t649_13 t649_14 t649_15) (hok.2.1 _) hok (by omega) hmd (own_deep_r hdeep hz)) hZ (hw _ (List.mem_of_getElem? (i := 42) rfl)) (hw _ (List.mem_of_getElem? (i := 2) rfl)) (by decide) (by decide)) (g := (mkF m 75 #[.val (.ref aa), .val (.int (Int32.ofNat i)), .val (.long qe), .second, .val (.long qp), .second, .unset] [(.long qp), (.long qe), (.int (Int32.ofNat ((own_r S) i))), (.ref aa), (.int (Int32.ofNat i)), (.ref ar)])) rfl (by rw [hml]; rfl) (Steps.refl _) (a := aa) (by rw [e683]; exact q684) q684' (argsL := [(.int (Int32.ofNat ((own_r S) i))), (.long qe), (.long qp)]) (rest := [(.int (Int32.ofNat i)), (.ref ar)]) (lenOf pd_63945 rfl) rfl (by show 2 * 0 + _ ≤ _; exact Nat.le_of_eq rfl) (hb hby d5_2_75) (fun _ _ => ⟨rfl, e683, (by decide : 0 + 0 ≤ _), (by decide : 0 + 0 ≤ _)⟩)
        dsimp only [Pt.U, Pt.locs, Pt.cells, Pt.slots] at X684 l684 y684 z684 st684 hQ684
        subst l684 y684 z684
        obtain ⟨rfl, N684q, K684c, G684_0⟩ := hQ684
        have N684 := Fr.app N0 N684q
        have E_685 := t649_0.keep K684c
        have Z684 : n0 ≤ T684.heap.size := Nat.le_trans Z0 K684c.1
        have K684 : Keep h0 T684.heap [aa, ae, ap, aS, ah, al, ar] := (Keep.refl h0 [aa, ae, ap, aS, ah, al, ar]).trans K684c (allS (P := fun x => x ∈ [aa, ae, ap, aS, ah, al, ar] ∨ h0.size ≤ x) (Or.inl (List.mem_of_getElem? (i := 0) rfl)) (allS (P := fun x => x ∈ [aa, ae, ap, aS, ah, al, ar] ∨ h0.size ≤ x) (Or.inl (List.mem_of_getElem? (i := 1) rfl)) (allS (P := fun x => x ∈ [aa, ae, ap, aS, ah, al, ar] ∨ h0.size ≤ x) (Or.inl (List.mem_of_getElem? (i := 2) rfl)) (allS (P := fun x => x ∈ [aa, ae, ap, aS, ah, al, ar] ∨ h0.size ≤ x) (Or.inl (List.mem_of_getElem? (i := 3) rfl)) (allS (P := fun x => x ∈ [aa, ae, ap, aS, ah, al, ar] ∨ h0.size ≤ x) (Or.inl (List.mem_of_getElem? (i := 4) rfl)) (allS (P := fun x => x ∈ [aa, ae, ap, aS, ah, al, ar] ∨ h0.size ≤ x) (Or.inl (List.mem_of_getElem? (i := 5) rfl)) (allS (P := fun x => x ∈ [aa, ae, ap, aS, ah, al, ar] ∨ h0.size ≤ x) (Or.inl (List.mem_of_getElem? (i := 6) rfl)) all0)))))))
        obtain ⟨t686_0, t686_1, t686_2, t686_3, t686_4, t686_5, t686_6, t686_7, t686_8, t686_9, t686_10, t686_11, t686_12, t686_13, t686_14, t686_15⟩ := G684_0
        have hokR := (own_ok_add (0 + 1) hok (hok.2.1 i) hmd qe qp)
        obtain ⟨R, hR⟩ : ∃ z, z = (own_add (0 + 1) S md ((own_r S) i) qe qp) := ⟨_, rfl⟩
        rw [← hR] at t686_8 t686_10 t686_11 t686_12 t686_13 t686_14 t686_15 hokR
        obtain ⟨T687, h687, X687, e687, W687, V687, st687⟩ := IA.store X684 hx hZ rfl t686_15 i (own_cl hi (by decide)) (own_nn hi (by decide)) hi (x := R.2.2) (g := (mkF m 78 #[.val (.ref aa), .val (.int (Int32.ofNat i)), .val (.long qe), .second, .val (.long qp), .second, .unset] [(.int (Int32.ofNat R.2.2)), (.int (Int32.ofNat i)), (.ref ar)])) rfl rfl (hb hby d5_2_78)
        have E_688 := t686_0.wr W687
        have F_689 := t686_1.other W687 (Or.inl dd648_5)
        have F_690 := t686_2.other W687 (Or.inl dd648_5)
        have F_691 := t686_3.other W687 (Or.inl dd648_5)
        have F_692 := t686_4.other W687 (Or.inl dd648_5)
        have F_693 := t686_5.other W687 (Or.inl dd648_5)
        have F_694 := t686_6.other W687 (Or.inl dd648_5)
        have F_695 := t686_7.other W687 (Or.inl dd648_5)
        have F_696 := t686_8.other W687 (Or.inl dd648_5)
        have F_697 := t686_9.other W687 (Or.inl dd648_5)
        have V_698 := t686_10.other W687 dd648_10
        have V_699 := t686_11.other W687 dd648_14
        have V_700 := t686_12.other W687 dd648_17
        have V_701 := t686_13.other W687 dd648_19
        have V_702 := t686_14.other W687 dd648_20
        have N687 := Fr.snoc X687 N684 g_ar
        have Z687 : n0 ≤ h687.size := Nat.le_trans Z684 (Keep.of_wr W687).1
        have K687 : Keep h0 h687 [aa, ae, ap, aS, ah, al, ar] := K684.wr W687 (Or.inl (List.mem_of_getElem? (i := 6) rfl))
        obtain ⟨cq703, q703, q703'⟩ := E_688.cell
        obtain ⟨_, _, ⟨T703, L703, k703, n703⟩, -, X703, ⟨Lc703, hQ703, l703, y703, z703⟩, st703⟩ := X687.privateBack hx (y := (⟨"com/example/berthline/berthline/engine/replay/EstimatedEnds", "balance", "(I)I"⟩ : MethodName)) hown (mvT hZ (hw _ (List.mem_of_getElem? (i := 47) rfl))) (mvT hZ (hw _ (List.mem_of_getElem? (i := 48) rfl))) (own_selects hZ (hw _ (List.mem_of_getElem? (i := 1) rfl)) (hw _ (List.mem_of_getElem? (i := 49) rfl)) (hw _ (List.mem_of_getElem? (i := 48) rfl)) (by decide)) (Cond.privateMethod_at (mvP hZ (hw _ (List.mem_of_getElem? (i := 49) rfl)) (args := #[]))) (mvT hZ (hw _ (List.mem_of_getElem? (i := 50) rfl))) (by decide) (backOf (W := 0) (rm7 l Z a0 hw [] aa ae ap aS ah al ar (own_setR R.1 i R.2.2) rt R.2.1 i (B + 5 * (0 + 1)) h687 n0 Z687 g_aa g_ae g_ap g_aS g_ah g_al g_ar hD (TR.mk (S := (own_setR R.1 i R.2.2)) E_688 F_689 F_690 F_691 F_692 F_693 F_694 F_695 F_696 F_697 V_698 V_699 V_700 V_701 V_702 V687) hi (own_ok_setR hokR.1 hokR.2) (by omega)) hZ (hw _ (List.mem_of_getElem? (i := 50) rfl)) (hw _ (List.mem_of_getElem? (i := 2) rfl)) (by decide) (by decide)) (g := (mkF m 95 #[.val (.ref aa), .val (.int (Int32.ofNat i)), .val (.long qe), .second, .val (.long qp), .second, .unset] [(.int (Int32.ofNat i)), (.ref aa)])) rfl (by rw [hml]; rfl) (Steps.refl _) (a := aa) (by rw [e687]; exact q703) q703' (argsL := [(.int (Int32.ofNat i))]) (rest := []) (lenOf pd_216441 rfl) rfl (by show 2 * 0 + _ ≤ _; exact Nat.le_of_eq rfl) (hb hby d5_2_95) (fun _ _ => ⟨rfl, e687, (by decide : 0 + 0 ≤ _), (by decide : 0 + 0 ≤ _)⟩)
        dsimp only [Pt.U, Pt.locs, Pt.cells, Pt.slots] at X703 l703 y703 z703 st703 hQ703
        subst l703 y703 z703
        obtain ⟨rfl, N703q, K703c, G703_0⟩ := hQ703
        have N703 := Fr.app N687 N703q
        have E_704 := E_688.keep K703c
        have Z703 : n0 ≤ T703.heap.size := Nat.le_trans Z687 K703c.1
        have K703 : Keep h0 T703.heap [aa, ae, ap, aS, ah, al, ar] := K687.trans K703c (allS (P := fun x => x ∈ [aa, ae, ap, aS, ah, al, ar] ∨ h0.size ≤ x) (Or.inl (List.mem_of_getElem? (i := 0) rfl)) (allS (P := fun x => x ∈ [aa, ae, ap, aS, ah, al, ar] ∨ h0.size ≤ x) (Or.inl (List.mem_of_getElem? (i := 1) rfl)) (allS (P := fun x => x ∈ [aa, ae, ap, aS, ah, al, ar] ∨ h0.size ≤ x) (Or.inl (List.mem_of_getElem? (i := 2) rfl)) (allS (P := fun x => x ∈ [aa, ae, ap, aS, ah, al, ar] ∨ h0.size ≤ x) (Or.inl (List.mem_of_getElem? (i := 3) rfl)) (allS (P := fun x => x ∈ [aa, ae, ap, aS, ah, al, ar] ∨ h0.size ≤ x) (Or.inl (List.mem_of_getElem? (i := 4) rfl)) (allS (P := fun x => x ∈ [aa, ae, ap, aS, ah, al, ar] ∨ h0.size ≤ x) (Or.inl (List.mem_of_getElem? (i := 5) rfl)) (allS (P := fun x => x ∈ [aa, ae, ap, aS, ah, al, ar] ∨ h0.size ≤ x) (Or.inl (List.mem_of_getElem? (i := 6) rfl)) all0)))))))
        obtain ⟨t705_0, t705_1, t705_2, t705_3, t705_4, t705_5, t705_6, t705_7, t705_8, t705_9, t705_10, t705_11, t705_12, t705_13, t705_14, t705_15⟩ := G703_0
        have hbq := own_add_gt (0 + 1) (md := md) (p := qp) hz hnl hgt
        rw [← hR] at hbq
        obtain ⟨fs, hr, hrun, hended, hW, hsame⟩ := X703.leave (v := some (.int (Int32.ofNat (own_bal (own_setR R.1 i R.2.2) i).2))) (fun h => by rw [Bd.returns] at h; cases h)
        refine ⟨_, _, pre0 _ ?_, hrun, hended, _, _, rfl, ?_, ⟨_, rfl⟩, hW, hsame.mono (by decide) (by decide)⟩
        · show Steps p.tables e below (s₁.setTop (mkF m 0 #[.val (.ref aa), .val (.int (Int32.ofNat i)), .val (.long qe), .second, .val (.long qp), .second, .unset] [])) _
          refine XS.iloadN X0.here hx rfl (hb hby d5_2_0) rfl ?_
          show Steps p.tables e below (s₁.setTop (mkF m 1 #[.val (.ref aa), .val (.int (Int32.ofNat i)), .val (.long qe), .second, .val (.long qp), .second, .unset] [(.int (Int32.ofNat i))])) _
          refine XS.ifYes X0.here hx rfl (pc0 := 1) (pc' := 16) rfl (hb hby d5_2_1) rfl ((if0 _ _).trans (feq hc650).2) (by decide) (by decide) ?_
          show Steps p.tables e below (s₁.setTop (mkF m 16 #[.val (.ref aa), .val (.int (Int32.ofNat i)), .val (.long qe), .second, .val (.long qp), .second, .unset] [])) _
          refine XS.lloadN X0.here hx rfl (hb hby d5_2_16) rfl ?_
          show Steps p.tables e below (s₁.setTop (mkF m 17 #[.val (.ref aa), .val (.int (Int32.ofNat i)), .val (.long qe), .second, .val (.long qp), .second, .unset] [(.long qe)])) _
          refine XS.aloadN X0.here hx rfl (hb hby d5_2_17) rfl rfl ?_
          show Steps p.tables e below (s₁.setTop (mkF m 18 #[.val (.ref aa), .val (.int (Int32.ofNat i)), .val (.long qe), .second, .val (.long qp), .second, .unset] [(.ref aa), (.long qe)])) _
          refine st654 _ ?_
          show Steps p.tables e below (T654.setTop (mkF m 21 #[.val (.ref aa), .val (.int (Int32.ofNat i)), .val (.long qe), .second, .val (.long qp), .second, .unset] [(.ref ae), (.long qe)])) _
          refine XS.iloadN X654.here hx rfl (hb hby d5_2_21) rfl ?_
          show Steps p.tables e below (T654.setTop (mkF m 22 #[.val (.ref aa), .val (.int (Int32.ofNat i)), .val (.long qe), .second, .val (.long qp), .second, .unset] [(.int (Int32.ofNat i)), (.ref ae), (.long qe)])) _
          refine JA.load X654 hx hZ e654 t649_10 i (own_cl hi (by decide)) (own_nn hi (by decide)) hi (g := (mkF m 22 #[.val (.ref aa), .val (.int (Int32.ofNat i)), .val (.long qe), .second, .val (.long qp), .second, .unset] [(.int (Int32.ofNat i)), (.ref ae), (.long qe)])) rfl rfl (hb hby d5_2_22) _ ?_
          show Steps p.tables e below (T654.setTop (mkF m 23 #[.val (.ref aa), .val (.int (Int32.ofNat i)), .val (.long qe), .second, .val (.long qp), .second, .unset] [(.long ((own_e S) i)), (.long qe)])) _
          refine XS.lcmp X654.here hx rfl (hb hby d5_2_23) rfl ?_
          show Steps p.tables e below (T654.setTop (mkF m 24 #[.val (.ref aa), .val (.int (Int32.ofNat i)), .val (.long qe), .second, .val (.long qp), .second, .unset] [(.int (lcmpW qe ((own_e S) i)))])) _
          refine XS.ifYes X654.here hx rfl (pc0 := 24) (pc' := 49) rfl (hb hby d5_2_24) rfl ((if0 _ _).trans (flt hc655).2.1) (by decide) (by decide) ?_
          show Steps p.tables e below (T654.setTop (mkF m 49 #[.val (.ref aa), .val (.int (Int32.ofNat i)), .val (.long qe), .second, .val (.long qp), .second, .unset] [])) _
          refine XS.lloadN X654.here hx rfl (hb hby d5_2_49) rfl ?_
          show Steps p.tables e below (T654.setTop (mkF m 50 #[.val (.ref aa), .val (.int (Int32.ofNat i)), .val (.long qe), .second, .val (.long qp), .second, .unset] [(.long qe)])) _
          refine XS.aloadN X654.here hx rfl (hb hby d5_2_50) rfl rfl ?_
          show Steps p.tables e below (T654.setTop (mkF m 51 #[.val (.ref aa), .val (.int (Int32.ofNat i)), .val (.long qe), .second, .val (.long qp), .second, .unset] [(.ref aa), (.long qe)])) _
          refine st680 _ ?_
          show Steps p.tables e below (T680.setTop (mkF m 54 #[.val (.ref aa), .val (.int (Int32.ofNat i)), .val (.long qe), .second, .val (.long qp), .second, .unset] [(.ref ae), (.long qe)])) _
          refine XS.iloadN X680.here hx rfl (hb hby d5_2_54) rfl ?_
          show Steps p.tables e below (T680.setTop (mkF m 55 #[.val (.ref aa), .val (.int (Int32.ofNat i)), .val (.long qe), .second, .val (.long qp), .second, .unset] [(.int (Int32.ofNat i)), (.ref ae), (.long qe)])) _
          refine JA.load X680 hx hZ e680 t649_10 i (own_cl hi (by decide)) (own_nn hi (by decide)) hi (g := (mkF m 55 #[.val (.ref aa), .val (.int (Int32.ofNat i)), .val (.long qe), .second, .val (.long qp), .second, .unset] [(.int (Int32.ofNat i)), (.ref ae), (.long qe)])) rfl rfl (hb hby d5_2_55) _ ?_
          show Steps p.tables e below (T680.setTop (mkF m 56 #[.val (.ref aa), .val (.int (Int32.ofNat i)), .val (.long qe), .second, .val (.long qp), .second, .unset] [(.long ((own_e S) i)), (.long qe)])) _
          refine XS.lcmp X680.here hx rfl (hb hby d5_2_56) rfl ?_
          show Steps p.tables e below (T680.setTop (mkF m 57 #[.val (.ref aa), .val (.int (Int32.ofNat i)), .val (.long qe), .second, .val (.long qp), .second, .unset] [(.int (lcmpW qe ((own_e S) i)))])) _
          refine XS.ifNo X680.here hx rfl (hb hby d5_2_57) rfl ((if0 _ _).trans (tlt hc681).2.2.2) ?_
          show Steps p.tables e below (T680.setTop (mkF m 60 #[.val (.ref aa), .val (.int (Int32.ofNat i)), .val (.long qe), .second, .val (.long qp), .second, .unset] [])) _
          refine XS.aloadN X680.here hx rfl (hb hby d5_2_60) rfl rfl ?_
          show Steps p.tables e below (T680.setTop (mkF m 61 #[.val (.ref aa), .val (.int (Int32.ofNat i)), .val (.long qe), .second, .val (.long qp), .second, .unset] [(.ref aa)])) _
          refine st682 _ ?_
          show Steps p.tables e below (T682.setTop (mkF m 64 #[.val (.ref aa), .val (.int (Int32.ofNat i)), .val (.long qe), .second, .val (.long qp), .second, .unset] [(.ref ar)])) _
          refine XS.iloadN X682.here hx rfl (hb hby d5_2_64) rfl ?_
          show Steps p.tables e below (T682.setTop (mkF m 65 #[.val (.ref aa), .val (.int (Int32.ofNat i)), .val (.long qe), .second, .val (.long qp), .second, .unset] [(.int (Int32.ofNat i)), (.ref ar)])) _
          refine XS.aloadN X682.here hx rfl (hb hby d5_2_65) rfl rfl ?_
          show Steps p.tables e below (T682.setTop (mkF m 66 #[.val (.ref aa), .val (.int (Int32.ofNat i)), .val (.long qe), .second, .val (.long qp), .second, .unset] [(.ref aa), (.int (Int32.ofNat i)), (.ref ar)])) _
          refine XS.aloadN X682.here hx rfl (hb hby d5_2_66) rfl rfl ?_
          show Steps p.tables e below (T682.setTop (mkF m 67 #[.val (.ref aa), .val (.int (Int32.ofNat i)), .val (.long qe), .second, .val (.long qp), .second, .unset] [(.ref aa), (.ref aa), (.int (Int32.ofNat i)), (.ref ar)])) _
          refine st683 _ ?_
          show Steps p.tables e below (T683.setTop (mkF m 70 #[.val (.ref aa), .val (.int (Int32.ofNat i)), .val (.long qe), .second, .val (.long qp), .second, .unset] [(.ref ar), (.ref aa), (.int (Int32.ofNat i)), (.ref ar)])) _
          refine XS.iloadN X683.here hx rfl (hb hby d5_2_70) rfl ?_
          show Steps p.tables e below (T683.setTop (mkF m 71 #[.val (.ref aa), .val (.int (Int32.ofNat i)), .val (.long qe), .second, .val (.long qp), .second, .unset] [(.int (Int32.ofNat i)), (.ref ar), (.ref aa), (.int (Int32.ofNat i)), (.ref ar)])) _
          refine IA.load X683 hx hZ e683 t649_15 i (own_cl hi (by decide)) (own_nn hi (by decide)) hi (g := (mkF m 71 #[.val (.ref aa), .val (.int (Int32.ofNat i)), .val (.long qe), .second, .val (.long qp), .second, .unset] [(.int (Int32.ofNat i)), (.ref ar), (.ref aa), (.int (Int32.ofNat i)), (.ref ar)])) rfl rfl (hb hby d5_2_71) _ ?_
          show Steps p.tables e below (T683.setTop (mkF m 72 #[.val (.ref aa), .val (.int (Int32.ofNat i)), .val (.long qe), .second, .val (.long qp), .second, .unset] [(.int (Int32.ofNat ((own_r S) i))), (.ref aa), (.int (Int32.ofNat i)), (.ref ar)])) _
          refine XS.lloadN X683.here hx rfl (hb hby d5_2_72) rfl ?_
          show Steps p.tables e below (T683.setTop (mkF m 73 #[.val (.ref aa), .val (.int (Int32.ofNat i)), .val (.long qe), .second, .val (.long qp), .second, .unset] [(.long qe), (.int (Int32.ofNat ((own_r S) i))), (.ref aa), (.int (Int32.ofNat i)), (.ref ar)])) _
          refine XS.lload X683.here hx rfl (hb hby d5_2_73) rfl ?_
          show Steps p.tables e below (T683.setTop (mkF m 75 #[.val (.ref aa), .val (.int (Int32.ofNat i)), .val (.long qe), .second, .val (.long qp), .second, .unset] [(.long qp), (.long qe), (.int (Int32.ofNat ((own_r S) i))), (.ref aa), (.int (Int32.ofNat i)), (.ref ar)])) _
          refine st684.trans ?_
          show Steps p.tables e below (T684.setTop (mkF m 78 #[.val (.ref aa), .val (.int (Int32.ofNat i)), .val (.long qe), .second, .val (.long qp), .second, .unset] [(.int (Int32.ofNat (own_add (0 + 1) S md ((own_r S) i) qe qp).2.2)), (.int (Int32.ofNat i)), (.ref ar)])) _
          refine castTop (g' := (mkF m 78 #[.val (.ref aa), .val (.int (Int32.ofNat i)), .val (.long qe), .second, .val (.long qp), .second, .unset] [(.int (Int32.ofNat R.2.2)), (.int (Int32.ofNat i)), (.ref ar)])) (by rw [hR]) ?_
          show Steps p.tables e below (T684.setTop (mkF m 78 #[.val (.ref aa), .val (.int (Int32.ofNat i)), .val (.long qe), .second, .val (.long qp), .second, .unset] [(.int (Int32.ofNat R.2.2)), (.int (Int32.ofNat i)), (.ref ar)])) _
          refine st687 _ ?_
          show Steps p.tables e below (T687.setTop (mkF m 79 #[.val (.ref aa), .val (.int (Int32.ofNat i)), .val (.long qe), .second, .val (.long qp), .second, .unset] [])) _
          refine XS.goto X687.here hx rfl (pc0 := 79) (pc' := 93) rfl (hb hby d5_2_79) (by decide) (by decide) ?_
          show Steps p.tables e below (T687.setTop (mkF m 93 #[.val (.ref aa), .val (.int (Int32.ofNat i)), .val (.long qe), .second, .val (.long qp), .second, .unset] [])) _
          refine XS.aloadN X687.here hx rfl (hb hby d5_2_93) rfl rfl ?_
          show Steps p.tables e below (T687.setTop (mkF m 94 #[.val (.ref aa), .val (.int (Int32.ofNat i)), .val (.long qe), .second, .val (.long qp), .second, .unset] [(.ref aa)])) _
          refine XS.iloadN X687.here hx rfl (hb hby d5_2_94) rfl ?_
          show Steps p.tables e below (T687.setTop (mkF m 95 #[.val (.ref aa), .val (.int (Int32.ofNat i)), .val (.long qe), .second, .val (.long qp), .second, .unset] [(.int (Int32.ofNat i)), (.ref aa)])) _
          refine st703.trans ?_
          show Steps p.tables e below (T703.setTop (mkF m 98 #[.val (.ref aa), .val (.int (Int32.ofNat i)), .val (.long qe), .second, .val (.long qp), .second, .unset] [(.int (Int32.ofNat (own_bal (own_setR R.1 i R.2.2) i).2))])) _
          refine XS.istore X703.here hx rfl (hb hby d5_2_98) rfl (l' := #[.val (.ref aa), .val (.int (Int32.ofNat i)), .val (.long qe), .second, .val (.long qp), .second, .val (.int (Int32.ofNat (own_bal (own_setR R.1 i R.2.2) i).2))]) rfl ?_
          show Steps p.tables e below (T703.setTop (mkF m 100 #[.val (.ref aa), .val (.int (Int32.ofNat i)), .val (.long qe), .second, .val (.long qp), .second, .val (.int (Int32.ofNat (own_bal (own_setR R.1 i R.2.2) i).2))] [])) _
          refine XS.iload X703.here hx rfl (hb hby d5_2_100) rfl ?_
          show Steps p.tables e below (T703.setTop (mkF m 102 #[.val (.ref aa), .val (.int (Int32.ofNat i)), .val (.long qe), .second, .val (.long qp), .second, .val (.int (Int32.ofNat (own_bal (own_setR R.1 i R.2.2) i).2))] [(.int (Int32.ofNat (own_bal (own_setR R.1 i R.2.2) i).2))])) _
          exact retI X703 hx Bd.returns (hb hby d5_2_102) hr
        · show Q5_2 Z aa ae ap aS ah al ar S rt md i B qe qp h0 n0 _ T703.heap _
          unfold Q5_2
          rw [hbq]
          exact ⟨rfl, N703, K703, (TR.mk (S := (own_bal (own_setR R.1 i R.2.2) i).1) t705_0 t705_1 t705_2 t705_3 t705_4 t705_5 t705_6 t705_7 t705_8 t705_9 t705_10 t705_11 t705_12 t705_13 t705_14 t705_15)⟩
      · have hnl : ¬ qe < own_e S i := fun q => hc655 ((lw_lt _ _).mpr q)
        have hng : ¬ own_e S i < qe := fun q => hc681 ((lw_gt _ _).mpr q)
        obtain ⟨T706, X706, e706, st706⟩ := getF X680 hx hZ hown (host := "") (Or.inl (hw _ (List.mem_of_getElem? (i := 12) rfl))) Via.refl e680 t649_2 (g := (mkF m 83 #[.val (.ref aa), .val (.int (Int32.ofNat i)), .val (.long qe), .second, .val (.long qp), .second, .unset] [(.ref aa)])) rfl rfl (hb hby d5_2_83)
        obtain ⟨T707, h707, X707, e707, W707, V707, st707⟩ := JA.store X706 hx hZ e706 t649_11 i (own_cl hi (by decide)) (own_nn hi (by decide)) hi (x := (((own_p S) i) + qp)) (g := (mkF m 92 #[.val (.ref aa), .val (.int (Int32.ofNat i)), .val (.long qe), .second, .val (.long qp), .second, .unset] [(.long (((own_p S) i) + qp)), (.int (Int32.ofNat i)), (.ref ap)])) rfl rfl (hb hby d5_2_92)
        have E_708 := t649_0.wr W707
        have F_709 := t649_1.other W707 (Or.inl dd648_1)
        have F_710 := t649_2.other W707 (Or.inl dd648_1)
        have F_711 := t649_3.other W707 (Or.inl dd648_1)
        have F_712 := t649_4.other W707 (Or.inl dd648_1)
        have F_713 := t649_5.other W707 (Or.inl dd648_1)
        have F_714 := t649_6.other W707 (Or.inl dd648_1)
        have F_715 := t649_7.other W707 (Or.inl dd648_1)
        have F_716 := t649_8.other W707 (Or.inl dd648_1)
        have F_717 := t649_9.other W707 (Or.inl dd648_1)
        have V_718 := t649_10.other W707 dd648_6
        have V_719 := t649_12.other W707 (Ne.symm dd648_11)
        have V_720 := t649_13.other W707 (Ne.symm dd648_12)
        have V_721 := t649_14.other W707 (Ne.symm dd648_13)
        have V_722 := t649_15.other W707 (Ne.symm dd648_14)
        have N707 := Fr.snoc X707 N0 g_ap
        have Z707 : n0 ≤ h707.size := Nat.le_trans Z0 (Keep.of_wr W707).1
        have K707 : Keep h0 h707 [aa, ae, ap, aS, ah, al, ar] := (Keep.refl h0 [aa, ae, ap, aS, ah, al, ar]).wr W707 (Or.inl (List.mem_of_getElem? (i := 2) rfl))
        obtain ⟨cq723, q723, q723'⟩ := E_708.cell
        obtain ⟨_, _, ⟨T723, L723, k723, n723⟩, -, X723, ⟨Lc723, hQ723, l723, y723, z723⟩, st723⟩ := X707.privateBack hx (y := (⟨"com/example/berthline/berthline/engine/replay/EstimatedEnds", "balance", "(I)I"⟩ : MethodName)) hown (mvT hZ (hw _ (List.mem_of_getElem? (i := 47) rfl))) (mvT hZ (hw _ (List.mem_of_getElem? (i := 48) rfl))) (own_selects hZ (hw _ (List.mem_of_getElem? (i := 1) rfl)) (hw _ (List.mem_of_getElem? (i := 49) rfl)) (hw _ (List.mem_of_getElem? (i := 48) rfl)) (by decide)) (Cond.privateMethod_at (mvP hZ (hw _ (List.mem_of_getElem? (i := 49) rfl)) (args := #[]))) (mvT hZ (hw _ (List.mem_of_getElem? (i := 50) rfl))) (by decide) (backOf (W := 0) (rm7 l Z a0 hw [] aa ae ap aS ah al ar (own_setP S i (((own_p S) i) + qp)) rt md i B h707 n0 Z707 g_aa g_ae g_ap g_aS g_ah g_al g_ar hD (TR.mk (S := (own_setP S i (((own_p S) i) + qp))) E_708 F_709 F_710 F_711 F_712 F_713 F_714 F_715 F_716 F_717 V_718 V707 V_719 V_720 V_721 V_722) hi (own_ok_setP hok) (by omega)) hZ (hw _ (List.mem_of_getElem? (i := 50) rfl)) (hw _ (List.mem_of_getElem? (i := 2) rfl)) (by decide) (by decide)) (g := (mkF m 95 #[.val (.ref aa), .val (.int (Int32.ofNat i)), .val (.long qe), .second, .val (.long qp), .second, .unset] [(.int (Int32.ofNat i)), (.ref aa)])) rfl (by rw [hml]; rfl) (Steps.refl _) (a := aa) (by rw [e707]; exact q723) q723' (argsL := [(.int (Int32.ofNat i))]) (rest := []) (lenOf pd_216441 rfl) rfl (by show 2 * 0 + _ ≤ _; exact Nat.le_of_eq rfl) (hb hby d5_2_95) (fun _ _ => ⟨rfl, e707, (by decide : 0 + 0 ≤ _), (by decide : 0 + 0 ≤ _)⟩)
        dsimp only [Pt.U, Pt.locs, Pt.cells, Pt.slots] at X723 l723 y723 z723 st723 hQ723
        subst l723 y723 z723
        obtain ⟨rfl, N723q, K723c, G723_0⟩ := hQ723
        have N723 := Fr.app N707 N723q
        have E_724 := E_708.keep K723c
        have Z723 : n0 ≤ T723.heap.size := Nat.le_trans Z707 K723c.1
        have K723 : Keep h0 T723.heap [aa, ae, ap, aS, ah, al, ar] := K707.trans K723c (allS (P := fun x => x ∈ [aa, ae, ap, aS, ah, al, ar] ∨ h0.size ≤ x) (Or.inl (List.mem_of_getElem? (i := 0) rfl)) (allS (P := fun x => x ∈ [aa, ae, ap, aS, ah, al, ar] ∨ h0.size ≤ x) (Or.inl (List.mem_of_getElem? (i := 1) rfl)) (allS (P := fun x => x ∈ [aa, ae, ap, aS, ah, al, ar] ∨ h0.size ≤ x) (Or.inl (List.mem_of_getElem? (i := 2) rfl)) (allS (P := fun x => x ∈ [aa, ae, ap, aS, ah, al, ar] ∨ h0.size ≤ x) (Or.inl (List.mem_of_getElem? (i := 3) rfl)) (allS (P := fun x => x ∈ [aa, ae, ap, aS, ah, al, ar] ∨ h0.size ≤ x) (Or.inl (List.mem_of_getElem? (i := 4) rfl)) (allS (P := fun x => x ∈ [aa, ae, ap, aS, ah, al, ar] ∨ h0.size ≤ x) (Or.inl (List.mem_of_getElem? (i := 5) rfl)) (allS (P := fun x => x ∈ [aa, ae, ap, aS, ah, al, ar] ∨ h0.size ≤ x) (Or.inl (List.mem_of_getElem? (i := 6) rfl)) all0)))))))
        obtain ⟨t725_0, t725_1, t725_2, t725_3, t725_4, t725_5, t725_6, t725_7, t725_8, t725_9, t725_10, t725_11, t725_12, t725_13, t725_14, t725_15⟩ := G723_0
        have hbq := own_add_eq (0 + 1) (md := md) (p := qp) hz hnl hng
        obtain ⟨fs, hr, hrun, hended, hW, hsame⟩ := X723.leave (v := some (.int (Int32.ofNat (own_bal (own_setP S i (((own_p S) i) + qp)) i).2))) (fun h => by rw [Bd.returns] at h; cases h)
        refine ⟨_, _, pre0 _ ?_, hrun, hended, _, _, rfl, ?_, ⟨_, rfl⟩, hW, hsame.mono (by decide) (by decide)⟩
        · show Steps p.tables e below (s₁.setTop (mkF m 0 #[.val (.ref aa), .val (.int (Int32.ofNat i)), .val (.long qe), .second, .val (.long qp), .second, .unset] [])) _
          refine XS.iloadN X0.here hx rfl (hb hby d5_2_0) rfl ?_
          show Steps p.tables e below (s₁.setTop (mkF m 1 #[.val (.ref aa), .val (.int (Int32.ofNat i)), .val (.long qe), .second, .val (.long qp), .second, .unset] [(.int (Int32.ofNat i))])) _
          refine XS.ifYes X0.here hx rfl (pc0 := 1) (pc' := 16) rfl (hb hby d5_2_1) rfl ((if0 _ _).trans (feq hc650).2) (by decide) (by decide) ?_
          show Steps p.tables e below (s₁.setTop (mkF m 16 #[.val (.ref aa), .val (.int (Int32.ofNat i)), .val (.long qe), .second, .val (.long qp), .second, .unset] [])) _
          refine XS.lloadN X0.here hx rfl (hb hby d5_2_16) rfl ?_
          show Steps p.tables e below (s₁.setTop (mkF m 17 #[.val (.ref aa), .val (.int (Int32.ofNat i)), .val (.long qe), .second, .val (.long qp), .second, .unset] [(.long qe)])) _
          refine XS.aloadN X0.here hx rfl (hb hby d5_2_17) rfl rfl ?_
          show Steps p.tables e below (s₁.setTop (mkF m 18 #[.val (.ref aa), .val (.int (Int32.ofNat i)), .val (.long qe), .second, .val (.long qp), .second, .unset] [(.ref aa), (.long qe)])) _
          refine st654 _ ?_
          show Steps p.tables e below (T654.setTop (mkF m 21 #[.val (.ref aa), .val (.int (Int32.ofNat i)), .val (.long qe), .second, .val (.long qp), .second, .unset] [(.ref ae), (.long qe)])) _
          refine XS.iloadN X654.here hx rfl (hb hby d5_2_21) rfl ?_
          show Steps p.tables e below (T654.setTop (mkF m 22 #[.val (.ref aa), .val (.int (Int32.ofNat i)), .val (.long qe), .second, .val (.long qp), .second, .unset] [(.int (Int32.ofNat i)), (.ref ae), (.long qe)])) _
          refine JA.load X654 hx hZ e654 t649_10 i (own_cl hi (by decide)) (own_nn hi (by decide)) hi (g := (mkF m 22 #[.val (.ref aa), .val (.int (Int32.ofNat i)), .val (.long qe), .second, .val (.long qp), .second, .unset] [(.int (Int32.ofNat i)), (.ref ae), (.long qe)])) rfl rfl (hb hby d5_2_22) _ ?_
          show Steps p.tables e below (T654.setTop (mkF m 23 #[.val (.ref aa), .val (.int (Int32.ofNat i)), .val (.long qe), .second, .val (.long qp), .second, .unset] [(.long ((own_e S) i)), (.long qe)])) _
          refine XS.lcmp X654.here hx rfl (hb hby d5_2_23) rfl ?_
          show Steps p.tables e below (T654.setTop (mkF m 24 #[.val (.ref aa), .val (.int (Int32.ofNat i)), .val (.long qe), .second, .val (.long qp), .second, .unset] [(.int (lcmpW qe ((own_e S) i)))])) _
          refine XS.ifYes X654.here hx rfl (pc0 := 24) (pc' := 49) rfl (hb hby d5_2_24) rfl ((if0 _ _).trans (flt hc655).2.1) (by decide) (by decide) ?_
          show Steps p.tables e below (T654.setTop (mkF m 49 #[.val (.ref aa), .val (.int (Int32.ofNat i)), .val (.long qe), .second, .val (.long qp), .second, .unset] [])) _
          refine XS.lloadN X654.here hx rfl (hb hby d5_2_49) rfl ?_
          show Steps p.tables e below (T654.setTop (mkF m 50 #[.val (.ref aa), .val (.int (Int32.ofNat i)), .val (.long qe), .second, .val (.long qp), .second, .unset] [(.long qe)])) _
          refine XS.aloadN X654.here hx rfl (hb hby d5_2_50) rfl rfl ?_
          show Steps p.tables e below (T654.setTop (mkF m 51 #[.val (.ref aa), .val (.int (Int32.ofNat i)), .val (.long qe), .second, .val (.long qp), .second, .unset] [(.ref aa), (.long qe)])) _
          refine st680 _ ?_
          show Steps p.tables e below (T680.setTop (mkF m 54 #[.val (.ref aa), .val (.int (Int32.ofNat i)), .val (.long qe), .second, .val (.long qp), .second, .unset] [(.ref ae), (.long qe)])) _
          refine XS.iloadN X680.here hx rfl (hb hby d5_2_54) rfl ?_
          show Steps p.tables e below (T680.setTop (mkF m 55 #[.val (.ref aa), .val (.int (Int32.ofNat i)), .val (.long qe), .second, .val (.long qp), .second, .unset] [(.int (Int32.ofNat i)), (.ref ae), (.long qe)])) _
          refine JA.load X680 hx hZ e680 t649_10 i (own_cl hi (by decide)) (own_nn hi (by decide)) hi (g := (mkF m 55 #[.val (.ref aa), .val (.int (Int32.ofNat i)), .val (.long qe), .second, .val (.long qp), .second, .unset] [(.int (Int32.ofNat i)), (.ref ae), (.long qe)])) rfl rfl (hb hby d5_2_55) _ ?_
          show Steps p.tables e below (T680.setTop (mkF m 56 #[.val (.ref aa), .val (.int (Int32.ofNat i)), .val (.long qe), .second, .val (.long qp), .second, .unset] [(.long ((own_e S) i)), (.long qe)])) _
          refine XS.lcmp X680.here hx rfl (hb hby d5_2_56) rfl ?_
          show Steps p.tables e below (T680.setTop (mkF m 57 #[.val (.ref aa), .val (.int (Int32.ofNat i)), .val (.long qe), .second, .val (.long qp), .second, .unset] [(.int (lcmpW qe ((own_e S) i)))])) _
          refine XS.ifYes X680.here hx rfl (pc0 := 57) (pc' := 82) rfl (hb hby d5_2_57) rfl ((if0 _ _).trans (flt hc681).2.2.2) (by decide) (by decide) ?_
          show Steps p.tables e below (T680.setTop (mkF m 82 #[.val (.ref aa), .val (.int (Int32.ofNat i)), .val (.long qe), .second, .val (.long qp), .second, .unset] [])) _
          refine XS.aloadN X680.here hx rfl (hb hby d5_2_82) rfl rfl ?_
          show Steps p.tables e below (T680.setTop (mkF m 83 #[.val (.ref aa), .val (.int (Int32.ofNat i)), .val (.long qe), .second, .val (.long qp), .second, .unset] [(.ref aa)])) _
          refine st706 _ ?_
          show Steps p.tables e below (T706.setTop (mkF m 86 #[.val (.ref aa), .val (.int (Int32.ofNat i)), .val (.long qe), .second, .val (.long qp), .second, .unset] [(.ref ap)])) _
          refine XS.iloadN X706.here hx rfl (hb hby d5_2_86) rfl ?_
          show Steps p.tables e below (T706.setTop (mkF m 87 #[.val (.ref aa), .val (.int (Int32.ofNat i)), .val (.long qe), .second, .val (.long qp), .second, .unset] [(.int (Int32.ofNat i)), (.ref ap)])) _
          jvm_step X706.here [X706.here.top, hx, (hb hby d5_2_87), Value.category]
          show Steps p.tables e below (T706.setTop (mkF m 88 #[.val (.ref aa), .val (.int (Int32.ofNat i)), .val (.long qe), .second, .val (.long qp), .second, .unset] [(.int (Int32.ofNat i)), (.ref ap), (.int (Int32.ofNat i)), (.ref ap)])) _
          refine JA.load X706 hx hZ e706 t649_11 i (own_cl hi (by decide)) (own_nn hi (by decide)) hi (g := (mkF m 88 #[.val (.ref aa), .val (.int (Int32.ofNat i)), .val (.long qe), .second, .val (.long qp), .second, .unset] [(.int (Int32.ofNat i)), (.ref ap), (.int (Int32.ofNat i)), (.ref ap)])) rfl rfl (hb hby d5_2_88) _ ?_
          show Steps p.tables e below (T706.setTop (mkF m 89 #[.val (.ref aa), .val (.int (Int32.ofNat i)), .val (.long qe), .second, .val (.long qp), .second, .unset] [(.long ((own_p S) i)), (.int (Int32.ofNat i)), (.ref ap)])) _
          refine XS.lload X706.here hx rfl (hb hby d5_2_89) rfl ?_
          show Steps p.tables e below (T706.setTop (mkF m 91 #[.val (.ref aa), .val (.int (Int32.ofNat i)), .val (.long qe), .second, .val (.long qp), .second, .unset] [(.long qp), (.long ((own_p S) i)), (.int (Int32.ofNat i)), (.ref ap)])) _
          refine XS.ladd X706.here hx rfl (hb hby d5_2_91) rfl ?_
          show Steps p.tables e below (T706.setTop (mkF m 92 #[.val (.ref aa), .val (.int (Int32.ofNat i)), .val (.long qe), .second, .val (.long qp), .second, .unset] [(.long (((own_p S) i) + qp)), (.int (Int32.ofNat i)), (.ref ap)])) _
          refine st707 _ ?_
          show Steps p.tables e below (T707.setTop (mkF m 93 #[.val (.ref aa), .val (.int (Int32.ofNat i)), .val (.long qe), .second, .val (.long qp), .second, .unset] [])) _
          refine XS.aloadN X707.here hx rfl (hb hby d5_2_93) rfl rfl ?_
          show Steps p.tables e below (T707.setTop (mkF m 94 #[.val (.ref aa), .val (.int (Int32.ofNat i)), .val (.long qe), .second, .val (.long qp), .second, .unset] [(.ref aa)])) _
          refine XS.iloadN X707.here hx rfl (hb hby d5_2_94) rfl ?_
          show Steps p.tables e below (T707.setTop (mkF m 95 #[.val (.ref aa), .val (.int (Int32.ofNat i)), .val (.long qe), .second, .val (.long qp), .second, .unset] [(.int (Int32.ofNat i)), (.ref aa)])) _
          refine st723.trans ?_
          show Steps p.tables e below (T723.setTop (mkF m 98 #[.val (.ref aa), .val (.int (Int32.ofNat i)), .val (.long qe), .second, .val (.long qp), .second, .unset] [(.int (Int32.ofNat (own_bal (own_setP S i (((own_p S) i) + qp)) i).2))])) _
          refine XS.istore X723.here hx rfl (hb hby d5_2_98) rfl (l' := #[.val (.ref aa), .val (.int (Int32.ofNat i)), .val (.long qe), .second, .val (.long qp), .second, .val (.int (Int32.ofNat (own_bal (own_setP S i (((own_p S) i) + qp)) i).2))]) rfl ?_
          show Steps p.tables e below (T723.setTop (mkF m 100 #[.val (.ref aa), .val (.int (Int32.ofNat i)), .val (.long qe), .second, .val (.long qp), .second, .val (.int (Int32.ofNat (own_bal (own_setP S i (((own_p S) i) + qp)) i).2))] [])) _
          refine XS.iload X723.here hx rfl (hb hby d5_2_100) rfl ?_
          show Steps p.tables e below (T723.setTop (mkF m 102 #[.val (.ref aa), .val (.int (Int32.ofNat i)), .val (.long qe), .second, .val (.long qp), .second, .val (.int (Int32.ofNat (own_bal (own_setP S i (((own_p S) i) + qp)) i).2))] [(.int (Int32.ofNat (own_bal (own_setP S i (((own_p S) i) + qp)) i).2))])) _
          exact retI X723 hx Bd.returns (hb hby d5_2_102) hr
        · show Q5_2 Z aa ae ap aS ah al ar S rt md i B qe qp h0 n0 _ T723.heap _
          unfold Q5_2
          rw [hbq]
          exact ⟨rfl, N723, K723, (TR.mk (S := (own_bal (own_setP S i (((own_p S) i) + qp)) i).1) t725_0 t725_1 t725_2 t725_3 t725_4 t725_5 t725_6 t725_7 t725_8 t725_9 t725_10 t725_11 t725_12 t725_13 t725_14 t725_15)⟩

theorem d5_3_0 : decode prog_107_method_7_code 0 = .ok (.iload_n 1, 1) := by decide +kernel
theorem d5_3_1 : decode prog_107_method_7_code 1 = .ok (.ifCond .ne 15, 3) := by decide +kernel
theorem d5_3_4 : decode prog_107_method_7_code 4 = .ok (.aload_n 0, 1) := by decide +kernel
theorem d5_3_5 : decode prog_107_method_7_code 5 = .ok (.lload_n 2, 1) := by decide +kernel
theorem d5_3_6 : decode prog_107_method_7_code 6 = .ok (.lload 4, 2) := by decide +kernel
theorem d5_3_8 : decode prog_107_method_7_code 8 = .ok (.invokevirtual 62, 3) := by decide +kernel
theorem d5_3_11 : decode prog_107_method_7_code 11 = .ok (.istore 6, 2) := by decide +kernel
theorem d5_3_13 : decode prog_107_method_7_code 13 = .ok (.goto 87, 3) := by decide +kernel
theorem d5_3_100 : decode prog_107_method_7_code 100 = .ok (.iload 6, 2) := by decide +kernel
theorem d5_3_102 : decode prog_107_method_7_code 102 = .ok (.ireturn, 1) := by decide +kernel
theorem d5_3_16 : decode prog_107_method_7_code 16 = .ok (.lload_n 2, 1) := by decide +kernel
theorem d5_3_17 : decode prog_107_method_7_code 17 = .ok (.aload_n 0, 1) := by decide +kernel
theorem d5_3_18 : decode prog_107_method_7_code 18 = .ok (.getfield 7, 3) := by decide +kernel
theorem d5_3_21 : decode prog_107_method_7_code 21 = .ok (.iload_n 1, 1) := by decide +kernel
theorem d5_3_22 : decode prog_107_method_7_code 22 = .ok (.laload, 1) := by decide +kernel
theorem d5_3_23 : decode prog_107_method_7_code 23 = .ok (.lcmp, 1) := by decide +kernel
theorem d5_3_24 : decode prog_107_method_7_code 24 = .ok (.ifCond .ge 25, 3) := by decide +kernel
theorem d5_3_27 : decode prog_107_method_7_code 27 = .ok (.aload_n 0, 1) := by decide +kernel
theorem d5_3_28 : decode prog_107_method_7_code 28 = .ok (.getfield 23, 3) := by decide +kernel
theorem d5_3_31 : decode prog_107_method_7_code 31 = .ok (.iload_n 1, 1) := by decide +kernel
theorem d5_3_32 : decode prog_107_method_7_code 32 = .ok (.aload_n 0, 1) := by decide +kernel
theorem d5_3_33 : decode prog_107_method_7_code 33 = .ok (.aload_n 0, 1) := by decide +kernel
theorem d5_3_34 : decode prog_107_method_7_code 34 = .ok (.getfield 23, 3) := by decide +kernel
theorem d5_3_37 : decode prog_107_method_7_code 37 = .ok (.iload_n 1, 1) := by decide +kernel
theorem d5_3_38 : decode prog_107_method_7_code 38 = .ok (.iaload, 1) := by decide +kernel
theorem d5_3_39 : decode prog_107_method_7_code 39 = .ok (.lload_n 2, 1) := by decide +kernel
theorem d5_3_40 : decode prog_107_method_7_code 40 = .ok (.lload 4, 2) := by decide +kernel
theorem d5_3_42 : decode prog_107_method_7_code 42 = .ok (.invokevirtual 42, 3) := by decide +kernel
theorem d5_3_45 : decode prog_107_method_7_code 45 = .ok (.iastore, 1) := by decide +kernel
theorem d5_3_46 : decode prog_107_method_7_code 46 = .ok (.goto 47, 3) := by decide +kernel
theorem d5_3_93 : decode prog_107_method_7_code 93 = .ok (.aload_n 0, 1) := by decide +kernel
theorem d5_3_94 : decode prog_107_method_7_code 94 = .ok (.iload_n 1, 1) := by decide +kernel
theorem d5_3_95 : decode prog_107_method_7_code 95 = .ok (.invokevirtual 66, 3) := by decide +kernel
theorem d5_3_98 : decode prog_107_method_7_code 98 = .ok (.istore 6, 2) := by decide +kernel
theorem d5_3_49 : decode prog_107_method_7_code 49 = .ok (.lload_n 2, 1) := by decide +kernel
theorem d5_3_50 : decode prog_107_method_7_code 50 = .ok (.aload_n 0, 1) := by decide +kernel
theorem d5_3_51 : decode prog_107_method_7_code 51 = .ok (.getfield 7, 3) := by decide +kernel
theorem d5_3_54 : decode prog_107_method_7_code 54 = .ok (.iload_n 1, 1) := by decide +kernel
theorem d5_3_55 : decode prog_107_method_7_code 55 = .ok (.laload, 1) := by decide +kernel
theorem d5_3_56 : decode prog_107_method_7_code 56 = .ok (.lcmp, 1) := by decide +kernel
theorem d5_3_57 : decode prog_107_method_7_code 57 = .ok (.ifCond .le 25, 3) := by decide +kernel
theorem d5_3_60 : decode prog_107_method_7_code 60 = .ok (.aload_n 0, 1) := by decide +kernel
theorem d5_3_61 : decode prog_107_method_7_code 61 = .ok (.getfield 26, 3) := by decide +kernel
theorem d5_3_64 : decode prog_107_method_7_code 64 = .ok (.iload_n 1, 1) := by decide +kernel
theorem d5_3_65 : decode prog_107_method_7_code 65 = .ok (.aload_n 0, 1) := by decide +kernel
theorem d5_3_66 : decode prog_107_method_7_code 66 = .ok (.aload_n 0, 1) := by decide +kernel
theorem d5_3_67 : decode prog_107_method_7_code 67 = .ok (.getfield 26, 3) := by decide +kernel
theorem d5_3_70 : decode prog_107_method_7_code 70 = .ok (.iload_n 1, 1) := by decide +kernel
theorem d5_3_71 : decode prog_107_method_7_code 71 = .ok (.iaload, 1) := by decide +kernel
theorem d5_3_72 : decode prog_107_method_7_code 72 = .ok (.lload_n 2, 1) := by decide +kernel
theorem d5_3_73 : decode prog_107_method_7_code 73 = .ok (.lload 4, 2) := by decide +kernel
theorem d5_3_75 : decode prog_107_method_7_code 75 = .ok (.invokevirtual 42, 3) := by decide +kernel
theorem d5_3_78 : decode prog_107_method_7_code 78 = .ok (.iastore, 1) := by decide +kernel
theorem d5_3_79 : decode prog_107_method_7_code 79 = .ok (.goto 14, 3) := by decide +kernel
theorem d5_3_82 : decode prog_107_method_7_code 82 = .ok (.aload_n 0, 1) := by decide +kernel
theorem d5_3_83 : decode prog_107_method_7_code 83 = .ok (.getfield 13, 3) := by decide +kernel
theorem d5_3_86 : decode prog_107_method_7_code 86 = .ok (.iload_n 1, 1) := by decide +kernel
theorem d5_3_87 : decode prog_107_method_7_code 87 = .ok (.dup2, 1) := by decide +kernel
theorem d5_3_88 : decode prog_107_method_7_code 88 = .ok (.laload, 1) := by decide +kernel
theorem d5_3_89 : decode prog_107_method_7_code 89 = .ok (.lload 4, 2) := by decide +kernel
theorem d5_3_91 : decode prog_107_method_7_code 91 = .ok (.ladd, 1) := by decide +kernel
theorem d5_3_92 : decode prog_107_method_7_code 92 = .ok (.lastore, 1) := by decide +kernel
theorem ef_5_3 (m : MethodId) (aa : Addr) (qe : Int64) (qp : Int64) : entryFrame m #[(.ref aa), (.int (Int32.ofNat i)), (.long qe), (.long qp)] 7 = mkF m 0 #[.val (.ref aa), .val (.int (Int32.ofNat i)), .val (.long qe), .second, .val (.long qp), .second, .unset] [] := by first | (simp [entryFrame, mkF, argsToLocals, Value.category]; done) | rfl
def Q5_3 (Z : State) (aa : Addr) (ae : Addr) (ap : Addr) (aS : Addr) (ah : Addr) (al : Addr) (ar : Addr) (S : own_S) (rt : Nat) (md : Nat) (i : Nat) (B : Nat) (qe : Int64) (qp : Int64) (h0 : Heap) (n0 : Nat) (v : Option Value) (h : Heap) (L : List Loc) : Prop := v = some (.int (Int32.ofNat (own_add (0 + 1 + 1 + 1) S md i qe qp).2.2)) ∧ Fr n0 L ∧ Keep h0 h [aa, ae, ap, aS, ah, al, ar] ∧ TR Z h aa ae ap aS ah al ar (own_add (0 + 1 + 1 + 1) S md i qe qp).1 rt (own_add (0 + 1 + 1 + 1) S md i qe qp).2.1
set_option maxRecDepth 65536 in
set_option maxHeartbeats 40000000 in
theorem rm5_3 (l : Launch) (Z : State) (a0 : Array Value) (hw : ∀ d ∈ tables_1, d.before a0 Z = true) (ws : List Jvm.Cond) (aa : Addr) (ae : Addr) (ap : Addr) (aS : Addr) (ah : Addr) (al : Addr) (ar : Addr) (S : own_S) (rt : Nat) (md : Nat) (i : Nat) (B : Nat) (qe : Int64) (qp : Int64) (h0 : Heap) (n0 : Nat) (Z0 : n0 ≤ h0.size) (g_aa : n0 ≤ aa) (g_ae : n0 ≤ ae) (g_ap : n0 ≤ ap) (g_aS : n0 ≤ aS) (g_ah : n0 ≤ ah) (g_al : n0 ≤ al) (g_ar : n0 ≤ ar) (hD : own_D aa ae ap aS ah al ar) (hTR : TR Z h0 aa ae ap aS ah al ar S rt md) (hi : i < 16) (hok : own_ok B S) (hB : B + 5 * (0 + 1 + 1 + 1) + 5 < 1000000) (hmd : md < 16) (hdeep : own_deep (0 + 1 + 1 + 1) S i) :
    MetFree l (⟨"com/example/berthline/berthline/engine/replay/EstimatedEnds", "add", "(IJJ)I"⟩ : MethodName) (head1 (Jvm.Cond.code (⟨"com/example/berthline/berthline/engine/replay/EstimatedEnds", "add", "(IJJ)I"⟩ : MethodName) prog_107_method_7_code 7 (some .int) :: ws) ({ frames := 6, cells := 0, slots := 0, locals := 103 } : Room)) (fun a U => a = #[(.ref aa), (.int (Int32.ofNat i)), (.long qe), (.long qp)] ∧ Z.Warmed39 U.vm ∧ U.heap = h0) (fun _ _ _ _ _ => True) (fun _ U o U' => ∃ v L, o = .returned v ∧ Q5_3 Z aa ae ap aS ah al ar S rt md i B qe qp h0 n0 v U'.heap L ∧ FrameEnd U o U' L ({ frames := 6, cells := 0, slots := 0, locals := 103 } : Room).cells ({ frames := 6, cells := 0, slots := 0, locals := 103 } : Room).slots) := by
  refine MetFree.of_bodySF (plainFor_of_name pn_com_example_berthline_berthline_engine_replay_EstimatedEnds) hisR ?_
  intro p e s m args below meth c s₁ Bd hml0 hP hK
  obtain ⟨rfl, hZ, hh⟩ := hP
  have hx := Bd.exec
  have hby := Bd.bytes
  have hml : c.maxLocals = 7 := hml0
  have hown : s.vm.findClass "com/example/berthline/berthline/engine/replay/EstimatedEnds" = some m.cls := findClass_of_methodNamed Bd.named
  have hnm := (name_of_methodNamed Bd.named Bd.method).1
  have X0 : Stand p l e ({ frames := 6, cells := 0, slots := 0, locals := 103 } : Room) s m #[(.ref aa), (.int (Int32.ofNat i)), (.long qe), (.long qp)] below meth c s₁ [] 0 0 := Stand.of_body Bd
  have e0 : s₁.heap = h0 := by rw [← hh, Bd.state]; rfl
  have N0 := Fr.nil n0
  have pre0 : ∀ t, Steps p.tables e below (s₁.setTop (mkF m 0 #[.val (.ref aa), .val (.int (Int32.ofNat i)), .val (.long qe), .second, .val (.long qp), .second, .unset] [])) t → Steps p.tables e below (s₁.setTop (entryFrame m #[(.ref aa), (.int (Int32.ofNat i)), (.long qe), (.long qp)] 7)) t := fun t k => castTop (ef_5_3 m aa qe qp) k
  obtain ⟨dd726_0, dd726_1, dd726_2, dd726_3, dd726_4, dd726_5, dd726_6, dd726_7, dd726_8, dd726_9, dd726_10, dd726_11, dd726_12, dd726_13, dd726_14, dd726_15, dd726_16, dd726_17, dd726_18, dd726_19, dd726_20⟩ := id hD
  obtain ⟨t727_0, t727_1, t727_2, t727_3, t727_4, t727_5, t727_6, t727_7, t727_8, t727_9, t727_10, t727_11, t727_12, t727_13, t727_14, t727_15⟩ := hTR
  by_cases hc728 : (Int32.ofNat i) = (0 : Int32)
  · obtain ⟨cq729, q729, q729'⟩ := t727_0.cell
    obtain ⟨_, _, ⟨T729, L729, k729, n729⟩, -, X729, ⟨Lc729, hQ729, l729, y729, z729⟩, st729⟩ := X0.privateBack hx (y := (⟨"com/example/berthline/berthline/engine/replay/EstimatedEnds", "make", "(JJ)I"⟩ : MethodName)) hown (mvT hZ (hw _ (List.mem_of_getElem? (i := 43) rfl))) (mvT hZ (hw _ (List.mem_of_getElem? (i := 44) rfl))) (own_selects hZ (hw _ (List.mem_of_getElem? (i := 1) rfl)) (hw _ (List.mem_of_getElem? (i := 45) rfl)) (hw _ (List.mem_of_getElem? (i := 44) rfl)) (by decide)) (Cond.privateMethod_at (mvP hZ (hw _ (List.mem_of_getElem? (i := 45) rfl)) (args := #[]))) (mvT hZ (hw _ (List.mem_of_getElem? (i := 46) rfl))) (by decide) (backOf (W := 0) (rm6 l Z a0 hw [] aa ae ap aS ah al ar S rt md qe qp h0 n0 Z0 g_aa g_ae g_ap g_aS g_ah g_al g_ar hD (TR.mk (S := S) t727_0 t727_1 t727_2 t727_3 t727_4 t727_5 t727_6 t727_7 t727_8 t727_9 t727_10 t727_11 t727_12 t727_13 t727_14 t727_15) hmd) hZ (hw _ (List.mem_of_getElem? (i := 46) rfl)) (hw _ (List.mem_of_getElem? (i := 2) rfl)) (by decide) (by decide)) (g := (mkF m 8 #[.val (.ref aa), .val (.int (Int32.ofNat i)), .val (.long qe), .second, .val (.long qp), .second, .unset] [(.long qp), (.long qe), (.ref aa)])) rfl (by rw [hml]; rfl) (Steps.refl _) (a := aa) (by rw [e0]; exact q729) q729' (argsL := [(.long qe), (.long qp)]) (rest := []) (lenOf pd_711708 rfl) rfl (by show 2 * 0 + _ ≤ _; exact Nat.le_of_eq rfl) (hb hby d5_3_8) (fun _ _ => ⟨rfl, e0, (by decide : 0 + 0 ≤ _), (by decide : 0 + 0 ≤ _)⟩)
    dsimp only [Pt.U, Pt.locs, Pt.cells, Pt.slots] at X729 l729 y729 z729 st729 hQ729
    subst l729 y729 z729
    obtain ⟨rfl, N729q, K729c, G729_0⟩ := hQ729
    have N729 := Fr.app N0 N729q
    have E_730 := t727_0.keep K729c
    have Z729 : n0 ≤ T729.heap.size := Nat.le_trans Z0 K729c.1
    have K729 : Keep h0 T729.heap [aa, ae, ap, aS, ah, al, ar] := (Keep.refl h0 [aa, ae, ap, aS, ah, al, ar]).trans K729c (allS (P := fun x => x ∈ [aa, ae, ap, aS, ah, al, ar] ∨ h0.size ≤ x) (Or.inl (List.mem_of_getElem? (i := 0) rfl)) (allS (P := fun x => x ∈ [aa, ae, ap, aS, ah, al, ar] ∨ h0.size ≤ x) (Or.inl (List.mem_of_getElem? (i := 1) rfl)) (allS (P := fun x => x ∈ [aa, ae, ap, aS, ah, al, ar] ∨ h0.size ≤ x) (Or.inl (List.mem_of_getElem? (i := 2) rfl)) (allS (P := fun x => x ∈ [aa, ae, ap, aS, ah, al, ar] ∨ h0.size ≤ x) (Or.inl (List.mem_of_getElem? (i := 3) rfl)) (allS (P := fun x => x ∈ [aa, ae, ap, aS, ah, al, ar] ∨ h0.size ≤ x) (Or.inl (List.mem_of_getElem? (i := 4) rfl)) (allS (P := fun x => x ∈ [aa, ae, ap, aS, ah, al, ar] ∨ h0.size ≤ x) (Or.inl (List.mem_of_getElem? (i := 5) rfl)) (allS (P := fun x => x ∈ [aa, ae, ap, aS, ah, al, ar] ∨ h0.size ≤ x) (Or.inl (List.mem_of_getElem? (i := 6) rfl)) all0)))))))
    obtain ⟨t731_0, t731_1, t731_2, t731_3, t731_4, t731_5, t731_6, t731_7, t731_8, t731_9, t731_10, t731_11, t731_12, t731_13, t731_14, t731_15⟩ := G729_0
    have hbq := own_add_nil (0 + 1 + 1) (S := S) (md := md) qe qp ((own_z hi).mp hc728)
    obtain ⟨fs, hr, hrun, hended, hW, hsame⟩ := X729.leave (v := some (.int (Int32.ofNat md))) (fun h => by rw [Bd.returns] at h; cases h)
    refine ⟨_, _, pre0 _ ?_, hrun, hended, _, _, rfl, ?_, ⟨_, rfl⟩, hW, hsame.mono (by decide) (by decide)⟩
    · show Steps p.tables e below (s₁.setTop (mkF m 0 #[.val (.ref aa), .val (.int (Int32.ofNat i)), .val (.long qe), .second, .val (.long qp), .second, .unset] [])) _
      refine XS.iloadN X0.here hx rfl (hb hby d5_3_0) rfl ?_
      show Steps p.tables e below (s₁.setTop (mkF m 1 #[.val (.ref aa), .val (.int (Int32.ofNat i)), .val (.long qe), .second, .val (.long qp), .second, .unset] [(.int (Int32.ofNat i))])) _
      refine XS.ifNo X0.here hx rfl (hb hby d5_3_1) rfl ((if0 _ _).trans (teq hc728).2) ?_
      show Steps p.tables e below (s₁.setTop (mkF m 4 #[.val (.ref aa), .val (.int (Int32.ofNat i)), .val (.long qe), .second, .val (.long qp), .second, .unset] [])) _
      refine XS.aloadN X0.here hx rfl (hb hby d5_3_4) rfl rfl ?_
      show Steps p.tables e below (s₁.setTop (mkF m 5 #[.val (.ref aa), .val (.int (Int32.ofNat i)), .val (.long qe), .second, .val (.long qp), .second, .unset] [(.ref aa)])) _
      refine XS.lloadN X0.here hx rfl (hb hby d5_3_5) rfl ?_
      show Steps p.tables e below (s₁.setTop (mkF m 6 #[.val (.ref aa), .val (.int (Int32.ofNat i)), .val (.long qe), .second, .val (.long qp), .second, .unset] [(.long qe), (.ref aa)])) _
      refine XS.lload X0.here hx rfl (hb hby d5_3_6) rfl ?_
      show Steps p.tables e below (s₁.setTop (mkF m 8 #[.val (.ref aa), .val (.int (Int32.ofNat i)), .val (.long qe), .second, .val (.long qp), .second, .unset] [(.long qp), (.long qe), (.ref aa)])) _
      refine st729.trans ?_
      show Steps p.tables e below (T729.setTop (mkF m 11 #[.val (.ref aa), .val (.int (Int32.ofNat i)), .val (.long qe), .second, .val (.long qp), .second, .unset] [(.int (Int32.ofNat md))])) _
      refine XS.istore X729.here hx rfl (hb hby d5_3_11) rfl (l' := #[.val (.ref aa), .val (.int (Int32.ofNat i)), .val (.long qe), .second, .val (.long qp), .second, .val (.int (Int32.ofNat md))]) rfl ?_
      show Steps p.tables e below (T729.setTop (mkF m 13 #[.val (.ref aa), .val (.int (Int32.ofNat i)), .val (.long qe), .second, .val (.long qp), .second, .val (.int (Int32.ofNat md))] [])) _
      refine XS.goto X729.here hx rfl (pc0 := 13) (pc' := 100) rfl (hb hby d5_3_13) (by decide) (by decide) ?_
      show Steps p.tables e below (T729.setTop (mkF m 100 #[.val (.ref aa), .val (.int (Int32.ofNat i)), .val (.long qe), .second, .val (.long qp), .second, .val (.int (Int32.ofNat md))] [])) _
      refine XS.iload X729.here hx rfl (hb hby d5_3_100) rfl ?_
      show Steps p.tables e below (T729.setTop (mkF m 102 #[.val (.ref aa), .val (.int (Int32.ofNat i)), .val (.long qe), .second, .val (.long qp), .second, .val (.int (Int32.ofNat md))] [(.int (Int32.ofNat md))])) _
      exact retI X729 hx Bd.returns (hb hby d5_3_102) hr
    · show Q5_3 Z aa ae ap aS ah al ar S rt md i B qe qp h0 n0 _ T729.heap _
      unfold Q5_3
      rw [hbq]
      exact ⟨rfl, N729, K729, (TR.mk (S := (own_make S md qe qp)) t731_0 t731_1 t731_2 t731_3 t731_4 t731_5 t731_6 t731_7 t731_8 t731_9 t731_10 t731_11 t731_12 t731_13 t731_14 t731_15)⟩
  · have hz : ¬ i = 0 := fun q => hc728 ((own_z hi).mpr q)
    obtain ⟨T732, X732, e732, st732⟩ := getF X0 hx hZ hown (host := "") (Or.inl (hw _ (List.mem_of_getElem? (i := 10) rfl))) Via.refl e0 t727_1 (g := (mkF m 18 #[.val (.ref aa), .val (.int (Int32.ofNat i)), .val (.long qe), .second, .val (.long qp), .second, .unset] [(.ref aa), (.long qe)])) rfl rfl (hb hby d5_3_18)
    by_cases hc733 : (lcmpW qe ((own_e S) i)) < (0 : Int32)
    · have hlt : qe < own_e S i := (lw_lt _ _).mp hc733
      obtain ⟨T734, X734, e734, st734⟩ := getF X732 hx hZ hown (host := "") (Or.inl (hw _ (List.mem_of_getElem? (i := 19) rfl))) Via.refl e732 t727_5 (g := (mkF m 28 #[.val (.ref aa), .val (.int (Int32.ofNat i)), .val (.long qe), .second, .val (.long qp), .second, .unset] [(.ref aa)])) rfl rfl (hb hby d5_3_28)
      obtain ⟨T735, X735, e735, st735⟩ := getF X734 hx hZ hown (host := "") (Or.inl (hw _ (List.mem_of_getElem? (i := 19) rfl))) Via.refl e734 t727_5 (g := (mkF m 34 #[.val (.ref aa), .val (.int (Int32.ofNat i)), .val (.long qe), .second, .val (.long qp), .second, .unset] [(.ref aa), (.ref aa), (.int (Int32.ofNat i)), (.ref al)])) rfl rfl (hb hby d5_3_34)
      obtain ⟨cq736, q736, q736'⟩ := t727_0.cell
      obtain ⟨_, _, ⟨T736, L736, k736, n736⟩, -, X736, ⟨Lc736, hQ736, l736, y736, z736⟩, st736⟩ := X735.privateBack hx (y := (⟨"com/example/berthline/berthline/engine/replay/EstimatedEnds", "add", "(IJJ)I"⟩ : MethodName)) hown (mvT hZ (hw _ (List.mem_of_getElem? (i := 39) rfl))) (mvT hZ (hw _ (List.mem_of_getElem? (i := 40) rfl))) (own_selects hZ (hw _ (List.mem_of_getElem? (i := 1) rfl)) (hw _ (List.mem_of_getElem? (i := 41) rfl)) (hw _ (List.mem_of_getElem? (i := 40) rfl)) (by decide)) (Cond.privateMethod_at (mvP hZ (hw _ (List.mem_of_getElem? (i := 41) rfl)) (args := #[]))) (mvT hZ (hw _ (List.mem_of_getElem? (i := 42) rfl))) (by decide) (backOf (W := 2) (rm5_2 l Z a0 hw [] aa ae ap aS ah al ar S rt md ((own_l S) i) B qe qp h0 n0 Z0 g_aa g_ae g_ap g_aS g_ah g_al g_ar hD (TR.mk (S := S) t727_0 t727_1 t727_2 t727_3 t727_4 t727_5 t727_6 t727_7 t727_8 t727_9 t727_10 t727_11 t727_12 t727_13 t727_14 t727_15) (hok.1 _) hok (by omega) hmd (own_deep_l hdeep hz)) hZ (hw _ (List.mem_of_getElem? (i := 42) rfl)) (hw _ (List.mem_of_getElem? (i := 2) rfl)) (by decide) (by decide)) (g := (mkF m 42 #[.val (.ref aa), .val (.int (Int32.ofNat i)), .val (.long qe), .second, .val (.long qp), .second, .unset] [(.long qp), (.long qe), (.int (Int32.ofNat ((own_l S) i))), (.ref aa), (.int (Int32.ofNat i)), (.ref al)])) rfl (by rw [hml]; rfl) (Steps.refl _) (a := aa) (by rw [e735]; exact q736) q736' (argsL := [(.int (Int32.ofNat ((own_l S) i))), (.long qe), (.long qp)]) (rest := [(.int (Int32.ofNat i)), (.ref al)]) (lenOf pd_63945 rfl) rfl (by show 2 * 0 + _ ≤ _; exact Nat.le_of_eq rfl) (hb hby d5_3_42) (fun _ _ => ⟨rfl, e735, (by decide : 0 + 0 ≤ _), (by decide : 0 + 0 ≤ _)⟩)
      dsimp only [Pt.U, Pt.locs, Pt.cells, Pt.slots] at X736 l736 y736 z736 st736 hQ736
      subst l736 y736 z736
      obtain ⟨rfl, N736q, K736c, G736_0⟩ := hQ736
      have N736 := Fr.app N0 N736q
      have E_737 := t727_0.keep K736c
      have Z736 : n0 ≤ T736.heap.size := Nat.le_trans Z0 K736c.1
      have K736 : Keep h0 T736.heap [aa, ae, ap, aS, ah, al, ar] := (Keep.refl h0 [aa, ae, ap, aS, ah, al, ar]).trans K736c (allS (P := fun x => x ∈ [aa, ae, ap, aS, ah, al, ar] ∨ h0.size ≤ x) (Or.inl (List.mem_of_getElem? (i := 0) rfl)) (allS (P := fun x => x ∈ [aa, ae, ap, aS, ah, al, ar] ∨ h0.size ≤ x) (Or.inl (List.mem_of_getElem? (i := 1) rfl)) (allS (P := fun x => x ∈ [aa, ae, ap, aS, ah, al, ar] ∨ h0.size ≤ x) (Or.inl (List.mem_of_getElem? (i := 2) rfl)) (allS (P := fun x => x ∈ [aa, ae, ap, aS, ah, al, ar] ∨ h0.size ≤ x) (Or.inl (List.mem_of_getElem? (i := 3) rfl)) (allS (P := fun x => x ∈ [aa, ae, ap, aS, ah, al, ar] ∨ h0.size ≤ x) (Or.inl (List.mem_of_getElem? (i := 4) rfl)) (allS (P := fun x => x ∈ [aa, ae, ap, aS, ah, al, ar] ∨ h0.size ≤ x) (Or.inl (List.mem_of_getElem? (i := 5) rfl)) (allS (P := fun x => x ∈ [aa, ae, ap, aS, ah, al, ar] ∨ h0.size ≤ x) (Or.inl (List.mem_of_getElem? (i := 6) rfl)) all0)))))))
      obtain ⟨t738_0, t738_1, t738_2, t738_3, t738_4, t738_5, t738_6, t738_7, t738_8, t738_9, t738_10, t738_11, t738_12, t738_13, t738_14, t738_15⟩ := G736_0
      have hokR := (own_ok_add (0 + 1 + 1) hok (hok.1 i) hmd qe qp)
      obtain ⟨R, hR⟩ : ∃ z, z = (own_add (0 + 1 + 1) S md ((own_l S) i) qe qp) := ⟨_, rfl⟩
      rw [← hR] at t738_8 t738_10 t738_11 t738_12 t738_13 t738_14 t738_15 hokR
      obtain ⟨T739, h739, X739, e739, W739, V739, st739⟩ := IA.store X736 hx hZ rfl t738_14 i (own_cl hi (by decide)) (own_nn hi (by decide)) hi (x := R.2.2) (g := (mkF m 45 #[.val (.ref aa), .val (.int (Int32.ofNat i)), .val (.long qe), .second, .val (.long qp), .second, .unset] [(.int (Int32.ofNat R.2.2)), (.int (Int32.ofNat i)), (.ref al)])) rfl rfl (hb hby d5_3_45)
      have E_740 := t738_0.wr W739
      have F_741 := t738_1.other W739 (Or.inl dd726_4)
      have F_742 := t738_2.other W739 (Or.inl dd726_4)
      have F_743 := t738_3.other W739 (Or.inl dd726_4)
      have F_744 := t738_4.other W739 (Or.inl dd726_4)
      have F_745 := t738_5.other W739 (Or.inl dd726_4)
      have F_746 := t738_6.other W739 (Or.inl dd726_4)
      have F_747 := t738_7.other W739 (Or.inl dd726_4)
      have F_748 := t738_8.other W739 (Or.inl dd726_4)
      have F_749 := t738_9.other W739 (Or.inl dd726_4)
      have V_750 := t738_10.other W739 dd726_9
      have V_751 := t738_11.other W739 dd726_13
      have V_752 := t738_12.other W739 dd726_16
      have V_753 := t738_13.other W739 dd726_18
      have V_754 := t738_15.other W739 (Ne.symm dd726_20)
      have N739 := Fr.snoc X739 N736 g_al
      have Z739 : n0 ≤ h739.size := Nat.le_trans Z736 (Keep.of_wr W739).1
      have K739 : Keep h0 h739 [aa, ae, ap, aS, ah, al, ar] := K736.wr W739 (Or.inl (List.mem_of_getElem? (i := 5) rfl))
      obtain ⟨cq755, q755, q755'⟩ := E_740.cell
      obtain ⟨_, _, ⟨T755, L755, k755, n755⟩, -, X755, ⟨Lc755, hQ755, l755, y755, z755⟩, st755⟩ := X739.privateBack hx (y := (⟨"com/example/berthline/berthline/engine/replay/EstimatedEnds", "balance", "(I)I"⟩ : MethodName)) hown (mvT hZ (hw _ (List.mem_of_getElem? (i := 47) rfl))) (mvT hZ (hw _ (List.mem_of_getElem? (i := 48) rfl))) (own_selects hZ (hw _ (List.mem_of_getElem? (i := 1) rfl)) (hw _ (List.mem_of_getElem? (i := 49) rfl)) (hw _ (List.mem_of_getElem? (i := 48) rfl)) (by decide)) (Cond.privateMethod_at (mvP hZ (hw _ (List.mem_of_getElem? (i := 49) rfl)) (args := #[]))) (mvT hZ (hw _ (List.mem_of_getElem? (i := 50) rfl))) (by decide) (backOf (W := 0) (rm7 l Z a0 hw [] aa ae ap aS ah al ar (own_setL R.1 i R.2.2) rt R.2.1 i (B + 5 * (0 + 1 + 1)) h739 n0 Z739 g_aa g_ae g_ap g_aS g_ah g_al g_ar hD (TR.mk (S := (own_setL R.1 i R.2.2)) E_740 F_741 F_742 F_743 F_744 F_745 F_746 F_747 F_748 F_749 V_750 V_751 V_752 V_753 V739 V_754) hi (own_ok_setL hokR.1 hokR.2) (by omega)) hZ (hw _ (List.mem_of_getElem? (i := 50) rfl)) (hw _ (List.mem_of_getElem? (i := 2) rfl)) (by decide) (by decide)) (g := (mkF m 95 #[.val (.ref aa), .val (.int (Int32.ofNat i)), .val (.long qe), .second, .val (.long qp), .second, .unset] [(.int (Int32.ofNat i)), (.ref aa)])) rfl (by rw [hml]; rfl) (Steps.refl _) (a := aa) (by rw [e739]; exact q755) q755' (argsL := [(.int (Int32.ofNat i))]) (rest := []) (lenOf pd_216441 rfl) rfl (by show 2 * 0 + _ ≤ _; exact Nat.le_of_eq rfl) (hb hby d5_3_95) (fun _ _ => ⟨rfl, e739, (by decide : 0 + 0 ≤ _), (by decide : 0 + 0 ≤ _)⟩)
      dsimp only [Pt.U, Pt.locs, Pt.cells, Pt.slots] at X755 l755 y755 z755 st755 hQ755
      subst l755 y755 z755
      obtain ⟨rfl, N755q, K755c, G755_0⟩ := hQ755
      have N755 := Fr.app N739 N755q
      have E_756 := E_740.keep K755c
      have Z755 : n0 ≤ T755.heap.size := Nat.le_trans Z739 K755c.1
      have K755 : Keep h0 T755.heap [aa, ae, ap, aS, ah, al, ar] := K739.trans K755c (allS (P := fun x => x ∈ [aa, ae, ap, aS, ah, al, ar] ∨ h0.size ≤ x) (Or.inl (List.mem_of_getElem? (i := 0) rfl)) (allS (P := fun x => x ∈ [aa, ae, ap, aS, ah, al, ar] ∨ h0.size ≤ x) (Or.inl (List.mem_of_getElem? (i := 1) rfl)) (allS (P := fun x => x ∈ [aa, ae, ap, aS, ah, al, ar] ∨ h0.size ≤ x) (Or.inl (List.mem_of_getElem? (i := 2) rfl)) (allS (P := fun x => x ∈ [aa, ae, ap, aS, ah, al, ar] ∨ h0.size ≤ x) (Or.inl (List.mem_of_getElem? (i := 3) rfl)) (allS (P := fun x => x ∈ [aa, ae, ap, aS, ah, al, ar] ∨ h0.size ≤ x) (Or.inl (List.mem_of_getElem? (i := 4) rfl)) (allS (P := fun x => x ∈ [aa, ae, ap, aS, ah, al, ar] ∨ h0.size ≤ x) (Or.inl (List.mem_of_getElem? (i := 5) rfl)) (allS (P := fun x => x ∈ [aa, ae, ap, aS, ah, al, ar] ∨ h0.size ≤ x) (Or.inl (List.mem_of_getElem? (i := 6) rfl)) all0)))))))
      obtain ⟨t757_0, t757_1, t757_2, t757_3, t757_4, t757_5, t757_6, t757_7, t757_8, t757_9, t757_10, t757_11, t757_12, t757_13, t757_14, t757_15⟩ := G755_0
      have hbq := own_add_lt (0 + 1 + 1) (md := md) (p := qp) hz hlt
      rw [← hR] at hbq
      obtain ⟨fs, hr, hrun, hended, hW, hsame⟩ := X755.leave (v := some (.int (Int32.ofNat (own_bal (own_setL R.1 i R.2.2) i).2))) (fun h => by rw [Bd.returns] at h; cases h)
      refine ⟨_, _, pre0 _ ?_, hrun, hended, _, _, rfl, ?_, ⟨_, rfl⟩, hW, hsame.mono (by decide) (by decide)⟩
      · show Steps p.tables e below (s₁.setTop (mkF m 0 #[.val (.ref aa), .val (.int (Int32.ofNat i)), .val (.long qe), .second, .val (.long qp), .second, .unset] [])) _
        refine XS.iloadN X0.here hx rfl (hb hby d5_3_0) rfl ?_
        show Steps p.tables e below (s₁.setTop (mkF m 1 #[.val (.ref aa), .val (.int (Int32.ofNat i)), .val (.long qe), .second, .val (.long qp), .second, .unset] [(.int (Int32.ofNat i))])) _
        refine XS.ifYes X0.here hx rfl (pc0 := 1) (pc' := 16) rfl (hb hby d5_3_1) rfl ((if0 _ _).trans (feq hc728).2) (by decide) (by decide) ?_
        show Steps p.tables e below (s₁.setTop (mkF m 16 #[.val (.ref aa), .val (.int (Int32.ofNat i)), .val (.long qe), .second, .val (.long qp), .second, .unset] [])) _
        refine XS.lloadN X0.here hx rfl (hb hby d5_3_16) rfl ?_
        show Steps p.tables e below (s₁.setTop (mkF m 17 #[.val (.ref aa), .val (.int (Int32.ofNat i)), .val (.long qe), .second, .val (.long qp), .second, .unset] [(.long qe)])) _
        refine XS.aloadN X0.here hx rfl (hb hby d5_3_17) rfl rfl ?_
        show Steps p.tables e below (s₁.setTop (mkF m 18 #[.val (.ref aa), .val (.int (Int32.ofNat i)), .val (.long qe), .second, .val (.long qp), .second, .unset] [(.ref aa), (.long qe)])) _
        refine st732 _ ?_
        show Steps p.tables e below (T732.setTop (mkF m 21 #[.val (.ref aa), .val (.int (Int32.ofNat i)), .val (.long qe), .second, .val (.long qp), .second, .unset] [(.ref ae), (.long qe)])) _
        refine XS.iloadN X732.here hx rfl (hb hby d5_3_21) rfl ?_
        show Steps p.tables e below (T732.setTop (mkF m 22 #[.val (.ref aa), .val (.int (Int32.ofNat i)), .val (.long qe), .second, .val (.long qp), .second, .unset] [(.int (Int32.ofNat i)), (.ref ae), (.long qe)])) _
        refine JA.load X732 hx hZ e732 t727_10 i (own_cl hi (by decide)) (own_nn hi (by decide)) hi (g := (mkF m 22 #[.val (.ref aa), .val (.int (Int32.ofNat i)), .val (.long qe), .second, .val (.long qp), .second, .unset] [(.int (Int32.ofNat i)), (.ref ae), (.long qe)])) rfl rfl (hb hby d5_3_22) _ ?_
        show Steps p.tables e below (T732.setTop (mkF m 23 #[.val (.ref aa), .val (.int (Int32.ofNat i)), .val (.long qe), .second, .val (.long qp), .second, .unset] [(.long ((own_e S) i)), (.long qe)])) _
        refine XS.lcmp X732.here hx rfl (hb hby d5_3_23) rfl ?_
        show Steps p.tables e below (T732.setTop (mkF m 24 #[.val (.ref aa), .val (.int (Int32.ofNat i)), .val (.long qe), .second, .val (.long qp), .second, .unset] [(.int (lcmpW qe ((own_e S) i)))])) _
        refine XS.ifNo X732.here hx rfl (hb hby d5_3_24) rfl ((if0 _ _).trans (tlt hc733).2.1) ?_
        show Steps p.tables e below (T732.setTop (mkF m 27 #[.val (.ref aa), .val (.int (Int32.ofNat i)), .val (.long qe), .second, .val (.long qp), .second, .unset] [])) _
        refine XS.aloadN X732.here hx rfl (hb hby d5_3_27) rfl rfl ?_
        show Steps p.tables e below (T732.setTop (mkF m 28 #[.val (.ref aa), .val (.int (Int32.ofNat i)), .val (.long qe), .second, .val (.long qp), .second, .unset] [(.ref aa)])) _
        refine st734 _ ?_
        show Steps p.tables e below (T734.setTop (mkF m 31 #[.val (.ref aa), .val (.int (Int32.ofNat i)), .val (.long qe), .second, .val (.long qp), .second, .unset] [(.ref al)])) _
        refine XS.iloadN X734.here hx rfl (hb hby d5_3_31) rfl ?_
        show Steps p.tables e below (T734.setTop (mkF m 32 #[.val (.ref aa), .val (.int (Int32.ofNat i)), .val (.long qe), .second, .val (.long qp), .second, .unset] [(.int (Int32.ofNat i)), (.ref al)])) _
        refine XS.aloadN X734.here hx rfl (hb hby d5_3_32) rfl rfl ?_
        show Steps p.tables e below (T734.setTop (mkF m 33 #[.val (.ref aa), .val (.int (Int32.ofNat i)), .val (.long qe), .second, .val (.long qp), .second, .unset] [(.ref aa), (.int (Int32.ofNat i)), (.ref al)])) _
        refine XS.aloadN X734.here hx rfl (hb hby d5_3_33) rfl rfl ?_
        show Steps p.tables e below (T734.setTop (mkF m 34 #[.val (.ref aa), .val (.int (Int32.ofNat i)), .val (.long qe), .second, .val (.long qp), .second, .unset] [(.ref aa), (.ref aa), (.int (Int32.ofNat i)), (.ref al)])) _
        refine st735 _ ?_
        show Steps p.tables e below (T735.setTop (mkF m 37 #[.val (.ref aa), .val (.int (Int32.ofNat i)), .val (.long qe), .second, .val (.long qp), .second, .unset] [(.ref al), (.ref aa), (.int (Int32.ofNat i)), (.ref al)])) _
        refine XS.iloadN X735.here hx rfl (hb hby d5_3_37) rfl ?_
        show Steps p.tables e below (T735.setTop (mkF m 38 #[.val (.ref aa), .val (.int (Int32.ofNat i)), .val (.long qe), .second, .val (.long qp), .second, .unset] [(.int (Int32.ofNat i)), (.ref al), (.ref aa), (.int (Int32.ofNat i)), (.ref al)])) _
        refine IA.load X735 hx hZ e735 t727_14 i (own_cl hi (by decide)) (own_nn hi (by decide)) hi (g := (mkF m 38 #[.val (.ref aa), .val (.int (Int32.ofNat i)), .val (.long qe), .second, .val (.long qp), .second, .unset] [(.int (Int32.ofNat i)), (.ref al), (.ref aa), (.int (Int32.ofNat i)), (.ref al)])) rfl rfl (hb hby d5_3_38) _ ?_
        show Steps p.tables e below (T735.setTop (mkF m 39 #[.val (.ref aa), .val (.int (Int32.ofNat i)), .val (.long qe), .second, .val (.long qp), .second, .unset] [(.int (Int32.ofNat ((own_l S) i))), (.ref aa), (.int (Int32.ofNat i)), (.ref al)])) _
        refine XS.lloadN X735.here hx rfl (hb hby d5_3_39) rfl ?_
        show Steps p.tables e below (T735.setTop (mkF m 40 #[.val (.ref aa), .val (.int (Int32.ofNat i)), .val (.long qe), .second, .val (.long qp), .second, .unset] [(.long qe), (.int (Int32.ofNat ((own_l S) i))), (.ref aa), (.int (Int32.ofNat i)), (.ref al)])) _
        refine XS.lload X735.here hx rfl (hb hby d5_3_40) rfl ?_
        show Steps p.tables e below (T735.setTop (mkF m 42 #[.val (.ref aa), .val (.int (Int32.ofNat i)), .val (.long qe), .second, .val (.long qp), .second, .unset] [(.long qp), (.long qe), (.int (Int32.ofNat ((own_l S) i))), (.ref aa), (.int (Int32.ofNat i)), (.ref al)])) _
        refine st736.trans ?_
        show Steps p.tables e below (T736.setTop (mkF m 45 #[.val (.ref aa), .val (.int (Int32.ofNat i)), .val (.long qe), .second, .val (.long qp), .second, .unset] [(.int (Int32.ofNat (own_add (0 + 1 + 1) S md ((own_l S) i) qe qp).2.2)), (.int (Int32.ofNat i)), (.ref al)])) _
        refine castTop (g' := (mkF m 45 #[.val (.ref aa), .val (.int (Int32.ofNat i)), .val (.long qe), .second, .val (.long qp), .second, .unset] [(.int (Int32.ofNat R.2.2)), (.int (Int32.ofNat i)), (.ref al)])) (by rw [hR]) ?_
        show Steps p.tables e below (T736.setTop (mkF m 45 #[.val (.ref aa), .val (.int (Int32.ofNat i)), .val (.long qe), .second, .val (.long qp), .second, .unset] [(.int (Int32.ofNat R.2.2)), (.int (Int32.ofNat i)), (.ref al)])) _
        refine st739 _ ?_
        show Steps p.tables e below (T739.setTop (mkF m 46 #[.val (.ref aa), .val (.int (Int32.ofNat i)), .val (.long qe), .second, .val (.long qp), .second, .unset] [])) _
        refine XS.goto X739.here hx rfl (pc0 := 46) (pc' := 93) rfl (hb hby d5_3_46) (by decide) (by decide) ?_
        show Steps p.tables e below (T739.setTop (mkF m 93 #[.val (.ref aa), .val (.int (Int32.ofNat i)), .val (.long qe), .second, .val (.long qp), .second, .unset] [])) _
        refine XS.aloadN X739.here hx rfl (hb hby d5_3_93) rfl rfl ?_
        show Steps p.tables e below (T739.setTop (mkF m 94 #[.val (.ref aa), .val (.int (Int32.ofNat i)), .val (.long qe), .second, .val (.long qp), .second, .unset] [(.ref aa)])) _
        refine XS.iloadN X739.here hx rfl (hb hby d5_3_94) rfl ?_
        show Steps p.tables e below (T739.setTop (mkF m 95 #[.val (.ref aa), .val (.int (Int32.ofNat i)), .val (.long qe), .second, .val (.long qp), .second, .unset] [(.int (Int32.ofNat i)), (.ref aa)])) _
        refine st755.trans ?_
        show Steps p.tables e below (T755.setTop (mkF m 98 #[.val (.ref aa), .val (.int (Int32.ofNat i)), .val (.long qe), .second, .val (.long qp), .second, .unset] [(.int (Int32.ofNat (own_bal (own_setL R.1 i R.2.2) i).2))])) _
        refine XS.istore X755.here hx rfl (hb hby d5_3_98) rfl (l' := #[.val (.ref aa), .val (.int (Int32.ofNat i)), .val (.long qe), .second, .val (.long qp), .second, .val (.int (Int32.ofNat (own_bal (own_setL R.1 i R.2.2) i).2))]) rfl ?_
        show Steps p.tables e below (T755.setTop (mkF m 100 #[.val (.ref aa), .val (.int (Int32.ofNat i)), .val (.long qe), .second, .val (.long qp), .second, .val (.int (Int32.ofNat (own_bal (own_setL R.1 i R.2.2) i).2))] [])) _
        refine XS.iload X755.here hx rfl (hb hby d5_3_100) rfl ?_
        show Steps p.tables e below (T755.setTop (mkF m 102 #[.val (.ref aa), .val (.int (Int32.ofNat i)), .val (.long qe), .second, .val (.long qp), .second, .val (.int (Int32.ofNat (own_bal (own_setL R.1 i R.2.2) i).2))] [(.int (Int32.ofNat (own_bal (own_setL R.1 i R.2.2) i).2))])) _
        exact retI X755 hx Bd.returns (hb hby d5_3_102) hr
      · show Q5_3 Z aa ae ap aS ah al ar S rt md i B qe qp h0 n0 _ T755.heap _
        unfold Q5_3
        rw [hbq]
        exact ⟨rfl, N755, K755, (TR.mk (S := (own_bal (own_setL R.1 i R.2.2) i).1) t757_0 t757_1 t757_2 t757_3 t757_4 t757_5 t757_6 t757_7 t757_8 t757_9 t757_10 t757_11 t757_12 t757_13 t757_14 t757_15)⟩
    · obtain ⟨T758, X758, e758, st758⟩ := getF X732 hx hZ hown (host := "") (Or.inl (hw _ (List.mem_of_getElem? (i := 10) rfl))) Via.refl e732 t727_1 (g := (mkF m 51 #[.val (.ref aa), .val (.int (Int32.ofNat i)), .val (.long qe), .second, .val (.long qp), .second, .unset] [(.ref aa), (.long qe)])) rfl rfl (hb hby d5_3_51)
      by_cases hc759 : (0 : Int32) < (lcmpW qe ((own_e S) i))
      · have hnl : ¬ qe < own_e S i := fun q => hc733 ((lw_lt _ _).mpr q)
        have hgt : own_e S i < qe := (lw_gt _ _).mp hc759
        obtain ⟨T760, X760, e760, st760⟩ := getF X758 hx hZ hown (host := "") (Or.inl (hw _ (List.mem_of_getElem? (i := 21) rfl))) Via.refl e758 t727_6 (g := (mkF m 61 #[.val (.ref aa), .val (.int (Int32.ofNat i)), .val (.long qe), .second, .val (.long qp), .second, .unset] [(.ref aa)])) rfl rfl (hb hby d5_3_61)
        obtain ⟨T761, X761, e761, st761⟩ := getF X760 hx hZ hown (host := "") (Or.inl (hw _ (List.mem_of_getElem? (i := 21) rfl))) Via.refl e760 t727_6 (g := (mkF m 67 #[.val (.ref aa), .val (.int (Int32.ofNat i)), .val (.long qe), .second, .val (.long qp), .second, .unset] [(.ref aa), (.ref aa), (.int (Int32.ofNat i)), (.ref ar)])) rfl rfl (hb hby d5_3_67)
        obtain ⟨cq762, q762, q762'⟩ := t727_0.cell
        obtain ⟨_, _, ⟨T762, L762, k762, n762⟩, -, X762, ⟨Lc762, hQ762, l762, y762, z762⟩, st762⟩ := X761.privateBack hx (y := (⟨"com/example/berthline/berthline/engine/replay/EstimatedEnds", "add", "(IJJ)I"⟩ : MethodName)) hown (mvT hZ (hw _ (List.mem_of_getElem? (i := 39) rfl))) (mvT hZ (hw _ (List.mem_of_getElem? (i := 40) rfl))) (own_selects hZ (hw _ (List.mem_of_getElem? (i := 1) rfl)) (hw _ (List.mem_of_getElem? (i := 41) rfl)) (hw _ (List.mem_of_getElem? (i := 40) rfl)) (by decide)) (Cond.privateMethod_at (mvP hZ (hw _ (List.mem_of_getElem? (i := 41) rfl)) (args := #[]))) (mvT hZ (hw _ (List.mem_of_getElem? (i := 42) rfl))) (by decide) (backOf (W := 2) (rm5_2 l Z a0 hw [] aa ae ap aS ah al ar S rt md ((own_r S) i) B qe qp h0 n0 Z0 g_aa g_ae g_ap g_aS g_ah g_al g_ar hD (TR.mk (S := S) t727_0 t727_1 t727_2 t727_3 t727_4 t727_5 t727_6 t727_7 t727_8 t727_9 t727_10 t727_11 t727_12 t727_13 t727_14 t727_15) (hok.2.1 _) hok (by omega) hmd (own_deep_r hdeep hz)) hZ (hw _ (List.mem_of_getElem? (i := 42) rfl)) (hw _ (List.mem_of_getElem? (i := 2) rfl)) (by decide) (by decide)) (g := (mkF m 75 #[.val (.ref aa), .val (.int (Int32.ofNat i)), .val (.long qe), .second, .val (.long qp), .second, .unset] [(.long qp), (.long qe), (.int (Int32.ofNat ((own_r S) i))), (.ref aa), (.int (Int32.ofNat i)), (.ref ar)])) rfl (by rw [hml]; rfl) (Steps.refl _) (a := aa) (by rw [e761]; exact q762) q762' (argsL := [(.int (Int32.ofNat ((own_r S) i))), (.long qe), (.long qp)]) (rest := [(.int (Int32.ofNat i)), (.ref ar)]) (lenOf pd_63945 rfl) rfl (by show 2 * 0 + _ ≤ _; exact Nat.le_of_eq rfl) (hb hby d5_3_75) (fun _ _ => ⟨rfl, e761, (by decide : 0 + 0 ≤ _), (by decide : 0 + 0 ≤ _)⟩)
        dsimp only [Pt.U, Pt.locs, Pt.cells, Pt.slots] at X762 l762 y762 z762 st762 hQ762
        subst l762 y762 z762
        obtain ⟨rfl, N762q, K762c, G762_0⟩ := hQ762
        have N762 := Fr.app N0 N762q
        have E_763 := t727_0.keep K762c
        have Z762 : n0 ≤ T762.heap.size := Nat.le_trans Z0 K762c.1
        have K762 : Keep h0 T762.heap [aa, ae, ap, aS, ah, al, ar] := (Keep.refl h0 [aa, ae, ap, aS, ah, al, ar]).trans K762c (allS (P := fun x => x ∈ [aa, ae, ap, aS, ah, al, ar] ∨ h0.size ≤ x) (Or.inl (List.mem_of_getElem? (i := 0) rfl)) (allS (P := fun x => x ∈ [aa, ae, ap, aS, ah, al, ar] ∨ h0.size ≤ x) (Or.inl (List.mem_of_getElem? (i := 1) rfl)) (allS (P := fun x => x ∈ [aa, ae, ap, aS, ah, al, ar] ∨ h0.size ≤ x) (Or.inl (List.mem_of_getElem? (i := 2) rfl)) (allS (P := fun x => x ∈ [aa, ae, ap, aS, ah, al, ar] ∨ h0.size ≤ x) (Or.inl (List.mem_of_getElem? (i := 3) rfl)) (allS (P := fun x => x ∈ [aa, ae, ap, aS, ah, al, ar] ∨ h0.size ≤ x) (Or.inl (List.mem_of_getElem? (i := 4) rfl)) (allS (P := fun x => x ∈ [aa, ae, ap, aS, ah, al, ar] ∨ h0.size ≤ x) (Or.inl (List.mem_of_getElem? (i := 5) rfl)) (allS (P := fun x => x ∈ [aa, ae, ap, aS, ah, al, ar] ∨ h0.size ≤ x) (Or.inl (List.mem_of_getElem? (i := 6) rfl)) all0)))))))
        obtain ⟨t764_0, t764_1, t764_2, t764_3, t764_4, t764_5, t764_6, t764_7, t764_8, t764_9, t764_10, t764_11, t764_12, t764_13, t764_14, t764_15⟩ := G762_0
        have hokR := (own_ok_add (0 + 1 + 1) hok (hok.2.1 i) hmd qe qp)
        obtain ⟨R, hR⟩ : ∃ z, z = (own_add (0 + 1 + 1) S md ((own_r S) i) qe qp) := ⟨_, rfl⟩
        rw [← hR] at t764_8 t764_10 t764_11 t764_12 t764_13 t764_14 t764_15 hokR
        obtain ⟨T765, h765, X765, e765, W765, V765, st765⟩ := IA.store X762 hx hZ rfl t764_15 i (own_cl hi (by decide)) (own_nn hi (by decide)) hi (x := R.2.2) (g := (mkF m 78 #[.val (.ref aa), .val (.int (Int32.ofNat i)), .val (.long qe), .second, .val (.long qp), .second, .unset] [(.int (Int32.ofNat R.2.2)), (.int (Int32.ofNat i)), (.ref ar)])) rfl rfl (hb hby d5_3_78)
        have E_766 := t764_0.wr W765
        have F_767 := t764_1.other W765 (Or.inl dd726_5)
        have F_768 := t764_2.other W765 (Or.inl dd726_5)
        have F_769 := t764_3.other W765 (Or.inl dd726_5)
        have F_770 := t764_4.other W765 (Or.inl dd726_5)
        have F_771 := t764_5.other W765 (Or.inl dd726_5)
        have F_772 := t764_6.other W765 (Or.inl dd726_5)
        have F_773 := t764_7.other W765 (Or.inl dd726_5)
        have F_774 := t764_8.other W765 (Or.inl dd726_5)
        have F_775 := t764_9.other W765 (Or.inl dd726_5)
        have V_776 := t764_10.other W765 dd726_10
        have V_777 := t764_11.other W765 dd726_14
        have V_778 := t764_12.other W765 dd726_17
        have V_779 := t764_13.other W765 dd726_19
        have V_780 := t764_14.other W765 dd726_20
        have N765 := Fr.snoc X765 N762 g_ar
        have Z765 : n0 ≤ h765.size := Nat.le_trans Z762 (Keep.of_wr W765).1
        have K765 : Keep h0 h765 [aa, ae, ap, aS, ah, al, ar] := K762.wr W765 (Or.inl (List.mem_of_getElem? (i := 6) rfl))
        obtain ⟨cq781, q781, q781'⟩ := E_766.cell
        obtain ⟨_, _, ⟨T781, L781, k781, n781⟩, -, X781, ⟨Lc781, hQ781, l781, y781, z781⟩, st781⟩ := X765.privateBack hx (y := (⟨"com/example/berthline/berthline/engine/replay/EstimatedEnds", "balance", "(I)I"⟩ : MethodName)) hown (mvT hZ (hw _ (List.mem_of_getElem? (i := 47) rfl))) (mvT hZ (hw _ (List.mem_of_getElem? (i := 48) rfl))) (own_selects hZ (hw _ (List.mem_of_getElem? (i := 1) rfl)) (hw _ (List.mem_of_getElem? (i := 49) rfl)) (hw _ (List.mem_of_getElem? (i := 48) rfl)) (by decide)) (Cond.privateMethod_at (mvP hZ (hw _ (List.mem_of_getElem? (i := 49) rfl)) (args := #[]))) (mvT hZ (hw _ (List.mem_of_getElem? (i := 50) rfl))) (by decide) (backOf (W := 0) (rm7 l Z a0 hw [] aa ae ap aS ah al ar (own_setR R.1 i R.2.2) rt R.2.1 i (B + 5 * (0 + 1 + 1)) h765 n0 Z765 g_aa g_ae g_ap g_aS g_ah g_al g_ar hD (TR.mk (S := (own_setR R.1 i R.2.2)) E_766 F_767 F_768 F_769 F_770 F_771 F_772 F_773 F_774 F_775 V_776 V_777 V_778 V_779 V_780 V765) hi (own_ok_setR hokR.1 hokR.2) (by omega)) hZ (hw _ (List.mem_of_getElem? (i := 50) rfl)) (hw _ (List.mem_of_getElem? (i := 2) rfl)) (by decide) (by decide)) (g := (mkF m 95 #[.val (.ref aa), .val (.int (Int32.ofNat i)), .val (.long qe), .second, .val (.long qp), .second, .unset] [(.int (Int32.ofNat i)), (.ref aa)])) rfl (by rw [hml]; rfl) (Steps.refl _) (a := aa) (by rw [e765]; exact q781) q781' (argsL := [(.int (Int32.ofNat i))]) (rest := []) (lenOf pd_216441 rfl) rfl (by show 2 * 0 + _ ≤ _; exact Nat.le_of_eq rfl) (hb hby d5_3_95) (fun _ _ => ⟨rfl, e765, (by decide : 0 + 0 ≤ _), (by decide : 0 + 0 ≤ _)⟩)
        dsimp only [Pt.U, Pt.locs, Pt.cells, Pt.slots] at X781 l781 y781 z781 st781 hQ781
        subst l781 y781 z781
        obtain ⟨rfl, N781q, K781c, G781_0⟩ := hQ781
        have N781 := Fr.app N765 N781q
        have E_782 := E_766.keep K781c
        have Z781 : n0 ≤ T781.heap.size := Nat.le_trans Z765 K781c.1
        have K781 : Keep h0 T781.heap [aa, ae, ap, aS, ah, al, ar] := K765.trans K781c (allS (P := fun x => x ∈ [aa, ae, ap, aS, ah, al, ar] ∨ h0.size ≤ x) (Or.inl (List.mem_of_getElem? (i := 0) rfl)) (allS (P := fun x => x ∈ [aa, ae, ap, aS, ah, al, ar] ∨ h0.size ≤ x) (Or.inl (List.mem_of_getElem? (i := 1) rfl)) (allS (P := fun x => x ∈ [aa, ae, ap, aS, ah, al, ar] ∨ h0.size ≤ x) (Or.inl (List.mem_of_getElem? (i := 2) rfl)) (allS (P := fun x => x ∈ [aa, ae, ap, aS, ah, al, ar] ∨ h0.size ≤ x) (Or.inl (List.mem_of_getElem? (i := 3) rfl)) (allS (P := fun x => x ∈ [aa, ae, ap, aS, ah, al, ar] ∨ h0.size ≤ x) (Or.inl (List.mem_of_getElem? (i := 4) rfl)) (allS (P := fun x => x ∈ [aa, ae, ap, aS, ah, al, ar] ∨ h0.size ≤ x) (Or.inl (List.mem_of_getElem? (i := 5) rfl)) (allS (P := fun x => x ∈ [aa, ae, ap, aS, ah, al, ar] ∨ h0.size ≤ x) (Or.inl (List.mem_of_getElem? (i := 6) rfl)) all0)))))))
        obtain ⟨t783_0, t783_1, t783_2, t783_3, t783_4, t783_5, t783_6, t783_7, t783_8, t783_9, t783_10, t783_11, t783_12, t783_13, t783_14, t783_15⟩ := G781_0
        have hbq := own_add_gt (0 + 1 + 1) (md := md) (p := qp) hz hnl hgt
        rw [← hR] at hbq
        obtain ⟨fs, hr, hrun, hended, hW, hsame⟩ := X781.leave (v := some (.int (Int32.ofNat (own_bal (own_setR R.1 i R.2.2) i).2))) (fun h => by rw [Bd.returns] at h; cases h)
        refine ⟨_, _, pre0 _ ?_, hrun, hended, _, _, rfl, ?_, ⟨_, rfl⟩, hW, hsame.mono (by decide) (by decide)⟩
        · show Steps p.tables e below (s₁.setTop (mkF m 0 #[.val (.ref aa), .val (.int (Int32.ofNat i)), .val (.long qe), .second, .val (.long qp), .second, .unset] [])) _
          refine XS.iloadN X0.here hx rfl (hb hby d5_3_0) rfl ?_
          show Steps p.tables e below (s₁.setTop (mkF m 1 #[.val (.ref aa), .val (.int (Int32.ofNat i)), .val (.long qe), .second, .val (.long qp), .second, .unset] [(.int (Int32.ofNat i))])) _
          refine XS.ifYes X0.here hx rfl (pc0 := 1) (pc' := 16) rfl (hb hby d5_3_1) rfl ((if0 _ _).trans (feq hc728).2) (by decide) (by decide) ?_
          show Steps p.tables e below (s₁.setTop (mkF m 16 #[.val (.ref aa), .val (.int (Int32.ofNat i)), .val (.long qe), .second, .val (.long qp), .second, .unset] [])) _
          refine XS.lloadN X0.here hx rfl (hb hby d5_3_16) rfl ?_
          show Steps p.tables e below (s₁.setTop (mkF m 17 #[.val (.ref aa), .val (.int (Int32.ofNat i)), .val (.long qe), .second, .val (.long qp), .second, .unset] [(.long qe)])) _
          refine XS.aloadN X0.here hx rfl (hb hby d5_3_17) rfl rfl ?_
          show Steps p.tables e below (s₁.setTop (mkF m 18 #[.val (.ref aa), .val (.int (Int32.ofNat i)), .val (.long qe), .second, .val (.long qp), .second, .unset] [(.ref aa), (.long qe)])) _
          refine st732 _ ?_
          show Steps p.tables e below (T732.setTop (mkF m 21 #[.val (.ref aa), .val (.int (Int32.ofNat i)), .val (.long qe), .second, .val (.long qp), .second, .unset] [(.ref ae), (.long qe)])) _
          refine XS.iloadN X732.here hx rfl (hb hby d5_3_21) rfl ?_
          show Steps p.tables e below (T732.setTop (mkF m 22 #[.val (.ref aa), .val (.int (Int32.ofNat i)), .val (.long qe), .second, .val (.long qp), .second, .unset] [(.int (Int32.ofNat i)), (.ref ae), (.long qe)])) _
          refine JA.load X732 hx hZ e732 t727_10 i (own_cl hi (by decide)) (own_nn hi (by decide)) hi (g := (mkF m 22 #[.val (.ref aa), .val (.int (Int32.ofNat i)), .val (.long qe), .second, .val (.long qp), .second, .unset] [(.int (Int32.ofNat i)), (.ref ae), (.long qe)])) rfl rfl (hb hby d5_3_22) _ ?_
          show Steps p.tables e below (T732.setTop (mkF m 23 #[.val (.ref aa), .val (.int (Int32.ofNat i)), .val (.long qe), .second, .val (.long qp), .second, .unset] [(.long ((own_e S) i)), (.long qe)])) _
          refine XS.lcmp X732.here hx rfl (hb hby d5_3_23) rfl ?_
          show Steps p.tables e below (T732.setTop (mkF m 24 #[.val (.ref aa), .val (.int (Int32.ofNat i)), .val (.long qe), .second, .val (.long qp), .second, .unset] [(.int (lcmpW qe ((own_e S) i)))])) _
          refine XS.ifYes X732.here hx rfl (pc0 := 24) (pc' := 49) rfl (hb hby d5_3_24) rfl ((if0 _ _).trans (flt hc733).2.1) (by decide) (by decide) ?_
          show Steps p.tables e below (T732.setTop (mkF m 49 #[.val (.ref aa), .val (.int (Int32.ofNat i)), .val (.long qe), .second, .val (.long qp), .second, .unset] [])) _
          refine XS.lloadN X732.here hx rfl (hb hby d5_3_49) rfl ?_
          show Steps p.tables e below (T732.setTop (mkF m 50 #[.val (.ref aa), .val (.int (Int32.ofNat i)), .val (.long qe), .second, .val (.long qp), .second, .unset] [(.long qe)])) _
          refine XS.aloadN X732.here hx rfl (hb hby d5_3_50) rfl rfl ?_
          show Steps p.tables e below (T732.setTop (mkF m 51 #[.val (.ref aa), .val (.int (Int32.ofNat i)), .val (.long qe), .second, .val (.long qp), .second, .unset] [(.ref aa), (.long qe)])) _
          refine st758 _ ?_
          show Steps p.tables e below (T758.setTop (mkF m 54 #[.val (.ref aa), .val (.int (Int32.ofNat i)), .val (.long qe), .second, .val (.long qp), .second, .unset] [(.ref ae), (.long qe)])) _
          refine XS.iloadN X758.here hx rfl (hb hby d5_3_54) rfl ?_
          show Steps p.tables e below (T758.setTop (mkF m 55 #[.val (.ref aa), .val (.int (Int32.ofNat i)), .val (.long qe), .second, .val (.long qp), .second, .unset] [(.int (Int32.ofNat i)), (.ref ae), (.long qe)])) _
          refine JA.load X758 hx hZ e758 t727_10 i (own_cl hi (by decide)) (own_nn hi (by decide)) hi (g := (mkF m 55 #[.val (.ref aa), .val (.int (Int32.ofNat i)), .val (.long qe), .second, .val (.long qp), .second, .unset] [(.int (Int32.ofNat i)), (.ref ae), (.long qe)])) rfl rfl (hb hby d5_3_55) _ ?_
          show Steps p.tables e below (T758.setTop (mkF m 56 #[.val (.ref aa), .val (.int (Int32.ofNat i)), .val (.long qe), .second, .val (.long qp), .second, .unset] [(.long ((own_e S) i)), (.long qe)])) _
          refine XS.lcmp X758.here hx rfl (hb hby d5_3_56) rfl ?_
          show Steps p.tables e below (T758.setTop (mkF m 57 #[.val (.ref aa), .val (.int (Int32.ofNat i)), .val (.long qe), .second, .val (.long qp), .second, .unset] [(.int (lcmpW qe ((own_e S) i)))])) _
          refine XS.ifNo X758.here hx rfl (hb hby d5_3_57) rfl ((if0 _ _).trans (tlt hc759).2.2.2) ?_
          show Steps p.tables e below (T758.setTop (mkF m 60 #[.val (.ref aa), .val (.int (Int32.ofNat i)), .val (.long qe), .second, .val (.long qp), .second, .unset] [])) _
          refine XS.aloadN X758.here hx rfl (hb hby d5_3_60) rfl rfl ?_
          show Steps p.tables e below (T758.setTop (mkF m 61 #[.val (.ref aa), .val (.int (Int32.ofNat i)), .val (.long qe), .second, .val (.long qp), .second, .unset] [(.ref aa)])) _
          refine st760 _ ?_
          show Steps p.tables e below (T760.setTop (mkF m 64 #[.val (.ref aa), .val (.int (Int32.ofNat i)), .val (.long qe), .second, .val (.long qp), .second, .unset] [(.ref ar)])) _
          refine XS.iloadN X760.here hx rfl (hb hby d5_3_64) rfl ?_
          show Steps p.tables e below (T760.setTop (mkF m 65 #[.val (.ref aa), .val (.int (Int32.ofNat i)), .val (.long qe), .second, .val (.long qp), .second, .unset] [(.int (Int32.ofNat i)), (.ref ar)])) _
          refine XS.aloadN X760.here hx rfl (hb hby d5_3_65) rfl rfl ?_
          show Steps p.tables e below (T760.setTop (mkF m 66 #[.val (.ref aa), .val (.int (Int32.ofNat i)), .val (.long qe), .second, .val (.long qp), .second, .unset] [(.ref aa), (.int (Int32.ofNat i)), (.ref ar)])) _
          refine XS.aloadN X760.here hx rfl (hb hby d5_3_66) rfl rfl ?_
          show Steps p.tables e below (T760.setTop (mkF m 67 #[.val (.ref aa), .val (.int (Int32.ofNat i)), .val (.long qe), .second, .val (.long qp), .second, .unset] [(.ref aa), (.ref aa), (.int (Int32.ofNat i)), (.ref ar)])) _
          refine st761 _ ?_
          show Steps p.tables e below (T761.setTop (mkF m 70 #[.val (.ref aa), .val (.int (Int32.ofNat i)), .val (.long qe), .second, .val (.long qp), .second, .unset] [(.ref ar), (.ref aa), (.int (Int32.ofNat i)), (.ref ar)])) _
          refine XS.iloadN X761.here hx rfl (hb hby d5_3_70) rfl ?_
          show Steps p.tables e below (T761.setTop (mkF m 71 #[.val (.ref aa), .val (.int (Int32.ofNat i)), .val (.long qe), .second, .val (.long qp), .second, .unset] [(.int (Int32.ofNat i)), (.ref ar), (.ref aa), (.int (Int32.ofNat i)), (.ref ar)])) _
          refine IA.load X761 hx hZ e761 t727_15 i (own_cl hi (by decide)) (own_nn hi (by decide)) hi (g := (mkF m 71 #[.val (.ref aa), .val (.int (Int32.ofNat i)), .val (.long qe), .second, .val (.long qp), .second, .unset] [(.int (Int32.ofNat i)), (.ref ar), (.ref aa), (.int (Int32.ofNat i)), (.ref ar)])) rfl rfl (hb hby d5_3_71) _ ?_
          show Steps p.tables e below (T761.setTop (mkF m 72 #[.val (.ref aa), .val (.int (Int32.ofNat i)), .val (.long qe), .second, .val (.long qp), .second, .unset] [(.int (Int32.ofNat ((own_r S) i))), (.ref aa), (.int (Int32.ofNat i)), (.ref ar)])) _
          refine XS.lloadN X761.here hx rfl (hb hby d5_3_72) rfl ?_
          show Steps p.tables e below (T761.setTop (mkF m 73 #[.val (.ref aa), .val (.int (Int32.ofNat i)), .val (.long qe), .second, .val (.long qp), .second, .unset] [(.long qe), (.int (Int32.ofNat ((own_r S) i))), (.ref aa), (.int (Int32.ofNat i)), (.ref ar)])) _
          refine XS.lload X761.here hx rfl (hb hby d5_3_73) rfl ?_
          show Steps p.tables e below (T761.setTop (mkF m 75 #[.val (.ref aa), .val (.int (Int32.ofNat i)), .val (.long qe), .second, .val (.long qp), .second, .unset] [(.long qp), (.long qe), (.int (Int32.ofNat ((own_r S) i))), (.ref aa), (.int (Int32.ofNat i)), (.ref ar)])) _
          refine st762.trans ?_
          show Steps p.tables e below (T762.setTop (mkF m 78 #[.val (.ref aa), .val (.int (Int32.ofNat i)), .val (.long qe), .second, .val (.long qp), .second, .unset] [(.int (Int32.ofNat (own_add (0 + 1 + 1) S md ((own_r S) i) qe qp).2.2)), (.int (Int32.ofNat i)), (.ref ar)])) _
          refine castTop (g' := (mkF m 78 #[.val (.ref aa), .val (.int (Int32.ofNat i)), .val (.long qe), .second, .val (.long qp), .second, .unset] [(.int (Int32.ofNat R.2.2)), (.int (Int32.ofNat i)), (.ref ar)])) (by rw [hR]) ?_
          show Steps p.tables e below (T762.setTop (mkF m 78 #[.val (.ref aa), .val (.int (Int32.ofNat i)), .val (.long qe), .second, .val (.long qp), .second, .unset] [(.int (Int32.ofNat R.2.2)), (.int (Int32.ofNat i)), (.ref ar)])) _
          refine st765 _ ?_
          show Steps p.tables e below (T765.setTop (mkF m 79 #[.val (.ref aa), .val (.int (Int32.ofNat i)), .val (.long qe), .second, .val (.long qp), .second, .unset] [])) _
          refine XS.goto X765.here hx rfl (pc0 := 79) (pc' := 93) rfl (hb hby d5_3_79) (by decide) (by decide) ?_
          show Steps p.tables e below (T765.setTop (mkF m 93 #[.val (.ref aa), .val (.int (Int32.ofNat i)), .val (.long qe), .second, .val (.long qp), .second, .unset] [])) _
          refine XS.aloadN X765.here hx rfl (hb hby d5_3_93) rfl rfl ?_
          show Steps p.tables e below (T765.setTop (mkF m 94 #[.val (.ref aa), .val (.int (Int32.ofNat i)), .val (.long qe), .second, .val (.long qp), .second, .unset] [(.ref aa)])) _
          refine XS.iloadN X765.here hx rfl (hb hby d5_3_94) rfl ?_
          show Steps p.tables e below (T765.setTop (mkF m 95 #[.val (.ref aa), .val (.int (Int32.ofNat i)), .val (.long qe), .second, .val (.long qp), .second, .unset] [(.int (Int32.ofNat i)), (.ref aa)])) _
          refine st781.trans ?_
          show Steps p.tables e below (T781.setTop (mkF m 98 #[.val (.ref aa), .val (.int (Int32.ofNat i)), .val (.long qe), .second, .val (.long qp), .second, .unset] [(.int (Int32.ofNat (own_bal (own_setR R.1 i R.2.2) i).2))])) _
          refine XS.istore X781.here hx rfl (hb hby d5_3_98) rfl (l' := #[.val (.ref aa), .val (.int (Int32.ofNat i)), .val (.long qe), .second, .val (.long qp), .second, .val (.int (Int32.ofNat (own_bal (own_setR R.1 i R.2.2) i).2))]) rfl ?_
          show Steps p.tables e below (T781.setTop (mkF m 100 #[.val (.ref aa), .val (.int (Int32.ofNat i)), .val (.long qe), .second, .val (.long qp), .second, .val (.int (Int32.ofNat (own_bal (own_setR R.1 i R.2.2) i).2))] [])) _
          refine XS.iload X781.here hx rfl (hb hby d5_3_100) rfl ?_
          show Steps p.tables e below (T781.setTop (mkF m 102 #[.val (.ref aa), .val (.int (Int32.ofNat i)), .val (.long qe), .second, .val (.long qp), .second, .val (.int (Int32.ofNat (own_bal (own_setR R.1 i R.2.2) i).2))] [(.int (Int32.ofNat (own_bal (own_setR R.1 i R.2.2) i).2))])) _
          exact retI X781 hx Bd.returns (hb hby d5_3_102) hr
        · show Q5_3 Z aa ae ap aS ah al ar S rt md i B qe qp h0 n0 _ T781.heap _
          unfold Q5_3
          rw [hbq]
          exact ⟨rfl, N781, K781, (TR.mk (S := (own_bal (own_setR R.1 i R.2.2) i).1) t783_0 t783_1 t783_2 t783_3 t783_4 t783_5 t783_6 t783_7 t783_8 t783_9 t783_10 t783_11 t783_12 t783_13 t783_14 t783_15)⟩
      · have hnl : ¬ qe < own_e S i := fun q => hc733 ((lw_lt _ _).mpr q)
        have hng : ¬ own_e S i < qe := fun q => hc759 ((lw_gt _ _).mpr q)
        obtain ⟨T784, X784, e784, st784⟩ := getF X758 hx hZ hown (host := "") (Or.inl (hw _ (List.mem_of_getElem? (i := 12) rfl))) Via.refl e758 t727_2 (g := (mkF m 83 #[.val (.ref aa), .val (.int (Int32.ofNat i)), .val (.long qe), .second, .val (.long qp), .second, .unset] [(.ref aa)])) rfl rfl (hb hby d5_3_83)
        obtain ⟨T785, h785, X785, e785, W785, V785, st785⟩ := JA.store X784 hx hZ e784 t727_11 i (own_cl hi (by decide)) (own_nn hi (by decide)) hi (x := (((own_p S) i) + qp)) (g := (mkF m 92 #[.val (.ref aa), .val (.int (Int32.ofNat i)), .val (.long qe), .second, .val (.long qp), .second, .unset] [(.long (((own_p S) i) + qp)), (.int (Int32.ofNat i)), (.ref ap)])) rfl rfl (hb hby d5_3_92)
        have E_786 := t727_0.wr W785
        have F_787 := t727_1.other W785 (Or.inl dd726_1)
        have F_788 := t727_2.other W785 (Or.inl dd726_1)
        have F_789 := t727_3.other W785 (Or.inl dd726_1)
        have F_790 := t727_4.other W785 (Or.inl dd726_1)
        have F_791 := t727_5.other W785 (Or.inl dd726_1)
        have F_792 := t727_6.other W785 (Or.inl dd726_1)
        have F_793 := t727_7.other W785 (Or.inl dd726_1)
        have F_794 := t727_8.other W785 (Or.inl dd726_1)
        have F_795 := t727_9.other W785 (Or.inl dd726_1)
        have V_796 := t727_10.other W785 dd726_6
        have V_797 := t727_12.other W785 (Ne.symm dd726_11)
        have V_798 := t727_13.other W785 (Ne.symm dd726_12)
        have V_799 := t727_14.other W785 (Ne.symm dd726_13)
        have V_800 := t727_15.other W785 (Ne.symm dd726_14)
        have N785 := Fr.snoc X785 N0 g_ap
        have Z785 : n0 ≤ h785.size := Nat.le_trans Z0 (Keep.of_wr W785).1
        have K785 : Keep h0 h785 [aa, ae, ap, aS, ah, al, ar] := (Keep.refl h0 [aa, ae, ap, aS, ah, al, ar]).wr W785 (Or.inl (List.mem_of_getElem? (i := 2) rfl))
        obtain ⟨cq801, q801, q801'⟩ := E_786.cell
        obtain ⟨_, _, ⟨T801, L801, k801, n801⟩, -, X801, ⟨Lc801, hQ801, l801, y801, z801⟩, st801⟩ := X785.privateBack hx (y := (⟨"com/example/berthline/berthline/engine/replay/EstimatedEnds", "balance", "(I)I"⟩ : MethodName)) hown (mvT hZ (hw _ (List.mem_of_getElem? (i := 47) rfl))) (mvT hZ (hw _ (List.mem_of_getElem? (i := 48) rfl))) (own_selects hZ (hw _ (List.mem_of_getElem? (i := 1) rfl)) (hw _ (List.mem_of_getElem? (i := 49) rfl)) (hw _ (List.mem_of_getElem? (i := 48) rfl)) (by decide)) (Cond.privateMethod_at (mvP hZ (hw _ (List.mem_of_getElem? (i := 49) rfl)) (args := #[]))) (mvT hZ (hw _ (List.mem_of_getElem? (i := 50) rfl))) (by decide) (backOf (W := 0) (rm7 l Z a0 hw [] aa ae ap aS ah al ar (own_setP S i (((own_p S) i) + qp)) rt md i B h785 n0 Z785 g_aa g_ae g_ap g_aS g_ah g_al g_ar hD (TR.mk (S := (own_setP S i (((own_p S) i) + qp))) E_786 F_787 F_788 F_789 F_790 F_791 F_792 F_793 F_794 F_795 V_796 V785 V_797 V_798 V_799 V_800) hi (own_ok_setP hok) (by omega)) hZ (hw _ (List.mem_of_getElem? (i := 50) rfl)) (hw _ (List.mem_of_getElem? (i := 2) rfl)) (by decide) (by decide)) (g := (mkF m 95 #[.val (.ref aa), .val (.int (Int32.ofNat i)), .val (.long qe), .second, .val (.long qp), .second, .unset] [(.int (Int32.ofNat i)), (.ref aa)])) rfl (by rw [hml]; rfl) (Steps.refl _) (a := aa) (by rw [e785]; exact q801) q801' (argsL := [(.int (Int32.ofNat i))]) (rest := []) (lenOf pd_216441 rfl) rfl (by show 2 * 0 + _ ≤ _; exact Nat.le_of_eq rfl) (hb hby d5_3_95) (fun _ _ => ⟨rfl, e785, (by decide : 0 + 0 ≤ _), (by decide : 0 + 0 ≤ _)⟩)
        dsimp only [Pt.U, Pt.locs, Pt.cells, Pt.slots] at X801 l801 y801 z801 st801 hQ801
        subst l801 y801 z801
        obtain ⟨rfl, N801q, K801c, G801_0⟩ := hQ801
        have N801 := Fr.app N785 N801q
        have E_802 := E_786.keep K801c
        have Z801 : n0 ≤ T801.heap.size := Nat.le_trans Z785 K801c.1
        have K801 : Keep h0 T801.heap [aa, ae, ap, aS, ah, al, ar] := K785.trans K801c (allS (P := fun x => x ∈ [aa, ae, ap, aS, ah, al, ar] ∨ h0.size ≤ x) (Or.inl (List.mem_of_getElem? (i := 0) rfl)) (allS (P := fun x => x ∈ [aa, ae, ap, aS, ah, al, ar] ∨ h0.size ≤ x) (Or.inl (List.mem_of_getElem? (i := 1) rfl)) (allS (P := fun x => x ∈ [aa, ae, ap, aS, ah, al, ar] ∨ h0.size ≤ x) (Or.inl (List.mem_of_getElem? (i := 2) rfl)) (allS (P := fun x => x ∈ [aa, ae, ap, aS, ah, al, ar] ∨ h0.size ≤ x) (Or.inl (List.mem_of_getElem? (i := 3) rfl)) (allS (P := fun x => x ∈ [aa, ae, ap, aS, ah, al, ar] ∨ h0.size ≤ x) (Or.inl (List.mem_of_getElem? (i := 4) rfl)) (allS (P := fun x => x ∈ [aa, ae, ap, aS, ah, al, ar] ∨ h0.size ≤ x) (Or.inl (List.mem_of_getElem? (i := 5) rfl)) (allS (P := fun x => x ∈ [aa, ae, ap, aS, ah, al, ar] ∨ h0.size ≤ x) (Or.inl (List.mem_of_getElem? (i := 6) rfl)) all0)))))))
        obtain ⟨t803_0, t803_1, t803_2, t803_3, t803_4, t803_5, t803_6, t803_7, t803_8, t803_9, t803_10, t803_11, t803_12, t803_13, t803_14, t803_15⟩ := G801_0
        have hbq := own_add_eq (0 + 1 + 1) (md := md) (p := qp) hz hnl hng
        obtain ⟨fs, hr, hrun, hended, hW, hsame⟩ := X801.leave (v := some (.int (Int32.ofNat (own_bal (own_setP S i (((own_p S) i) + qp)) i).2))) (fun h => by rw [Bd.returns] at h; cases h)
        refine ⟨_, _, pre0 _ ?_, hrun, hended, _, _, rfl, ?_, ⟨_, rfl⟩, hW, hsame.mono (by decide) (by decide)⟩
        · show Steps p.tables e below (s₁.setTop (mkF m 0 #[.val (.ref aa), .val (.int (Int32.ofNat i)), .val (.long qe), .second, .val (.long qp), .second, .unset] [])) _
          refine XS.iloadN X0.here hx rfl (hb hby d5_3_0) rfl ?_
          show Steps p.tables e below (s₁.setTop (mkF m 1 #[.val (.ref aa), .val (.int (Int32.ofNat i)), .val (.long qe), .second, .val (.long qp), .second, .unset] [(.int (Int32.ofNat i))])) _
          refine XS.ifYes X0.here hx rfl (pc0 := 1) (pc' := 16) rfl (hb hby d5_3_1) rfl ((if0 _ _).trans (feq hc728).2) (by decide) (by decide) ?_
          show Steps p.tables e below (s₁.setTop (mkF m 16 #[.val (.ref aa), .val (.int (Int32.ofNat i)), .val (.long qe), .second, .val (.long qp), .second, .unset] [])) _
          refine XS.lloadN X0.here hx rfl (hb hby d5_3_16) rfl ?_
          show Steps p.tables e below (s₁.setTop (mkF m 17 #[.val (.ref aa), .val (.int (Int32.ofNat i)), .val (.long qe), .second, .val (.long qp), .second, .unset] [(.long qe)])) _
          refine XS.aloadN X0.here hx rfl (hb hby d5_3_17) rfl rfl ?_
          show Steps p.tables e below (s₁.setTop (mkF m 18 #[.val (.ref aa), .val (.int (Int32.ofNat i)), .val (.long qe), .second, .val (.long qp), .second, .unset] [(.ref aa), (.long qe)])) _
          refine st732 _ ?_
          show Steps p.tables e below (T732.setTop (mkF m 21 #[.val (.ref aa), .val (.int (Int32.ofNat i)), .val (.long qe), .second, .val (.long qp), .second, .unset] [(.ref ae), (.long qe)])) _
          refine XS.iloadN X732.here hx rfl (hb hby d5_3_21) rfl ?_
          show Steps p.tables e below (T732.setTop (mkF m 22 #[.val (.ref aa), .val (.int (Int32.ofNat i)), .val (.long qe), .second, .val (.long qp), .second, .unset] [(.int (Int32.ofNat i)), (.ref ae), (.long qe)])) _
          refine JA.load X732 hx hZ e732 t727_10 i (own_cl hi (by decide)) (own_nn hi (by decide)) hi (g := (mkF m 22 #[.val (.ref aa), .val (.int (Int32.ofNat i)), .val (.long qe), .second, .val (.long qp), .second, .unset] [(.int (Int32.ofNat i)), (.ref ae), (.long qe)])) rfl rfl (hb hby d5_3_22) _ ?_
          show Steps p.tables e below (T732.setTop (mkF m 23 #[.val (.ref aa), .val (.int (Int32.ofNat i)), .val (.long qe), .second, .val (.long qp), .second, .unset] [(.long ((own_e S) i)), (.long qe)])) _
          refine XS.lcmp X732.here hx rfl (hb hby d5_3_23) rfl ?_
          show Steps p.tables e below (T732.setTop (mkF m 24 #[.val (.ref aa), .val (.int (Int32.ofNat i)), .val (.long qe), .second, .val (.long qp), .second, .unset] [(.int (lcmpW qe ((own_e S) i)))])) _
          refine XS.ifYes X732.here hx rfl (pc0 := 24) (pc' := 49) rfl (hb hby d5_3_24) rfl ((if0 _ _).trans (flt hc733).2.1) (by decide) (by decide) ?_
          show Steps p.tables e below (T732.setTop (mkF m 49 #[.val (.ref aa), .val (.int (Int32.ofNat i)), .val (.long qe), .second, .val (.long qp), .second, .unset] [])) _
          refine XS.lloadN X732.here hx rfl (hb hby d5_3_49) rfl ?_
          show Steps p.tables e below (T732.setTop (mkF m 50 #[.val (.ref aa), .val (.int (Int32.ofNat i)), .val (.long qe), .second, .val (.long qp), .second, .unset] [(.long qe)])) _
          refine XS.aloadN X732.here hx rfl (hb hby d5_3_50) rfl rfl ?_
          show Steps p.tables e below (T732.setTop (mkF m 51 #[.val (.ref aa), .val (.int (Int32.ofNat i)), .val (.long qe), .second, .val (.long qp), .second, .unset] [(.ref aa), (.long qe)])) _
          refine st758 _ ?_
          show Steps p.tables e below (T758.setTop (mkF m 54 #[.val (.ref aa), .val (.int (Int32.ofNat i)), .val (.long qe), .second, .val (.long qp), .second, .unset] [(.ref ae), (.long qe)])) _
          refine XS.iloadN X758.here hx rfl (hb hby d5_3_54) rfl ?_
          show Steps p.tables e below (T758.setTop (mkF m 55 #[.val (.ref aa), .val (.int (Int32.ofNat i)), .val (.long qe), .second, .val (.long qp), .second, .unset] [(.int (Int32.ofNat i)), (.ref ae), (.long qe)])) _
          refine JA.load X758 hx hZ e758 t727_10 i (own_cl hi (by decide)) (own_nn hi (by decide)) hi (g := (mkF m 55 #[.val (.ref aa), .val (.int (Int32.ofNat i)), .val (.long qe), .second, .val (.long qp), .second, .unset] [(.int (Int32.ofNat i)), (.ref ae), (.long qe)])) rfl rfl (hb hby d5_3_55) _ ?_
          show Steps p.tables e below (T758.setTop (mkF m 56 #[.val (.ref aa), .val (.int (Int32.ofNat i)), .val (.long qe), .second, .val (.long qp), .second, .unset] [(.long ((own_e S) i)), (.long qe)])) _
          refine XS.lcmp X758.here hx rfl (hb hby d5_3_56) rfl ?_
          show Steps p.tables e below (T758.setTop (mkF m 57 #[.val (.ref aa), .val (.int (Int32.ofNat i)), .val (.long qe), .second, .val (.long qp), .second, .unset] [(.int (lcmpW qe ((own_e S) i)))])) _
          refine XS.ifYes X758.here hx rfl (pc0 := 57) (pc' := 82) rfl (hb hby d5_3_57) rfl ((if0 _ _).trans (flt hc759).2.2.2) (by decide) (by decide) ?_
          show Steps p.tables e below (T758.setTop (mkF m 82 #[.val (.ref aa), .val (.int (Int32.ofNat i)), .val (.long qe), .second, .val (.long qp), .second, .unset] [])) _
          refine XS.aloadN X758.here hx rfl (hb hby d5_3_82) rfl rfl ?_
          show Steps p.tables e below (T758.setTop (mkF m 83 #[.val (.ref aa), .val (.int (Int32.ofNat i)), .val (.long qe), .second, .val (.long qp), .second, .unset] [(.ref aa)])) _
          refine st784 _ ?_
          show Steps p.tables e below (T784.setTop (mkF m 86 #[.val (.ref aa), .val (.int (Int32.ofNat i)), .val (.long qe), .second, .val (.long qp), .second, .unset] [(.ref ap)])) _
          refine XS.iloadN X784.here hx rfl (hb hby d5_3_86) rfl ?_
          show Steps p.tables e below (T784.setTop (mkF m 87 #[.val (.ref aa), .val (.int (Int32.ofNat i)), .val (.long qe), .second, .val (.long qp), .second, .unset] [(.int (Int32.ofNat i)), (.ref ap)])) _
          jvm_step X784.here [X784.here.top, hx, (hb hby d5_3_87), Value.category]
          show Steps p.tables e below (T784.setTop (mkF m 88 #[.val (.ref aa), .val (.int (Int32.ofNat i)), .val (.long qe), .second, .val (.long qp), .second, .unset] [(.int (Int32.ofNat i)), (.ref ap), (.int (Int32.ofNat i)), (.ref ap)])) _
          refine JA.load X784 hx hZ e784 t727_11 i (own_cl hi (by decide)) (own_nn hi (by decide)) hi (g := (mkF m 88 #[.val (.ref aa), .val (.int (Int32.ofNat i)), .val (.long qe), .second, .val (.long qp), .second, .unset] [(.int (Int32.ofNat i)), (.ref ap), (.int (Int32.ofNat i)), (.ref ap)])) rfl rfl (hb hby d5_3_88) _ ?_
          show Steps p.tables e below (T784.setTop (mkF m 89 #[.val (.ref aa), .val (.int (Int32.ofNat i)), .val (.long qe), .second, .val (.long qp), .second, .unset] [(.long ((own_p S) i)), (.int (Int32.ofNat i)), (.ref ap)])) _
          refine XS.lload X784.here hx rfl (hb hby d5_3_89) rfl ?_
          show Steps p.tables e below (T784.setTop (mkF m 91 #[.val (.ref aa), .val (.int (Int32.ofNat i)), .val (.long qe), .second, .val (.long qp), .second, .unset] [(.long qp), (.long ((own_p S) i)), (.int (Int32.ofNat i)), (.ref ap)])) _
          refine XS.ladd X784.here hx rfl (hb hby d5_3_91) rfl ?_
          show Steps p.tables e below (T784.setTop (mkF m 92 #[.val (.ref aa), .val (.int (Int32.ofNat i)), .val (.long qe), .second, .val (.long qp), .second, .unset] [(.long (((own_p S) i) + qp)), (.int (Int32.ofNat i)), (.ref ap)])) _
          refine st785 _ ?_
          show Steps p.tables e below (T785.setTop (mkF m 93 #[.val (.ref aa), .val (.int (Int32.ofNat i)), .val (.long qe), .second, .val (.long qp), .second, .unset] [])) _
          refine XS.aloadN X785.here hx rfl (hb hby d5_3_93) rfl rfl ?_
          show Steps p.tables e below (T785.setTop (mkF m 94 #[.val (.ref aa), .val (.int (Int32.ofNat i)), .val (.long qe), .second, .val (.long qp), .second, .unset] [(.ref aa)])) _
          refine XS.iloadN X785.here hx rfl (hb hby d5_3_94) rfl ?_
          show Steps p.tables e below (T785.setTop (mkF m 95 #[.val (.ref aa), .val (.int (Int32.ofNat i)), .val (.long qe), .second, .val (.long qp), .second, .unset] [(.int (Int32.ofNat i)), (.ref aa)])) _
          refine st801.trans ?_
          show Steps p.tables e below (T801.setTop (mkF m 98 #[.val (.ref aa), .val (.int (Int32.ofNat i)), .val (.long qe), .second, .val (.long qp), .second, .unset] [(.int (Int32.ofNat (own_bal (own_setP S i (((own_p S) i) + qp)) i).2))])) _
          refine XS.istore X801.here hx rfl (hb hby d5_3_98) rfl (l' := #[.val (.ref aa), .val (.int (Int32.ofNat i)), .val (.long qe), .second, .val (.long qp), .second, .val (.int (Int32.ofNat (own_bal (own_setP S i (((own_p S) i) + qp)) i).2))]) rfl ?_
          show Steps p.tables e below (T801.setTop (mkF m 100 #[.val (.ref aa), .val (.int (Int32.ofNat i)), .val (.long qe), .second, .val (.long qp), .second, .val (.int (Int32.ofNat (own_bal (own_setP S i (((own_p S) i) + qp)) i).2))] [])) _
          refine XS.iload X801.here hx rfl (hb hby d5_3_100) rfl ?_
          show Steps p.tables e below (T801.setTop (mkF m 102 #[.val (.ref aa), .val (.int (Int32.ofNat i)), .val (.long qe), .second, .val (.long qp), .second, .val (.int (Int32.ofNat (own_bal (own_setP S i (((own_p S) i) + qp)) i).2))] [(.int (Int32.ofNat (own_bal (own_setP S i (((own_p S) i) + qp)) i).2))])) _
          exact retI X801 hx Bd.returns (hb hby d5_3_102) hr
        · show Q5_3 Z aa ae ap aS ah al ar S rt md i B qe qp h0 n0 _ T801.heap _
          unfold Q5_3
          rw [hbq]
          exact ⟨rfl, N801, K801, (TR.mk (S := (own_bal (own_setP S i (((own_p S) i) + qp)) i).1) t803_0 t803_1 t803_2 t803_3 t803_4 t803_5 t803_6 t803_7 t803_8 t803_9 t803_10 t803_11 t803_12 t803_13 t803_14 t803_15)⟩

theorem d4_0 : decode prog_107_method_3_code 0 = .ok (.aload_n 0, 1) := by decide +kernel
theorem d4_1 : decode prog_107_method_3_code 1 = .ok (.getfield 36, 3) := by decide +kernel
theorem d4_4 : decode prog_107_method_3_code 4 = .ok (.ifCond .ne 19, 3) := by decide +kernel
theorem d4_7 : decode prog_107_method_3_code 7 = .ok (.aload_n 0, 1) := by decide +kernel
theorem d4_8 : decode prog_107_method_3_code 8 = .ok (.getfield 33, 3) := by decide +kernel
theorem d4_11 : decode prog_107_method_3_code 11 = .ok (.aload_n 0, 1) := by decide +kernel
theorem d4_12 : decode prog_107_method_3_code 12 = .ok (.getfield 7, 3) := by decide +kernel
theorem d4_15 : decode prog_107_method_3_code 15 = .ok (.arraylength, 1) := by decide +kernel
theorem d4_16 : decode prog_107_method_3_code 16 = .ok (.if_icmp .ne 7, 3) := by decide +kernel
theorem d4_23 : decode prog_107_method_3_code 23 = .ok (.aload_n 0, 1) := by decide +kernel
theorem d4_24 : decode prog_107_method_3_code 24 = .ok (.aload_n 0, 1) := by decide +kernel
theorem d4_25 : decode prog_107_method_3_code 25 = .ok (.aload_n 0, 1) := by decide +kernel
theorem d4_26 : decode prog_107_method_3_code 26 = .ok (.getfield 29, 3) := by decide +kernel
theorem d4_29 : decode prog_107_method_3_code 29 = .ok (.lload_n 1, 1) := by decide +kernel
theorem d4_30 : decode prog_107_method_3_code 30 = .ok (.lload_n 3, 1) := by decide +kernel
theorem d4_31 : decode prog_107_method_3_code 31 = .ok (.invokevirtual 42, 3) := by decide +kernel
theorem d4_34 : decode prog_107_method_3_code 34 = .ok (.putfield 29, 3) := by decide +kernel
theorem d4_37 : decode prog_107_method_3_code 37 = .ok (.return_, 1) := by decide +kernel
theorem ef_4 (m : MethodId) (aa : Addr) (qe : Int64) (qp : Int64) : entryFrame m #[(.ref aa), (.long qe), (.long qp)] 5 = mkF m 0 #[.val (.ref aa), .val (.long qe), .second, .val (.long qp), .second] [] := by first | (simp [entryFrame, mkF, argsToLocals, Value.category]; done) | rfl
def Q4 (Z : State) (aa : Addr) (ae : Addr) (ap : Addr) (aS : Addr) (ah : Addr) (al : Addr) (ar : Addr) (S : own_S) (rt : Nat) (md : Nat) (B : Nat) (qe : Int64) (qp : Int64) (h0 : Heap) (n0 : Nat) (v : Option Value) (h : Heap) (L : List Loc) : Prop := v = none ∧ Fr n0 L ∧ Keep h0 h [aa, ae, ap, aS, ah, al, ar] ∧ TR Z h aa ae ap aS ah al ar (own_add (0 + 1 + 1 + 1) S md rt qe qp).1 (own_add (0 + 1 + 1 + 1) S md rt qe qp).2.2 (own_add (0 + 1 + 1 + 1) S md rt qe qp).2.1
set_option maxRecDepth 65536 in
set_option maxHeartbeats 40000000 in
theorem rm4 (l : Launch) (Z : State) (a0 : Array Value) (hw : ∀ d ∈ tables_1, d.before a0 Z = true) (ws : List Jvm.Cond) (aa : Addr) (ae : Addr) (ap : Addr) (aS : Addr) (ah : Addr) (al : Addr) (ar : Addr) (S : own_S) (rt : Nat) (md : Nat) (B : Nat) (qe : Int64) (qp : Int64) (h0 : Heap) (n0 : Nat) (Z0 : n0 ≤ h0.size) (g_aa : n0 ≤ aa) (g_ae : n0 ≤ ae) (g_ap : n0 ≤ ap) (g_aS : n0 ≤ aS) (g_ah : n0 ≤ ah) (g_al : n0 ≤ al) (g_ar : n0 ≤ ar) (hD : own_D aa ae ap aS ah al ar) (hTR : TR Z h0 aa ae ap aS ah al ar S rt md) (hrt : rt < 16) (hok : own_ok B S) (hB : B + 5 * (0 + 1 + 1 + 1) + 5 < 1000000) (hmd : md < 16) (hdeep : own_deep (0 + 1 + 1 + 1) S rt) :
    MetFree l (⟨"com/example/berthline/berthline/engine/replay/EstimatedEnds", "add", "(JJ)V"⟩ : MethodName) (head1 (Jvm.Cond.code (⟨"com/example/berthline/berthline/engine/replay/EstimatedEnds", "add", "(JJ)V"⟩ : MethodName) prog_107_method_3_code 5 none :: ws) ({ frames := 7, cells := 0, slots := 0, locals := 122 } : Room)) (fun a U => a = #[(.ref aa), (.long qe), (.long qp)] ∧ Z.Warmed39 U.vm ∧ U.heap = h0) (fun _ _ _ _ _ => True) (fun _ U o U' => ∃ v L, o = .returned v ∧ Q4 Z aa ae ap aS ah al ar S rt md B qe qp h0 n0 v U'.heap L ∧ FrameEnd U o U' L ({ frames := 7, cells := 0, slots := 0, locals := 122 } : Room).cells ({ frames := 7, cells := 0, slots := 0, locals := 122 } : Room).slots) := by
  refine MetFree.of_bodySF (plainFor_of_name pn_com_example_berthline_berthline_engine_replay_EstimatedEnds) hisR ?_
  intro p e s m args below meth c s₁ Bd hml0 hP hK
  obtain ⟨rfl, hZ, hh⟩ := hP
  have hx := Bd.exec
  have hby := Bd.bytes
  have hml : c.maxLocals = 5 := hml0
  have hown : s.vm.findClass "com/example/berthline/berthline/engine/replay/EstimatedEnds" = some m.cls := findClass_of_methodNamed Bd.named
  have hnm := (name_of_methodNamed Bd.named Bd.method).1
  have X0 : Stand p l e ({ frames := 7, cells := 0, slots := 0, locals := 122 } : Room) s m #[(.ref aa), (.long qe), (.long qp)] below meth c s₁ [] 0 0 := Stand.of_body Bd
  have e0 : s₁.heap = h0 := by rw [← hh, Bd.state]; rfl
  have N0 := Fr.nil n0
  have pre0 : ∀ t, Steps p.tables e below (s₁.setTop (mkF m 0 #[.val (.ref aa), .val (.long qe), .second, .val (.long qp), .second] [])) t → Steps p.tables e below (s₁.setTop (entryFrame m #[(.ref aa), (.long qe), (.long qp)] 5)) t := fun t k => castTop (ef_4 m aa qe qp) k
  obtain ⟨dd804_0, dd804_1, dd804_2, dd804_3, dd804_4, dd804_5, dd804_6, dd804_7, dd804_8, dd804_9, dd804_10, dd804_11, dd804_12, dd804_13, dd804_14, dd804_15, dd804_16, dd804_17, dd804_18, dd804_19, dd804_20⟩ := id hD
  obtain ⟨t805_0, t805_1, t805_2, t805_3, t805_4, t805_5, t805_6, t805_7, t805_8, t805_9, t805_10, t805_11, t805_12, t805_13, t805_14, t805_15⟩ := hTR
  obtain ⟨T806, X806, e806, st806⟩ := getF X0 hx hZ hown (host := "") (Or.inl (hw _ (List.mem_of_getElem? (i := 27) rfl))) Via.refl e0 t805_9 (g := (mkF m 1 #[.val (.ref aa), .val (.long qe), .second, .val (.long qp), .second] [(.ref aa)])) rfl rfl (hb hby d4_1)
  obtain ⟨T807, X807, e807, st807⟩ := getF X806 hx hZ hown (host := "") (Or.inl (hw _ (List.mem_of_getElem? (i := 25) rfl))) Via.refl e806 t805_8 (g := (mkF m 8 #[.val (.ref aa), .val (.long qe), .second, .val (.long qp), .second] [(.ref aa)])) rfl rfl (hb hby d4_8)
  obtain ⟨T808, X808, e808, st808⟩ := getF X807 hx hZ hown (host := "") (Or.inl (hw _ (List.mem_of_getElem? (i := 10) rfl))) Via.refl e807 t805_1 (g := (mkF m 12 #[.val (.ref aa), .val (.long qe), .second, .val (.long qp), .second] [(.ref aa), (.int (Int32.ofNat md))])) rfl rfl (hb hby d4_12)
  obtain ⟨T809, X809, e809, st809⟩ := getF X808 hx hZ hown (host := "") (Or.inl (hw _ (List.mem_of_getElem? (i := 23) rfl))) Via.refl e808 t805_7 (g := (mkF m 26 #[.val (.ref aa), .val (.long qe), .second, .val (.long qp), .second] [(.ref aa), (.ref aa), (.ref aa)])) rfl rfl (hb hby d4_26)
  obtain ⟨cq810, q810, q810'⟩ := t805_0.cell
  obtain ⟨_, _, ⟨T810, L810, k810, n810⟩, -, X810, ⟨Lc810, hQ810, l810, y810, z810⟩, st810⟩ := X809.privateBack hx (y := (⟨"com/example/berthline/berthline/engine/replay/EstimatedEnds", "add", "(IJJ)I"⟩ : MethodName)) hown (mvT hZ (hw _ (List.mem_of_getElem? (i := 39) rfl))) (mvT hZ (hw _ (List.mem_of_getElem? (i := 40) rfl))) (own_selects hZ (hw _ (List.mem_of_getElem? (i := 1) rfl)) (hw _ (List.mem_of_getElem? (i := 41) rfl)) (hw _ (List.mem_of_getElem? (i := 40) rfl)) (by decide)) (Cond.privateMethod_at (mvP hZ (hw _ (List.mem_of_getElem? (i := 41) rfl)) (args := #[]))) (mvT hZ (hw _ (List.mem_of_getElem? (i := 42) rfl))) (by decide) (backOf (W := 1) (rm5_3 l Z a0 hw [] aa ae ap aS ah al ar S rt md rt B qe qp h0 n0 Z0 g_aa g_ae g_ap g_aS g_ah g_al g_ar hD (TR.mk (S := S) t805_0 t805_1 t805_2 t805_3 t805_4 t805_5 t805_6 t805_7 t805_8 t805_9 t805_10 t805_11 t805_12 t805_13 t805_14 t805_15) hrt hok hB hmd hdeep) hZ (hw _ (List.mem_of_getElem? (i := 42) rfl)) (hw _ (List.mem_of_getElem? (i := 2) rfl)) (by decide) (by decide)) (g := (mkF m 31 #[.val (.ref aa), .val (.long qe), .second, .val (.long qp), .second] [(.long qp), (.long qe), (.int (Int32.ofNat rt)), (.ref aa), (.ref aa)])) rfl (by rw [hml]; rfl) (Steps.refl _) (a := aa) (by rw [e809]; exact q810) q810' (argsL := [(.int (Int32.ofNat rt)), (.long qe), (.long qp)]) (rest := [(.ref aa)]) (lenOf pd_63945 rfl) rfl (by show 2 * 0 + _ ≤ _; exact Nat.le_of_eq rfl) (hb hby d4_31) (fun _ _ => ⟨rfl, e809, (by decide : 0 + 0 ≤ _), (by decide : 0 + 0 ≤ _)⟩)
  dsimp only [Pt.U, Pt.locs, Pt.cells, Pt.slots] at X810 l810 y810 z810 st810 hQ810
  subst l810 y810 z810
  obtain ⟨rfl, N810q, K810c, G810_0⟩ := hQ810
  have N810 := Fr.app N0 N810q
  have E_811 := t805_0.keep K810c
  have Z810 : n0 ≤ T810.heap.size := Nat.le_trans Z0 K810c.1
  have K810 : Keep h0 T810.heap [aa, ae, ap, aS, ah, al, ar] := (Keep.refl h0 [aa, ae, ap, aS, ah, al, ar]).trans K810c (allS (P := fun x => x ∈ [aa, ae, ap, aS, ah, al, ar] ∨ h0.size ≤ x) (Or.inl (List.mem_of_getElem? (i := 0) rfl)) (allS (P := fun x => x ∈ [aa, ae, ap, aS, ah, al, ar] ∨ h0.size ≤ x) (Or.inl (List.mem_of_getElem? (i := 1) rfl)) (allS (P := fun x => x ∈ [aa, ae, ap, aS, ah, al, ar] ∨ h0.size ≤ x) (Or.inl (List.mem_of_getElem? (i := 2) rfl)) (allS (P := fun x => x ∈ [aa, ae, ap, aS, ah, al, ar] ∨ h0.size ≤ x) (Or.inl (List.mem_of_getElem? (i := 3) rfl)) (allS (P := fun x => x ∈ [aa, ae, ap, aS, ah, al, ar] ∨ h0.size ≤ x) (Or.inl (List.mem_of_getElem? (i := 4) rfl)) (allS (P := fun x => x ∈ [aa, ae, ap, aS, ah, al, ar] ∨ h0.size ≤ x) (Or.inl (List.mem_of_getElem? (i := 5) rfl)) (allS (P := fun x => x ∈ [aa, ae, ap, aS, ah, al, ar] ∨ h0.size ≤ x) (Or.inl (List.mem_of_getElem? (i := 6) rfl)) all0)))))))
  obtain ⟨t812_0, t812_1, t812_2, t812_3, t812_4, t812_5, t812_6, t812_7, t812_8, t812_9, t812_10, t812_11, t812_12, t812_13, t812_14, t812_15⟩ := G810_0
  obtain ⟨T813, h813, X813, e813, W813, st813⟩ := putF X810 hx hZ hown (host := "") (Or.inl (hw _ (List.mem_of_getElem? (i := 23) rfl))) Via.refl rfl t812_7 t812_0 (Or.inl (hw _ (List.mem_of_getElem? (i := 24) rfl))) (hw _ (List.mem_of_getElem? (i := 1) rfl)) (ty := .int) (by decide) rfl rfl (g := (mkF m 34 #[.val (.ref aa), .val (.long qe), .second, .val (.long qp), .second] [(.int (Int32.ofNat (own_add (0 + 1 + 1 + 1) S md rt qe qp).2.2)), (.ref aa)])) rfl rfl (hb hby d4_34)
  have Fw813 : Fld Z h813 aa "com/example/berthline/berthline/engine/replay/EstimatedEnds" "root" "I" (.int (Int32.ofNat (own_add (0 + 1 + 1 + 1) S md rt qe qp).2.2)) := Fld.same W813 t812_7
  have E_814 := t812_0.wr W813
  have F_815 := t812_1.other W813 (Or.inr (slot_ne (Or.inl (hw _ (List.mem_of_getElem? (i := 11) rfl))) (Or.inl (hw _ (List.mem_of_getElem? (i := 24) rfl))) (by decide) (t := (.array .long)) (t' := .int) (by decide) (by decide)))
  have F_816 := t812_2.other W813 (Or.inr (slot_ne (Or.inl (hw _ (List.mem_of_getElem? (i := 13) rfl))) (Or.inl (hw _ (List.mem_of_getElem? (i := 24) rfl))) (by decide) (t := (.array .long)) (t' := .int) (by decide) (by decide)))
  have F_817 := t812_3.other W813 (Or.inr (slot_ne (Or.inl (hw _ (List.mem_of_getElem? (i := 15) rfl))) (Or.inl (hw _ (List.mem_of_getElem? (i := 24) rfl))) (by decide) (t := (.array .long)) (t' := .int) (by decide) (by decide)))
  have F_818 := t812_4.other W813 (Or.inr (slot_ne (Or.inl (hw _ (List.mem_of_getElem? (i := 18) rfl))) (Or.inl (hw _ (List.mem_of_getElem? (i := 24) rfl))) (by decide) (t := (.array .int)) (t' := .int) (by decide) (by decide)))
  have F_819 := t812_5.other W813 (Or.inr (slot_ne (Or.inl (hw _ (List.mem_of_getElem? (i := 20) rfl))) (Or.inl (hw _ (List.mem_of_getElem? (i := 24) rfl))) (by decide) (t := (.array .int)) (t' := .int) (by decide) (by decide)))
  have F_820 := t812_6.other W813 (Or.inr (slot_ne (Or.inl (hw _ (List.mem_of_getElem? (i := 22) rfl))) (Or.inl (hw _ (List.mem_of_getElem? (i := 24) rfl))) (by decide) (t := (.array .int)) (t' := .int) (by decide) (by decide)))
  have F_821 := t812_8.other W813 (Or.inr (slot_ne (Or.inl (hw _ (List.mem_of_getElem? (i := 26) rfl))) (Or.inl (hw _ (List.mem_of_getElem? (i := 24) rfl))) (by decide) (t := .int) (t' := .int) (by decide) (by decide)))
  have F_822 := t812_9.other W813 (Or.inr (slot_ne (Or.inl (hw _ (List.mem_of_getElem? (i := 28) rfl))) (Or.inl (hw _ (List.mem_of_getElem? (i := 24) rfl))) (by decide) (t := .int) (t' := .int) (by decide) (by decide)))
  have V_823 := t812_10.other W813 (Ne.symm dd804_0)
  have V_824 := t812_11.other W813 (Ne.symm dd804_1)
  have V_825 := t812_12.other W813 (Ne.symm dd804_2)
  have V_826 := t812_13.other W813 (Ne.symm dd804_3)
  have V_827 := t812_14.other W813 (Ne.symm dd804_4)
  have V_828 := t812_15.other W813 (Ne.symm dd804_5)
  have N813 := Fr.snoc X813 N810 g_aa
  have Z813 : n0 ≤ h813.size := Nat.le_trans Z810 (Keep.of_wr W813).1
  have K813 : Keep h0 h813 [aa, ae, ap, aS, ah, al, ar] := K810.wr W813 (Or.inl (List.mem_of_getElem? (i := 0) rfl))
  obtain ⟨fs, hr, hrun, hended, hW, hsame⟩ := X813.leave (v := none) (fun _ => rfl)
  refine ⟨_, _, pre0 _ ?_, hrun, hended, _, _, rfl, ?_, ⟨_, rfl⟩, hW, hsame.mono (by decide) (by decide)⟩
  · show Steps p.tables e below (s₁.setTop (mkF m 0 #[.val (.ref aa), .val (.long qe), .second, .val (.long qp), .second] [])) _
    refine XS.aloadN X0.here hx rfl (hb hby d4_0) rfl rfl ?_
    show Steps p.tables e below (s₁.setTop (mkF m 1 #[.val (.ref aa), .val (.long qe), .second, .val (.long qp), .second] [(.ref aa)])) _
    refine st806 _ ?_
    show Steps p.tables e below (T806.setTop (mkF m 4 #[.val (.ref aa), .val (.long qe), .second, .val (.long qp), .second] [(.int (0 : Int32))])) _
    refine XS.ifNo X806.here hx rfl (hb hby d4_4) rfl ((if0 _ _).trans (teq (rfl : (0 : Int32) = (0 : Int32))).2) ?_
    show Steps p.tables e below (T806.setTop (mkF m 7 #[.val (.ref aa), .val (.long qe), .second, .val (.long qp), .second] [])) _
    refine XS.aloadN X806.here hx rfl (hb hby d4_7) rfl rfl ?_
    show Steps p.tables e below (T806.setTop (mkF m 8 #[.val (.ref aa), .val (.long qe), .second, .val (.long qp), .second] [(.ref aa)])) _
    refine st807 _ ?_
    show Steps p.tables e below (T807.setTop (mkF m 11 #[.val (.ref aa), .val (.long qe), .second, .val (.long qp), .second] [(.int (Int32.ofNat md))])) _
    refine XS.aloadN X807.here hx rfl (hb hby d4_11) rfl rfl ?_
    show Steps p.tables e below (T807.setTop (mkF m 12 #[.val (.ref aa), .val (.long qe), .second, .val (.long qp), .second] [(.ref aa), (.int (Int32.ofNat md))])) _
    refine st808 _ ?_
    show Steps p.tables e below (T808.setTop (mkF m 15 #[.val (.ref aa), .val (.long qe), .second, .val (.long qp), .second] [(.ref ae), (.int (Int32.ofNat md))])) _
    refine own_len X808 hx hZ e808 t805_10.cell (z := (16 : Int32)) rfl (g := (mkF m 15 #[.val (.ref aa), .val (.long qe), .second, .val (.long qp), .second] [(.ref ae), (.int (Int32.ofNat md))])) rfl rfl (hb hby d4_15) _ ?_
    show Steps p.tables e below (T808.setTop (mkF m 16 #[.val (.ref aa), .val (.long qe), .second, .val (.long qp), .second] [(.int (16 : Int32)), (.int (Int32.ofNat md))])) _
    refine XS.icmpYes X808.here hx rfl (pc0 := 16) (pc' := 23) rfl (hb hby d4_16) rfl (feq (own_n16 hmd)).2 (by decide) (by decide) ?_
    show Steps p.tables e below (T808.setTop (mkF m 23 #[.val (.ref aa), .val (.long qe), .second, .val (.long qp), .second] [])) _
    refine XS.aloadN X808.here hx rfl (hb hby d4_23) rfl rfl ?_
    show Steps p.tables e below (T808.setTop (mkF m 24 #[.val (.ref aa), .val (.long qe), .second, .val (.long qp), .second] [(.ref aa)])) _
    refine XS.aloadN X808.here hx rfl (hb hby d4_24) rfl rfl ?_
    show Steps p.tables e below (T808.setTop (mkF m 25 #[.val (.ref aa), .val (.long qe), .second, .val (.long qp), .second] [(.ref aa), (.ref aa)])) _
    refine XS.aloadN X808.here hx rfl (hb hby d4_25) rfl rfl ?_
    show Steps p.tables e below (T808.setTop (mkF m 26 #[.val (.ref aa), .val (.long qe), .second, .val (.long qp), .second] [(.ref aa), (.ref aa), (.ref aa)])) _
    refine st809 _ ?_
    show Steps p.tables e below (T809.setTop (mkF m 29 #[.val (.ref aa), .val (.long qe), .second, .val (.long qp), .second] [(.int (Int32.ofNat rt)), (.ref aa), (.ref aa)])) _
    refine XS.lloadN X809.here hx rfl (hb hby d4_29) rfl ?_
    show Steps p.tables e below (T809.setTop (mkF m 30 #[.val (.ref aa), .val (.long qe), .second, .val (.long qp), .second] [(.long qe), (.int (Int32.ofNat rt)), (.ref aa), (.ref aa)])) _
    refine XS.lloadN X809.here hx rfl (hb hby d4_30) rfl ?_
    show Steps p.tables e below (T809.setTop (mkF m 31 #[.val (.ref aa), .val (.long qe), .second, .val (.long qp), .second] [(.long qp), (.long qe), (.int (Int32.ofNat rt)), (.ref aa), (.ref aa)])) _
    refine st810.trans ?_
    show Steps p.tables e below (T810.setTop (mkF m 34 #[.val (.ref aa), .val (.long qe), .second, .val (.long qp), .second] [(.int (Int32.ofNat (own_add (0 + 1 + 1 + 1) S md rt qe qp).2.2)), (.ref aa)])) _
    refine st813 _ ?_
    show Steps p.tables e below (T813.setTop (mkF m 37 #[.val (.ref aa), .val (.long qe), .second, .val (.long qp), .second] [])) _
    exact X813.returnOut hx Bd.returns (hb hby d4_37) hr
  · show Q4 Z aa ae ap aS ah al ar S rt md B qe qp h0 n0 _ T813.heap _
    rw [e813]
    exact ⟨rfl, N813, K813, (TR.mk (S := (own_add (0 + 1 + 1 + 1) S md rt qe qp).1) E_814 F_815 F_816 F_817 F_818 F_819 F_820 Fw813 F_821 F_822 V_823 V_824 V_825 V_826 V_827 V_828)⟩

theorem d3_8 : decode prog_107_method_5_code 8 = .ok (.iload 5, 2) := by decide +kernel
theorem d3_10 : decode prog_107_method_5_code 10 = .ok (.ifCond .eq 62, 3) := by decide +kernel
theorem d3_13 : decode prog_107_method_5_code 13 = .ok (.aload_n 0, 1) := by decide +kernel
theorem d3_14 : decode prog_107_method_5_code 14 = .ok (.getfield 7, 3) := by decide +kernel
theorem d3_17 : decode prog_107_method_5_code 17 = .ok (.iload 5, 2) := by decide +kernel
theorem d3_19 : decode prog_107_method_5_code 19 = .ok (.laload, 1) := by decide +kernel
theorem d3_20 : decode prog_107_method_5_code 20 = .ok (.lload_n 1, 1) := by decide +kernel
theorem d3_21 : decode prog_107_method_5_code 21 = .ok (.lcmp, 1) := by decide +kernel
theorem d3_22 : decode prog_107_method_5_code 22 = .ok (.ifCond .gt 38, 3) := by decide +kernel
theorem d3_60 : decode prog_107_method_5_code 60 = .ok (.aload_n 0, 1) := by decide +kernel
theorem d3_61 : decode prog_107_method_5_code 61 = .ok (.getfield 23, 3) := by decide +kernel
theorem d3_64 : decode prog_107_method_5_code 64 = .ok (.iload 5, 2) := by decide +kernel
theorem d3_66 : decode prog_107_method_5_code 66 = .ok (.iaload, 1) := by decide +kernel
theorem d3_67 : decode prog_107_method_5_code 67 = .ok (.istore 5, 2) := by decide +kernel
theorem d3_69 : decode prog_107_method_5_code 69 = .ok (.goto (-61), 3) := by decide +kernel
theorem d3_25 : decode prog_107_method_5_code 25 = .ok (.lload_n 3, 1) := by decide +kernel
theorem d3_26 : decode prog_107_method_5_code 26 = .ok (.aload_n 0, 1) := by decide +kernel
theorem d3_27 : decode prog_107_method_5_code 27 = .ok (.getfield 16, 3) := by decide +kernel
theorem d3_30 : decode prog_107_method_5_code 30 = .ok (.aload_n 0, 1) := by decide +kernel
theorem d3_31 : decode prog_107_method_5_code 31 = .ok (.getfield 23, 3) := by decide +kernel
theorem d3_34 : decode prog_107_method_5_code 34 = .ok (.iload 5, 2) := by decide +kernel
theorem d3_36 : decode prog_107_method_5_code 36 = .ok (.iaload, 1) := by decide +kernel
theorem d3_37 : decode prog_107_method_5_code 37 = .ok (.laload, 1) := by decide +kernel
theorem d3_38 : decode prog_107_method_5_code 38 = .ok (.aload_n 0, 1) := by decide +kernel
theorem d3_39 : decode prog_107_method_5_code 39 = .ok (.getfield 13, 3) := by decide +kernel
theorem d3_42 : decode prog_107_method_5_code 42 = .ok (.iload 5, 2) := by decide +kernel
theorem d3_44 : decode prog_107_method_5_code 44 = .ok (.laload, 1) := by decide +kernel
theorem d3_45 : decode prog_107_method_5_code 45 = .ok (.ladd, 1) := by decide +kernel
theorem d3_46 : decode prog_107_method_5_code 46 = .ok (.ladd, 1) := by decide +kernel
theorem d3_47 : decode prog_107_method_5_code 47 = .ok (.lstore_n 3, 1) := by decide +kernel
theorem d3_48 : decode prog_107_method_5_code 48 = .ok (.aload_n 0, 1) := by decide +kernel
theorem d3_49 : decode prog_107_method_5_code 49 = .ok (.getfield 26, 3) := by decide +kernel
theorem d3_52 : decode prog_107_method_5_code 52 = .ok (.iload 5, 2) := by decide +kernel
theorem d3_54 : decode prog_107_method_5_code 54 = .ok (.iaload, 1) := by decide +kernel
theorem d3_55 : decode prog_107_method_5_code 55 = .ok (.istore 5, 2) := by decide +kernel
theorem d3_57 : decode prog_107_method_5_code 57 = .ok (.goto (-49), 3) := by decide +kernel
theorem d3_0 : decode prog_107_method_5_code 0 = .ok (.lconst 0, 1) := by decide +kernel
theorem d3_1 : decode prog_107_method_5_code 1 = .ok (.lstore_n 3, 1) := by decide +kernel
theorem d3_2 : decode prog_107_method_5_code 2 = .ok (.aload_n 0, 1) := by decide +kernel
theorem d3_3 : decode prog_107_method_5_code 3 = .ok (.getfield 29, 3) := by decide +kernel
theorem d3_6 : decode prog_107_method_5_code 6 = .ok (.istore 5, 2) := by decide +kernel
theorem d3_72 : decode prog_107_method_5_code 72 = .ok (.lload_n 3, 1) := by decide +kernel
theorem d3_73 : decode prog_107_method_5_code 73 = .ok (.lreturn, 1) := by decide +kernel
theorem ef_3 (m : MethodId) (aa : Addr) (qx : Int64) : entryFrame m #[(.ref aa), (.long qx)] 6 = mkF m 0 #[.val (.ref aa), .val (.long qx), .second, .unset, .unset, .unset] [] := by first | (simp [entryFrame, mkF, argsToLocals, Value.category]; done) | rfl
def Q3 (Z : State) (aa : Addr) (ae : Addr) (ap : Addr) (aS : Addr) (ah : Addr) (al : Addr) (ar : Addr) (S : own_S) (rt : Nat) (md : Nat) (B : Nat) (qx : Int64) (h0 : Heap) (n0 : Nat) (v : Option Value) (h : Heap) (L : List Loc) : Prop := v = some (.long (own_end (0 + 1 + 1 + 1 + 1) S rt qx (0 : Int64))) ∧ Fr n0 L ∧ h = h0
set_option maxRecDepth 65536 in
set_option maxHeartbeats 40000000 in
theorem rm3 (l : Launch) (Z : State) (a0 : Array Value) (hw : ∀ d ∈ tables_1, d.before a0 Z = true) (ws : List Jvm.Cond) (aa : Addr) (ae : Addr) (ap : Addr) (aS : Addr) (ah : Addr) (al : Addr) (ar : Addr) (S : own_S) (rt : Nat) (md : Nat) (B : Nat) (qx : Int64) (h0 : Heap) (n0 : Nat) (Z0 : n0 ≤ h0.size) (hTR : TR Z h0 aa ae ap aS ah al ar S rt md) (hrt : rt < 16) (hok : own_ok B S) (hdeep : own_deep (0 + 1 + 1 + 1 + 1) S rt) :
    MetFree l (⟨"com/example/berthline/berthline/engine/replay/EstimatedEnds", "endingBy", "(J)J"⟩ : MethodName) (head1 (Jvm.Cond.code (⟨"com/example/berthline/berthline/engine/replay/EstimatedEnds", "endingBy", "(J)J"⟩ : MethodName) prog_107_method_5_code 6 (some .long) :: ws) ({ frames := 0, cells := 0, slots := 0, locals := 0 } : Room)) (fun a U => a = #[(.ref aa), (.long qx)] ∧ Z.Warmed39 U.vm ∧ U.heap = h0) (fun _ _ _ _ _ => True) (fun _ U o U' => ∃ v L, o = .returned v ∧ Q3 Z aa ae ap aS ah al ar S rt md B qx h0 n0 v U'.heap L ∧ FrameEnd U o U' L ({ frames := 0, cells := 0, slots := 0, locals := 0 } : Room).cells ({ frames := 0, cells := 0, slots := 0, locals := 0 } : Room).slots) := by
  refine MetFree.of_bodySF (plainFor_of_name pn_com_example_berthline_berthline_engine_replay_EstimatedEnds) hisR ?_
  intro p e s m args below meth c s₁ Bd hml0 hP hK
  obtain ⟨rfl, hZ, hh⟩ := hP
  have hx := Bd.exec
  have hby := Bd.bytes
  have hml : c.maxLocals = 6 := hml0
  have hown : s.vm.findClass "com/example/berthline/berthline/engine/replay/EstimatedEnds" = some m.cls := findClass_of_methodNamed Bd.named
  have hnm := (name_of_methodNamed Bd.named Bd.method).1
  have X0 : Stand p l e ({ frames := 0, cells := 0, slots := 0, locals := 0 } : Room) s m #[(.ref aa), (.long qx)] below meth c s₁ [] 0 0 := Stand.of_body Bd
  have e0 : s₁.heap = h0 := by rw [← hh, Bd.state]; rfl
  have N0 := Fr.nil n0
  have pre0 : ∀ t, Steps p.tables e below (s₁.setTop (mkF m 0 #[.val (.ref aa), .val (.long qx), .second, .unset, .unset, .unset] [])) t → Steps p.tables e below (s₁.setTop (entryFrame m #[(.ref aa), (.long qx)] 6)) t := fun t k => castTop (ef_3 m aa qx) k
  obtain ⟨t840_0, t840_1, t840_2, t840_3, t840_4, t840_5, t840_6, t840_7, t840_8, t840_9, t840_10, t840_11, t840_12, t840_13, t840_14, t840_15⟩ := hTR
  obtain ⟨T841, X841, e841, st841⟩ := getF X0 hx hZ hown (host := "") (Or.inl (hw _ (List.mem_of_getElem? (i := 23) rfl))) Via.refl e0 t840_7 (g := (mkF m 3 #[.val (.ref aa), .val (.long qx), .second, .val (.long (0 : Int64)), .second, .unset] [(.ref aa)])) rfl rfl (hb hby d3_3)
  have loop : ∀ (k i : Nat) (acc : Int64) (TL : State), i < 16 → own_deep k S i → Stand p l e ({ frames := 0, cells := 0, slots := 0, locals := 0 } : Room) s m #[(.ref aa), (.long qx)] below meth c TL [] 0 0 → TL.heap = h0 → ∃ (T' : State) (z : Int32), Stand p l e ({ frames := 0, cells := 0, slots := 0, locals := 0 } : Room) s m #[(.ref aa), (.long qx)] below meth c T' [] 0 0 ∧ T'.heap = h0 ∧ ∀ t, Steps p.tables e below (T'.setTop (mkF m 72 #[.val (.ref aa), .val (.long qx), .second, .val (.long (own_end k S i qx acc)), .second, .val (.int z)] [])) t → Steps p.tables e below (TL.setTop (mkF m 8 #[.val (.ref aa), .val (.long qx), .second, .val (.long acc), .second, .val (.int (Int32.ofNat i))] [])) t := by
    intro k
    induction k with
    | zero =>
      intro i acc TL hi hd XL eL
      refine ⟨TL, (Int32.ofNat i), XL, eL, fun t kt => ?_⟩
      show Steps p.tables e below (TL.setTop (mkF m 8 #[.val (.ref aa), .val (.long qx), .second, .val (.long acc), .second, .val (.int (Int32.ofNat i))] [])) _
      refine XS.iload XL.here hx rfl (hb hby d3_8) rfl ?_
      show Steps p.tables e below (TL.setTop (mkF m 10 #[.val (.ref aa), .val (.long qx), .second, .val (.long acc), .second, .val (.int (Int32.ofNat i))] [(.int (Int32.ofNat i))])) _
      refine XS.ifYes XL.here hx rfl (pc0 := 10) (pc' := 72) rfl (hb hby d3_10) rfl ((if0 _ _).trans (teq ((own_z hi).mpr hd)).1) (by decide) (by decide) ?_
      exact kt
    | succ k ih =>
      intro i acc TL hi hd XL eL
      by_cases hc832 : (Int32.ofNat i) = (0 : Int32)
      · refine ⟨TL, (Int32.ofNat i), XL, eL, fun t kt => ?_⟩
        rw [own_end_nil k qx acc ((own_z hi).mp hc832)] at kt
        show Steps p.tables e below (TL.setTop (mkF m 8 #[.val (.ref aa), .val (.long qx), .second, .val (.long acc), .second, .val (.int (Int32.ofNat i))] [])) _
        refine XS.iload XL.here hx rfl (hb hby d3_8) rfl ?_
        show Steps p.tables e below (TL.setTop (mkF m 10 #[.val (.ref aa), .val (.long qx), .second, .val (.long acc), .second, .val (.int (Int32.ofNat i))] [(.int (Int32.ofNat i))])) _
        refine XS.ifYes XL.here hx rfl (pc0 := 10) (pc' := 72) rfl (hb hby d3_10) rfl ((if0 _ _).trans (teq hc832).1) (by decide) (by decide) ?_
        exact kt
      · have hz : ¬ i = 0 := fun q => hc832 ((own_z hi).mpr q)
        obtain ⟨T833, X833, e833, st833⟩ := getF XL hx hZ hown (host := "") (Or.inl (hw _ (List.mem_of_getElem? (i := 10) rfl))) Via.refl eL t840_1 (g := (mkF m 14 #[.val (.ref aa), .val (.long qx), .second, .val (.long acc), .second, .val (.int (Int32.ofNat i))] [(.ref aa)])) rfl rfl (hb hby d3_14)
        by_cases hc834 : (0 : Int32) < (lcmpW ((own_e S) i) qx)
        · obtain ⟨T835, X835, e835, st835⟩ := getF X833 hx hZ hown (host := "") (Or.inl (hw _ (List.mem_of_getElem? (i := 19) rfl))) Via.refl e833 t840_5 (g := (mkF m 61 #[.val (.ref aa), .val (.long qx), .second, .val (.long acc), .second, .val (.int (Int32.ofNat i))] [(.ref aa)])) rfl rfl (hb hby d3_61)
          obtain ⟨T', z, X', e', st'⟩ := ih ((own_l S) i) acc T835 (hok.1 _) (own_deep_l hd hz) X835 e835
          refine ⟨T', z, X', e', fun t kt => ?_⟩
          rw [own_end_l k acc hz ((lw_gt _ _).mp hc834)] at kt
          show Steps p.tables e below (TL.setTop (mkF m 8 #[.val (.ref aa), .val (.long qx), .second, .val (.long acc), .second, .val (.int (Int32.ofNat i))] [])) _
          refine XS.iload XL.here hx rfl (hb hby d3_8) rfl ?_
          show Steps p.tables e below (TL.setTop (mkF m 10 #[.val (.ref aa), .val (.long qx), .second, .val (.long acc), .second, .val (.int (Int32.ofNat i))] [(.int (Int32.ofNat i))])) _
          refine XS.ifNo XL.here hx rfl (hb hby d3_10) rfl ((if0 _ _).trans (feq hc832).1) ?_
          show Steps p.tables e below (TL.setTop (mkF m 13 #[.val (.ref aa), .val (.long qx), .second, .val (.long acc), .second, .val (.int (Int32.ofNat i))] [])) _
          refine XS.aloadN XL.here hx rfl (hb hby d3_13) rfl rfl ?_
          show Steps p.tables e below (TL.setTop (mkF m 14 #[.val (.ref aa), .val (.long qx), .second, .val (.long acc), .second, .val (.int (Int32.ofNat i))] [(.ref aa)])) _
          refine st833 _ ?_
          show Steps p.tables e below (T833.setTop (mkF m 17 #[.val (.ref aa), .val (.long qx), .second, .val (.long acc), .second, .val (.int (Int32.ofNat i))] [(.ref ae)])) _
          refine XS.iload X833.here hx rfl (hb hby d3_17) rfl ?_
          show Steps p.tables e below (T833.setTop (mkF m 19 #[.val (.ref aa), .val (.long qx), .second, .val (.long acc), .second, .val (.int (Int32.ofNat i))] [(.int (Int32.ofNat i)), (.ref ae)])) _
          refine JA.load X833 hx hZ e833 t840_10 i (own_cl (by first | assumption | exact hok.1 _ | exact hok.2.1 _ | omega) (by decide)) (own_nn (by first | assumption | exact hok.1 _ | exact hok.2.1 _ | omega) (by decide)) (by first | assumption | exact hok.1 _ | exact hok.2.1 _ | omega) (g := (mkF m 19 #[.val (.ref aa), .val (.long qx), .second, .val (.long acc), .second, .val (.int (Int32.ofNat i))] [(.int (Int32.ofNat i)), (.ref ae)])) rfl rfl (hb hby d3_19) _ ?_
          show Steps p.tables e below (T833.setTop (mkF m 20 #[.val (.ref aa), .val (.long qx), .second, .val (.long acc), .second, .val (.int (Int32.ofNat i))] [(.long ((own_e S) i))])) _
          refine XS.lloadN X833.here hx rfl (hb hby d3_20) rfl ?_
          show Steps p.tables e below (T833.setTop (mkF m 21 #[.val (.ref aa), .val (.long qx), .second, .val (.long acc), .second, .val (.int (Int32.ofNat i))] [(.long qx), (.long ((own_e S) i))])) _
          refine XS.lcmp X833.here hx rfl (hb hby d3_21) rfl ?_
          show Steps p.tables e below (T833.setTop (mkF m 22 #[.val (.ref aa), .val (.long qx), .second, .val (.long acc), .second, .val (.int (Int32.ofNat i))] [(.int (lcmpW ((own_e S) i) qx))])) _
          refine XS.ifYes X833.here hx rfl (pc0 := 22) (pc' := 60) rfl (hb hby d3_22) rfl ((if0 _ _).trans (tlt hc834).2.2.1) (by decide) (by decide) ?_
          show Steps p.tables e below (T833.setTop (mkF m 60 #[.val (.ref aa), .val (.long qx), .second, .val (.long acc), .second, .val (.int (Int32.ofNat i))] [])) _
          refine XS.aloadN X833.here hx rfl (hb hby d3_60) rfl rfl ?_
          show Steps p.tables e below (T833.setTop (mkF m 61 #[.val (.ref aa), .val (.long qx), .second, .val (.long acc), .second, .val (.int (Int32.ofNat i))] [(.ref aa)])) _
          refine st835 _ ?_
          show Steps p.tables e below (T835.setTop (mkF m 64 #[.val (.ref aa), .val (.long qx), .second, .val (.long acc), .second, .val (.int (Int32.ofNat i))] [(.ref al)])) _
          refine XS.iload X835.here hx rfl (hb hby d3_64) rfl ?_
          show Steps p.tables e below (T835.setTop (mkF m 66 #[.val (.ref aa), .val (.long qx), .second, .val (.long acc), .second, .val (.int (Int32.ofNat i))] [(.int (Int32.ofNat i)), (.ref al)])) _
          refine IA.load X835 hx hZ e835 t840_14 i (own_cl (by first | assumption | exact hok.1 _ | exact hok.2.1 _ | omega) (by decide)) (own_nn (by first | assumption | exact hok.1 _ | exact hok.2.1 _ | omega) (by decide)) (by first | assumption | exact hok.1 _ | exact hok.2.1 _ | omega) (g := (mkF m 66 #[.val (.ref aa), .val (.long qx), .second, .val (.long acc), .second, .val (.int (Int32.ofNat i))] [(.int (Int32.ofNat i)), (.ref al)])) rfl rfl (hb hby d3_66) _ ?_
          show Steps p.tables e below (T835.setTop (mkF m 67 #[.val (.ref aa), .val (.long qx), .second, .val (.long acc), .second, .val (.int (Int32.ofNat i))] [(.int (Int32.ofNat ((own_l S) i)))])) _
          refine XS.istore X835.here hx rfl (hb hby d3_67) rfl (l' := #[.val (.ref aa), .val (.long qx), .second, .val (.long acc), .second, .val (.int (Int32.ofNat ((own_l S) i)))]) rfl ?_
          show Steps p.tables e below (T835.setTop (mkF m 69 #[.val (.ref aa), .val (.long qx), .second, .val (.long acc), .second, .val (.int (Int32.ofNat ((own_l S) i)))] [])) _
          refine XS.goto X835.here hx rfl (pc0 := 69) (pc' := 8) rfl (hb hby d3_69) (by decide) (by decide) ?_
          exact st' t kt
        · obtain ⟨T836, X836, e836, st836⟩ := getF X833 hx hZ hown (host := "") (Or.inl (hw _ (List.mem_of_getElem? (i := 14) rfl))) Via.refl e833 t840_3 (g := (mkF m 27 #[.val (.ref aa), .val (.long qx), .second, .val (.long acc), .second, .val (.int (Int32.ofNat i))] [(.ref aa), (.long acc)])) rfl rfl (hb hby d3_27)
          obtain ⟨T837, X837, e837, st837⟩ := getF X836 hx hZ hown (host := "") (Or.inl (hw _ (List.mem_of_getElem? (i := 19) rfl))) Via.refl e836 t840_5 (g := (mkF m 31 #[.val (.ref aa), .val (.long qx), .second, .val (.long acc), .second, .val (.int (Int32.ofNat i))] [(.ref aa), (.ref aS), (.long acc)])) rfl rfl (hb hby d3_31)
          obtain ⟨T838, X838, e838, st838⟩ := getF X837 hx hZ hown (host := "") (Or.inl (hw _ (List.mem_of_getElem? (i := 12) rfl))) Via.refl e837 t840_2 (g := (mkF m 39 #[.val (.ref aa), .val (.long qx), .second, .val (.long acc), .second, .val (.int (Int32.ofNat i))] [(.ref aa), (.long ((own_s S) ((own_l S) i))), (.long acc)])) rfl rfl (hb hby d3_39)
          obtain ⟨T839, X839, e839, st839⟩ := getF X838 hx hZ hown (host := "") (Or.inl (hw _ (List.mem_of_getElem? (i := 21) rfl))) Via.refl e838 t840_6 (g := (mkF m 49 #[.val (.ref aa), .val (.long qx), .second, .val (.long (acc + (((own_s S) ((own_l S) i)) + ((own_p S) i)))), .second, .val (.int (Int32.ofNat i))] [(.ref aa)])) rfl rfl (hb hby d3_49)
          obtain ⟨T', z, X', e', st'⟩ := ih ((own_r S) i) (acc + (((own_s S) ((own_l S) i)) + ((own_p S) i))) T839 (hok.2.1 _) (own_deep_r hd hz) X839 e839
          refine ⟨T', z, X', e', fun t kt => ?_⟩
          rw [own_end_r k acc hz (fun q => hc834 ((lw_gt _ _).mpr q))] at kt
          show Steps p.tables e below (TL.setTop (mkF m 8 #[.val (.ref aa), .val (.long qx), .second, .val (.long acc), .second, .val (.int (Int32.ofNat i))] [])) _
          refine XS.iload XL.here hx rfl (hb hby d3_8) rfl ?_
          show Steps p.tables e below (TL.setTop (mkF m 10 #[.val (.ref aa), .val (.long qx), .second, .val (.long acc), .second, .val (.int (Int32.ofNat i))] [(.int (Int32.ofNat i))])) _
          refine XS.ifNo XL.here hx rfl (hb hby d3_10) rfl ((if0 _ _).trans (feq hc832).1) ?_
          show Steps p.tables e below (TL.setTop (mkF m 13 #[.val (.ref aa), .val (.long qx), .second, .val (.long acc), .second, .val (.int (Int32.ofNat i))] [])) _
          refine XS.aloadN XL.here hx rfl (hb hby d3_13) rfl rfl ?_
          show Steps p.tables e below (TL.setTop (mkF m 14 #[.val (.ref aa), .val (.long qx), .second, .val (.long acc), .second, .val (.int (Int32.ofNat i))] [(.ref aa)])) _
          refine st833 _ ?_
          show Steps p.tables e below (T833.setTop (mkF m 17 #[.val (.ref aa), .val (.long qx), .second, .val (.long acc), .second, .val (.int (Int32.ofNat i))] [(.ref ae)])) _
          refine XS.iload X833.here hx rfl (hb hby d3_17) rfl ?_
          show Steps p.tables e below (T833.setTop (mkF m 19 #[.val (.ref aa), .val (.long qx), .second, .val (.long acc), .second, .val (.int (Int32.ofNat i))] [(.int (Int32.ofNat i)), (.ref ae)])) _
          refine JA.load X833 hx hZ e833 t840_10 i (own_cl (by first | assumption | exact hok.1 _ | exact hok.2.1 _ | omega) (by decide)) (own_nn (by first | assumption | exact hok.1 _ | exact hok.2.1 _ | omega) (by decide)) (by first | assumption | exact hok.1 _ | exact hok.2.1 _ | omega) (g := (mkF m 19 #[.val (.ref aa), .val (.long qx), .second, .val (.long acc), .second, .val (.int (Int32.ofNat i))] [(.int (Int32.ofNat i)), (.ref ae)])) rfl rfl (hb hby d3_19) _ ?_
          show Steps p.tables e below (T833.setTop (mkF m 20 #[.val (.ref aa), .val (.long qx), .second, .val (.long acc), .second, .val (.int (Int32.ofNat i))] [(.long ((own_e S) i))])) _
          refine XS.lloadN X833.here hx rfl (hb hby d3_20) rfl ?_
          show Steps p.tables e below (T833.setTop (mkF m 21 #[.val (.ref aa), .val (.long qx), .second, .val (.long acc), .second, .val (.int (Int32.ofNat i))] [(.long qx), (.long ((own_e S) i))])) _
          refine XS.lcmp X833.here hx rfl (hb hby d3_21) rfl ?_
          show Steps p.tables e below (T833.setTop (mkF m 22 #[.val (.ref aa), .val (.long qx), .second, .val (.long acc), .second, .val (.int (Int32.ofNat i))] [(.int (lcmpW ((own_e S) i) qx))])) _
          refine XS.ifNo X833.here hx rfl (hb hby d3_22) rfl ((if0 _ _).trans (flt hc834).2.2.1) ?_
          show Steps p.tables e below (T833.setTop (mkF m 25 #[.val (.ref aa), .val (.long qx), .second, .val (.long acc), .second, .val (.int (Int32.ofNat i))] [])) _
          refine XS.lloadN X833.here hx rfl (hb hby d3_25) rfl ?_
          show Steps p.tables e below (T833.setTop (mkF m 26 #[.val (.ref aa), .val (.long qx), .second, .val (.long acc), .second, .val (.int (Int32.ofNat i))] [(.long acc)])) _
          refine XS.aloadN X833.here hx rfl (hb hby d3_26) rfl rfl ?_
          show Steps p.tables e below (T833.setTop (mkF m 27 #[.val (.ref aa), .val (.long qx), .second, .val (.long acc), .second, .val (.int (Int32.ofNat i))] [(.ref aa), (.long acc)])) _
          refine st836 _ ?_
          show Steps p.tables e below (T836.setTop (mkF m 30 #[.val (.ref aa), .val (.long qx), .second, .val (.long acc), .second, .val (.int (Int32.ofNat i))] [(.ref aS), (.long acc)])) _
          refine XS.aloadN X836.here hx rfl (hb hby d3_30) rfl rfl ?_
          show Steps p.tables e below (T836.setTop (mkF m 31 #[.val (.ref aa), .val (.long qx), .second, .val (.long acc), .second, .val (.int (Int32.ofNat i))] [(.ref aa), (.ref aS), (.long acc)])) _
          refine st837 _ ?_
          show Steps p.tables e below (T837.setTop (mkF m 34 #[.val (.ref aa), .val (.long qx), .second, .val (.long acc), .second, .val (.int (Int32.ofNat i))] [(.ref al), (.ref aS), (.long acc)])) _
          refine XS.iload X837.here hx rfl (hb hby d3_34) rfl ?_
          show Steps p.tables e below (T837.setTop (mkF m 36 #[.val (.ref aa), .val (.long qx), .second, .val (.long acc), .second, .val (.int (Int32.ofNat i))] [(.int (Int32.ofNat i)), (.ref al), (.ref aS), (.long acc)])) _
          refine IA.load X837 hx hZ e837 t840_14 i (own_cl (by first | assumption | exact hok.1 _ | exact hok.2.1 _ | omega) (by decide)) (own_nn (by first | assumption | exact hok.1 _ | exact hok.2.1 _ | omega) (by decide)) (by first | assumption | exact hok.1 _ | exact hok.2.1 _ | omega) (g := (mkF m 36 #[.val (.ref aa), .val (.long qx), .second, .val (.long acc), .second, .val (.int (Int32.ofNat i))] [(.int (Int32.ofNat i)), (.ref al), (.ref aS), (.long acc)])) rfl rfl (hb hby d3_36) _ ?_
          show Steps p.tables e below (T837.setTop (mkF m 37 #[.val (.ref aa), .val (.long qx), .second, .val (.long acc), .second, .val (.int (Int32.ofNat i))] [(.int (Int32.ofNat ((own_l S) i))), (.ref aS), (.long acc)])) _
          refine JA.load X837 hx hZ e837 t840_12 ((own_l S) i) (own_cl (by first | assumption | exact hok.1 _ | exact hok.2.1 _ | omega) (by decide)) (own_nn (by first | assumption | exact hok.1 _ | exact hok.2.1 _ | omega) (by decide)) (by first | assumption | exact hok.1 _ | exact hok.2.1 _ | omega) (g := (mkF m 37 #[.val (.ref aa), .val (.long qx), .second, .val (.long acc), .second, .val (.int (Int32.ofNat i))] [(.int (Int32.ofNat ((own_l S) i))), (.ref aS), (.long acc)])) rfl rfl (hb hby d3_37) _ ?_
          show Steps p.tables e below (T837.setTop (mkF m 38 #[.val (.ref aa), .val (.long qx), .second, .val (.long acc), .second, .val (.int (Int32.ofNat i))] [(.long ((own_s S) ((own_l S) i))), (.long acc)])) _
          refine XS.aloadN X837.here hx rfl (hb hby d3_38) rfl rfl ?_
          show Steps p.tables e below (T837.setTop (mkF m 39 #[.val (.ref aa), .val (.long qx), .second, .val (.long acc), .second, .val (.int (Int32.ofNat i))] [(.ref aa), (.long ((own_s S) ((own_l S) i))), (.long acc)])) _
          refine st838 _ ?_
          show Steps p.tables e below (T838.setTop (mkF m 42 #[.val (.ref aa), .val (.long qx), .second, .val (.long acc), .second, .val (.int (Int32.ofNat i))] [(.ref ap), (.long ((own_s S) ((own_l S) i))), (.long acc)])) _
          refine XS.iload X838.here hx rfl (hb hby d3_42) rfl ?_
          show Steps p.tables e below (T838.setTop (mkF m 44 #[.val (.ref aa), .val (.long qx), .second, .val (.long acc), .second, .val (.int (Int32.ofNat i))] [(.int (Int32.ofNat i)), (.ref ap), (.long ((own_s S) ((own_l S) i))), (.long acc)])) _
          refine JA.load X838 hx hZ e838 t840_11 i (own_cl (by first | assumption | exact hok.1 _ | exact hok.2.1 _ | omega) (by decide)) (own_nn (by first | assumption | exact hok.1 _ | exact hok.2.1 _ | omega) (by decide)) (by first | assumption | exact hok.1 _ | exact hok.2.1 _ | omega) (g := (mkF m 44 #[.val (.ref aa), .val (.long qx), .second, .val (.long acc), .second, .val (.int (Int32.ofNat i))] [(.int (Int32.ofNat i)), (.ref ap), (.long ((own_s S) ((own_l S) i))), (.long acc)])) rfl rfl (hb hby d3_44) _ ?_
          show Steps p.tables e below (T838.setTop (mkF m 45 #[.val (.ref aa), .val (.long qx), .second, .val (.long acc), .second, .val (.int (Int32.ofNat i))] [(.long ((own_p S) i)), (.long ((own_s S) ((own_l S) i))), (.long acc)])) _
          refine XS.ladd X838.here hx rfl (hb hby d3_45) rfl ?_
          show Steps p.tables e below (T838.setTop (mkF m 46 #[.val (.ref aa), .val (.long qx), .second, .val (.long acc), .second, .val (.int (Int32.ofNat i))] [(.long (((own_s S) ((own_l S) i)) + ((own_p S) i))), (.long acc)])) _
          refine XS.ladd X838.here hx rfl (hb hby d3_46) rfl ?_
          show Steps p.tables e below (T838.setTop (mkF m 47 #[.val (.ref aa), .val (.long qx), .second, .val (.long acc), .second, .val (.int (Int32.ofNat i))] [(.long (acc + (((own_s S) ((own_l S) i)) + ((own_p S) i))))])) _
          refine XS.lstoreN X838.here hx rfl (hb hby d3_47) rfl (l' := #[.val (.ref aa), .val (.long qx), .second, .val (.long (acc + (((own_s S) ((own_l S) i)) + ((own_p S) i)))), .second, .val (.int (Int32.ofNat i))]) rfl ?_
          show Steps p.tables e below (T838.setTop (mkF m 48 #[.val (.ref aa), .val (.long qx), .second, .val (.long (acc + (((own_s S) ((own_l S) i)) + ((own_p S) i)))), .second, .val (.int (Int32.ofNat i))] [])) _
          refine XS.aloadN X838.here hx rfl (hb hby d3_48) rfl rfl ?_
          show Steps p.tables e below (T838.setTop (mkF m 49 #[.val (.ref aa), .val (.long qx), .second, .val (.long (acc + (((own_s S) ((own_l S) i)) + ((own_p S) i)))), .second, .val (.int (Int32.ofNat i))] [(.ref aa)])) _
          refine st839 _ ?_
          show Steps p.tables e below (T839.setTop (mkF m 52 #[.val (.ref aa), .val (.long qx), .second, .val (.long (acc + (((own_s S) ((own_l S) i)) + ((own_p S) i)))), .second, .val (.int (Int32.ofNat i))] [(.ref ar)])) _
          refine XS.iload X839.here hx rfl (hb hby d3_52) rfl ?_
          show Steps p.tables e below (T839.setTop (mkF m 54 #[.val (.ref aa), .val (.long qx), .second, .val (.long (acc + (((own_s S) ((own_l S) i)) + ((own_p S) i)))), .second, .val (.int (Int32.ofNat i))] [(.int (Int32.ofNat i)), (.ref ar)])) _
          refine IA.load X839 hx hZ e839 t840_15 i (own_cl (by first | assumption | exact hok.1 _ | exact hok.2.1 _ | omega) (by decide)) (own_nn (by first | assumption | exact hok.1 _ | exact hok.2.1 _ | omega) (by decide)) (by first | assumption | exact hok.1 _ | exact hok.2.1 _ | omega) (g := (mkF m 54 #[.val (.ref aa), .val (.long qx), .second, .val (.long (acc + (((own_s S) ((own_l S) i)) + ((own_p S) i)))), .second, .val (.int (Int32.ofNat i))] [(.int (Int32.ofNat i)), (.ref ar)])) rfl rfl (hb hby d3_54) _ ?_
          show Steps p.tables e below (T839.setTop (mkF m 55 #[.val (.ref aa), .val (.long qx), .second, .val (.long (acc + (((own_s S) ((own_l S) i)) + ((own_p S) i)))), .second, .val (.int (Int32.ofNat i))] [(.int (Int32.ofNat ((own_r S) i)))])) _
          refine XS.istore X839.here hx rfl (hb hby d3_55) rfl (l' := #[.val (.ref aa), .val (.long qx), .second, .val (.long (acc + (((own_s S) ((own_l S) i)) + ((own_p S) i)))), .second, .val (.int (Int32.ofNat ((own_r S) i)))]) rfl ?_
          show Steps p.tables e below (T839.setTop (mkF m 57 #[.val (.ref aa), .val (.long qx), .second, .val (.long (acc + (((own_s S) ((own_l S) i)) + ((own_p S) i)))), .second, .val (.int (Int32.ofNat ((own_r S) i)))] [])) _
          refine XS.goto X839.here hx rfl (pc0 := 57) (pc' := 8) rfl (hb hby d3_57) (by decide) (by decide) ?_
          exact st' t kt
  obtain ⟨T842, z842, X842, e842, st842⟩ := loop (0 + 1 + 1 + 1 + 1) rt (0 : Int64) T841 hrt hdeep X841 e841
  obtain ⟨fs, hr, hrun, hended, hW, hsame⟩ := X842.leave (v := some (.long (own_end (0 + 1 + 1 + 1 + 1) S rt qx (0 : Int64)))) (fun h => by rw [Bd.returns] at h; cases h)
  refine ⟨_, _, pre0 _ ?_, hrun, hended, _, _, rfl, ?_, ⟨_, rfl⟩, hW, hsame.mono (by decide) (by decide)⟩
  · show Steps p.tables e below (s₁.setTop (mkF m 0 #[.val (.ref aa), .val (.long qx), .second, .unset, .unset, .unset] [])) _
    refine XS.lconst X0.here hx rfl (hb hby d3_0) ?_
    show Steps p.tables e below (s₁.setTop (mkF m 1 #[.val (.ref aa), .val (.long qx), .second, .unset, .unset, .unset] [(.long (0 : Int64))])) _
    refine XS.lstoreN X0.here hx rfl (hb hby d3_1) rfl (l' := #[.val (.ref aa), .val (.long qx), .second, .val (.long (0 : Int64)), .second, .unset]) rfl ?_
    show Steps p.tables e below (s₁.setTop (mkF m 2 #[.val (.ref aa), .val (.long qx), .second, .val (.long (0 : Int64)), .second, .unset] [])) _
    refine XS.aloadN X0.here hx rfl (hb hby d3_2) rfl rfl ?_
    show Steps p.tables e below (s₁.setTop (mkF m 3 #[.val (.ref aa), .val (.long qx), .second, .val (.long (0 : Int64)), .second, .unset] [(.ref aa)])) _
    refine st841 _ ?_
    show Steps p.tables e below (T841.setTop (mkF m 6 #[.val (.ref aa), .val (.long qx), .second, .val (.long (0 : Int64)), .second, .unset] [(.int (Int32.ofNat rt))])) _
    refine XS.istore X841.here hx rfl (hb hby d3_6) rfl (l' := #[.val (.ref aa), .val (.long qx), .second, .val (.long (0 : Int64)), .second, .val (.int (Int32.ofNat rt))]) rfl ?_
    show Steps p.tables e below (T841.setTop (mkF m 8 #[.val (.ref aa), .val (.long qx), .second, .val (.long (0 : Int64)), .second, .val (.int (Int32.ofNat rt))] [])) _
    refine st842 _ ?_
    show Steps p.tables e below (T842.setTop (mkF m 72 #[.val (.ref aa), .val (.long qx), .second, .val (.long (own_end (0 + 1 + 1 + 1 + 1) S rt qx (0 : Int64))), .second, .val (.int z842)] [])) _
    refine XS.lloadN X842.here hx rfl (hb hby d3_72) rfl ?_
    show Steps p.tables e below (T842.setTop (mkF m 73 #[.val (.ref aa), .val (.long qx), .second, .val (.long (own_end (0 + 1 + 1 + 1 + 1) S rt qx (0 : Int64))), .second, .val (.int z842)] [(.long (own_end (0 + 1 + 1 + 1 + 1) S rt qx (0 : Int64)))])) _
    jvm_step X842.here [X842.here.top, hx, (hb hby d3_73), X842.method', Bd.returns, narrow]
    first | (intro acts; rw [hr _ acts rfl rfl rfl]) | rw [hr _ _ rfl rfl rfl]
    exact Steps.refl _
  · show Q3 Z aa ae ap aS ah al ar S rt md B qx h0 n0 _ T842.heap _
    rw [e842]
    exact ⟨rfl, N0, rfl⟩

theorem pd_83957 : parseMethodDescriptor "()V" = some ⟨[], none⟩ := by decide +kernel
theorem pd_246263 : parseMethodDescriptor "(J)J" = some ⟨[.long], some .long⟩ := by decide +kernel
theorem pd_717445 : parseMethodDescriptor "(JJ)V" = some ⟨[.long, .long], none⟩ := by decide +kernel
theorem pd_693043 : parseMethodDescriptor "(JJJ)J" = some ⟨[.long, .long, .long], some .long⟩ := by decide +kernel
theorem ef_0 (m : MethodId) (q1 : Int64) (q2 : Int64) (q3 : Int64) (q4 : Int64) (q5 : Int64) (xs : Int32) : entryFrame m #[(.long q1), (.long q2), (.long q3), (.long q4), (.long q5), (.int xs)] maxLocals = mkF m 0 #[.val (.long q1), .second, .val (.long q2), .second, .val (.long q3), .second, .val (.long q4), .second, .val (.long q5), .second, .val (.int xs), .unset, .unset, .unset, .unset, .unset, .unset, .unset, .unset, .unset, .unset, .unset, .unset, .unset, .unset, .unset, .unset, .unset, .unset, .unset, .unset, .unset, .unset, .unset] [] := by first | (simp [entryFrame, mkF, argsToLocals, Value.category, maxLocals]; done) | rfl
def Q0 (Z : State) (q1 : Int64) (q2 : Int64) (q3 : Int64) (q4 : Int64) (q5 : Int64) (xs : Int32) (h0 : Heap) (n0 : Nat) (v : Option Value) (h : Heap) (L : List Loc) : Prop := v = some (.int 1) ∧ Fr n0 L
set_option maxRecDepth 65536 in
set_option maxHeartbeats 40000000 in
theorem rm0 (l : Launch) (Z : State) (a0 : Array Value) (hw : ∀ d ∈ tables_1, d.before a0 Z = true) (ws : List Jvm.Cond) (q1 : Int64) (q2 : Int64) (q3 : Int64) (q4 : Int64) (q5 : Int64) (xs : Int32) (h0 : Heap) (n0 : Nat) (Z0 : n0 ≤ h0.size) :
    MetFree l x (head1 (Jvm.Cond.code x code maxLocals ret :: ws) room_1) (fun a U => a = #[(.long q1), (.long q2), (.long q3), (.long q4), (.long q5), (.int xs)] ∧ Z.Warmed39 U.vm ∧ U.heap = h0) (fun _ _ _ _ _ => True) (fun _ U o U' => ∃ v L, o = .returned v ∧ Q0 Z q1 q2 q3 q4 q5 xs h0 n0 v U'.heap L ∧ FrameEnd U o U' L room_1.cells room_1.slots) := by
  refine MetFree.of_bodySF (plainFor_of_name pn_com_example_berthline_berthline_engine_replay_EstimatedEndsEndingByPinLaw) hisR ?_
  intro p e s m args below meth c s₁ Bd hml0 hP hK
  obtain ⟨rfl, hZ, hh⟩ := hP
  have hx := Bd.exec
  have hby := Bd.bytes
  have hml : c.maxLocals = 34 := hml0
  have hown : s.vm.findClass "com/example/berthline/berthline/engine/replay/EstimatedEndsEndingByPinLaw" = some m.cls := findClass_of_methodNamed Bd.named
  have hnm := (name_of_methodNamed Bd.named Bd.method).1
  have X0 : Stand p l e room_1 s m #[(.long q1), (.long q2), (.long q3), (.long q4), (.long q5), (.int xs)] below meth c s₁ [] 0 0 := Stand.of_body Bd
  have e0 : s₁.heap = h0 := by rw [← hh, Bd.state]; rfl
  have N0 := Fr.nil n0
  have pre0 : ∀ t, Steps p.tables e below (s₁.setTop (mkF m 0 #[.val (.long q1), .second, .val (.long q2), .second, .val (.long q3), .second, .val (.long q4), .second, .val (.long q5), .second, .val (.int xs), .unset, .unset, .unset, .unset, .unset, .unset, .unset, .unset, .unset, .unset, .unset, .unset, .unset, .unset, .unset, .unset, .unset, .unset, .unset, .unset, .unset, .unset, .unset] [])) t → Steps p.tables e below (s₁.setTop (entryFrame m #[(.long q1), (.long q2), (.long q3), (.long q4), (.long q5), (.int xs)] maxLocals)) t := fun t k => castTop (ef_0 m q1 q2 q3 q4 q5 xs) k
  have I0 := own_inv0
  obtain ⟨p1, hp1⟩ : ∃ z, z = (((xs &&& (7 : Int32)) + (1 : Int32)).toInt64) := ⟨_, rfl⟩
  obtain ⟨p2, hp2⟩ : ∃ z, z = (((((xs.toUInt32 >>> ((3 : Int32) &&& 31).toUInt32).toInt32) &&& (7 : Int32)) + (1 : Int32)).toInt64) := ⟨_, rfl⟩
  obtain ⟨p3, hp3⟩ : ∃ z, z = (((((xs.toUInt32 >>> ((6 : Int32) &&& 31).toUInt32).toInt32) &&& (7 : Int32)) + (1 : Int32)).toInt64) := ⟨_, rfl⟩
  obtain ⟨p4, hp4⟩ : ∃ z, z = (((((xs.toUInt32 >>> ((9 : Int32) &&& 31).toUInt32).toInt32) &&& (7 : Int32)) + (1 : Int32)).toInt64) := ⟨_, rfl⟩
  have jn844 : ∀ t, Steps p.tables e below (s₁.setTop (mkF m 76 #[.val (.long q1), .second, .val (.long q2), .second, .val (.long q3), .second, .val (.long q4), .second, .val (.long q5), .second, .val (.int xs), .val (.long p1), .second, .val (.long p2), .second, .val (.long p3), .second, .val (.long p4), .second, .val (.long q1), .second, .val (.long (if (((xs.toUInt32 >>> ((12 : Int32) &&& 31).toUInt32).toInt32) &&& (1 : Int32)) = (0 : Int32) then q2 else q1)), .second, .val (.long q3), .second, .val (.long q4), .second, .unset, .unset, .unset, .unset, .unset, .unset, .unset] [])) t → Steps p.tables e below (s₁.setTop (mkF m 69 #[.val (.long q1), .second, .val (.long q2), .second, .val (.long q3), .second, .val (.long q4), .second, .val (.long q5), .second, .val (.int xs), .val (.long p1), .second, .val (.long p2), .second, .val (.long p3), .second, .val (.long p4), .second, .val (.long q1), .second, .val (.long q2), .second, .val (.long q3), .second, .val (.long q4), .second, .unset, .unset, .unset, .unset, .unset, .unset, .unset] [(.int (((xs.toUInt32 >>> ((12 : Int32) &&& 31).toUInt32).toInt32) &&& (1 : Int32)))])) t := by
    intro t kt
    by_cases hc843 : (((xs.toUInt32 >>> ((12 : Int32) &&& 31).toUInt32).toInt32) &&& (1 : Int32)) = (0 : Int32)
    · simp only [if_pos hc843] at kt
      show Steps p.tables e below (s₁.setTop (mkF m 69 #[.val (.long q1), .second, .val (.long q2), .second, .val (.long q3), .second, .val (.long q4), .second, .val (.long q5), .second, .val (.int xs), .val (.long p1), .second, .val (.long p2), .second, .val (.long p3), .second, .val (.long p4), .second, .val (.long q1), .second, .val (.long q2), .second, .val (.long q3), .second, .val (.long q4), .second, .unset, .unset, .unset, .unset, .unset, .unset, .unset] [(.int (((xs.toUInt32 >>> ((12 : Int32) &&& 31).toUInt32).toInt32) &&& (1 : Int32)))])) _
      refine XS.ifYes X0.here hx rfl (pc0 := 69) (pc' := 76) rfl (hb hby at_69) rfl ((if0 _ _).trans (teq hc843).1) (by decide) (by decide) ?_
      exact kt
    · simp only [if_neg hc843] at kt
      show Steps p.tables e below (s₁.setTop (mkF m 69 #[.val (.long q1), .second, .val (.long q2), .second, .val (.long q3), .second, .val (.long q4), .second, .val (.long q5), .second, .val (.int xs), .val (.long p1), .second, .val (.long p2), .second, .val (.long p3), .second, .val (.long p4), .second, .val (.long q1), .second, .val (.long q2), .second, .val (.long q3), .second, .val (.long q4), .second, .unset, .unset, .unset, .unset, .unset, .unset, .unset] [(.int (((xs.toUInt32 >>> ((12 : Int32) &&& 31).toUInt32).toInt32) &&& (1 : Int32)))])) _
      refine XS.ifNo X0.here hx rfl (hb hby at_69) rfl ((if0 _ _).trans (feq hc843).1) ?_
      show Steps p.tables e below (s₁.setTop (mkF m 72 #[.val (.long q1), .second, .val (.long q2), .second, .val (.long q3), .second, .val (.long q4), .second, .val (.long q5), .second, .val (.int xs), .val (.long p1), .second, .val (.long p2), .second, .val (.long p3), .second, .val (.long p4), .second, .val (.long q1), .second, .val (.long q2), .second, .val (.long q3), .second, .val (.long q4), .second, .unset, .unset, .unset, .unset, .unset, .unset, .unset] [])) _
      refine XS.lload X0.here hx rfl (hb hby at_72) rfl ?_
      show Steps p.tables e below (s₁.setTop (mkF m 74 #[.val (.long q1), .second, .val (.long q2), .second, .val (.long q3), .second, .val (.long q4), .second, .val (.long q5), .second, .val (.int xs), .val (.long p1), .second, .val (.long p2), .second, .val (.long p3), .second, .val (.long p4), .second, .val (.long q1), .second, .val (.long q2), .second, .val (.long q3), .second, .val (.long q4), .second, .unset, .unset, .unset, .unset, .unset, .unset, .unset] [(.long q1)])) _
      refine XS.lstore X0.here hx rfl (hb hby at_74) rfl (l' := #[.val (.long q1), .second, .val (.long q2), .second, .val (.long q3), .second, .val (.long q4), .second, .val (.long q5), .second, .val (.int xs), .val (.long p1), .second, .val (.long p2), .second, .val (.long p3), .second, .val (.long p4), .second, .val (.long q1), .second, .val (.long q1), .second, .val (.long q3), .second, .val (.long q4), .second, .unset, .unset, .unset, .unset, .unset, .unset, .unset]) rfl ?_
      exact kt
  obtain ⟨vb845, hvb845⟩ : ∃ z, z = (if (((xs.toUInt32 >>> ((12 : Int32) &&& 31).toUInt32).toInt32) &&& (1 : Int32)) = (0 : Int32) then q2 else q1) := ⟨_, rfl⟩
  rw [← hvb845] at jn844
  have jn847 : ∀ t, Steps p.tables e below (s₁.setTop (mkF m 90 #[.val (.long q1), .second, .val (.long q2), .second, .val (.long q3), .second, .val (.long q4), .second, .val (.long q5), .second, .val (.int xs), .val (.long p1), .second, .val (.long p2), .second, .val (.long p3), .second, .val (.long p4), .second, .val (.long q1), .second, .val (.long vb845), .second, .val (.long (if (((xs.toUInt32 >>> ((13 : Int32) &&& 31).toUInt32).toInt32) &&& (1 : Int32)) = (0 : Int32) then q3 else q1)), .second, .val (.long q4), .second, .unset, .unset, .unset, .unset, .unset, .unset, .unset] [])) t → Steps p.tables e below (s₁.setTop (mkF m 83 #[.val (.long q1), .second, .val (.long q2), .second, .val (.long q3), .second, .val (.long q4), .second, .val (.long q5), .second, .val (.int xs), .val (.long p1), .second, .val (.long p2), .second, .val (.long p3), .second, .val (.long p4), .second, .val (.long q1), .second, .val (.long vb845), .second, .val (.long q3), .second, .val (.long q4), .second, .unset, .unset, .unset, .unset, .unset, .unset, .unset] [(.int (((xs.toUInt32 >>> ((13 : Int32) &&& 31).toUInt32).toInt32) &&& (1 : Int32)))])) t := by
    intro t kt
    by_cases hc846 : (((xs.toUInt32 >>> ((13 : Int32) &&& 31).toUInt32).toInt32) &&& (1 : Int32)) = (0 : Int32)
    · simp only [if_pos hc846] at kt
      show Steps p.tables e below (s₁.setTop (mkF m 83 #[.val (.long q1), .second, .val (.long q2), .second, .val (.long q3), .second, .val (.long q4), .second, .val (.long q5), .second, .val (.int xs), .val (.long p1), .second, .val (.long p2), .second, .val (.long p3), .second, .val (.long p4), .second, .val (.long q1), .second, .val (.long vb845), .second, .val (.long q3), .second, .val (.long q4), .second, .unset, .unset, .unset, .unset, .unset, .unset, .unset] [(.int (((xs.toUInt32 >>> ((13 : Int32) &&& 31).toUInt32).toInt32) &&& (1 : Int32)))])) _
      refine XS.ifYes X0.here hx rfl (pc0 := 83) (pc' := 90) rfl (hb hby at_83) rfl ((if0 _ _).trans (teq hc846).1) (by decide) (by decide) ?_
      exact kt
    · simp only [if_neg hc846] at kt
      show Steps p.tables e below (s₁.setTop (mkF m 83 #[.val (.long q1), .second, .val (.long q2), .second, .val (.long q3), .second, .val (.long q4), .second, .val (.long q5), .second, .val (.int xs), .val (.long p1), .second, .val (.long p2), .second, .val (.long p3), .second, .val (.long p4), .second, .val (.long q1), .second, .val (.long vb845), .second, .val (.long q3), .second, .val (.long q4), .second, .unset, .unset, .unset, .unset, .unset, .unset, .unset] [(.int (((xs.toUInt32 >>> ((13 : Int32) &&& 31).toUInt32).toInt32) &&& (1 : Int32)))])) _
      refine XS.ifNo X0.here hx rfl (hb hby at_83) rfl ((if0 _ _).trans (feq hc846).1) ?_
      show Steps p.tables e below (s₁.setTop (mkF m 86 #[.val (.long q1), .second, .val (.long q2), .second, .val (.long q3), .second, .val (.long q4), .second, .val (.long q5), .second, .val (.int xs), .val (.long p1), .second, .val (.long p2), .second, .val (.long p3), .second, .val (.long p4), .second, .val (.long q1), .second, .val (.long vb845), .second, .val (.long q3), .second, .val (.long q4), .second, .unset, .unset, .unset, .unset, .unset, .unset, .unset] [])) _
      refine XS.lload X0.here hx rfl (hb hby at_86) rfl ?_
      show Steps p.tables e below (s₁.setTop (mkF m 88 #[.val (.long q1), .second, .val (.long q2), .second, .val (.long q3), .second, .val (.long q4), .second, .val (.long q5), .second, .val (.int xs), .val (.long p1), .second, .val (.long p2), .second, .val (.long p3), .second, .val (.long p4), .second, .val (.long q1), .second, .val (.long vb845), .second, .val (.long q3), .second, .val (.long q4), .second, .unset, .unset, .unset, .unset, .unset, .unset, .unset] [(.long q1)])) _
      refine XS.lstore X0.here hx rfl (hb hby at_88) rfl (l' := #[.val (.long q1), .second, .val (.long q2), .second, .val (.long q3), .second, .val (.long q4), .second, .val (.long q5), .second, .val (.int xs), .val (.long p1), .second, .val (.long p2), .second, .val (.long p3), .second, .val (.long p4), .second, .val (.long q1), .second, .val (.long vb845), .second, .val (.long q1), .second, .val (.long q4), .second, .unset, .unset, .unset, .unset, .unset, .unset, .unset]) rfl ?_
      exact kt
  obtain ⟨vc848, hvc848⟩ : ∃ z, z = (if (((xs.toUInt32 >>> ((13 : Int32) &&& 31).toUInt32).toInt32) &&& (1 : Int32)) = (0 : Int32) then q3 else q1) := ⟨_, rfl⟩
  rw [← hvc848] at jn847
  have jn850 : ∀ t, Steps p.tables e below (s₁.setTop (mkF m 104 #[.val (.long q1), .second, .val (.long q2), .second, .val (.long q3), .second, .val (.long q4), .second, .val (.long q5), .second, .val (.int xs), .val (.long p1), .second, .val (.long p2), .second, .val (.long p3), .second, .val (.long p4), .second, .val (.long q1), .second, .val (.long vb845), .second, .val (.long vc848), .second, .val (.long (if (((xs.toUInt32 >>> ((14 : Int32) &&& 31).toUInt32).toInt32) &&& (1 : Int32)) = (0 : Int32) then q4 else vb845)), .second, .unset, .unset, .unset, .unset, .unset, .unset, .unset] [])) t → Steps p.tables e below (s₁.setTop (mkF m 97 #[.val (.long q1), .second, .val (.long q2), .second, .val (.long q3), .second, .val (.long q4), .second, .val (.long q5), .second, .val (.int xs), .val (.long p1), .second, .val (.long p2), .second, .val (.long p3), .second, .val (.long p4), .second, .val (.long q1), .second, .val (.long vb845), .second, .val (.long vc848), .second, .val (.long q4), .second, .unset, .unset, .unset, .unset, .unset, .unset, .unset] [(.int (((xs.toUInt32 >>> ((14 : Int32) &&& 31).toUInt32).toInt32) &&& (1 : Int32)))])) t := by
    intro t kt
    by_cases hc849 : (((xs.toUInt32 >>> ((14 : Int32) &&& 31).toUInt32).toInt32) &&& (1 : Int32)) = (0 : Int32)
    · simp only [if_pos hc849] at kt
      show Steps p.tables e below (s₁.setTop (mkF m 97 #[.val (.long q1), .second, .val (.long q2), .second, .val (.long q3), .second, .val (.long q4), .second, .val (.long q5), .second, .val (.int xs), .val (.long p1), .second, .val (.long p2), .second, .val (.long p3), .second, .val (.long p4), .second, .val (.long q1), .second, .val (.long vb845), .second, .val (.long vc848), .second, .val (.long q4), .second, .unset, .unset, .unset, .unset, .unset, .unset, .unset] [(.int (((xs.toUInt32 >>> ((14 : Int32) &&& 31).toUInt32).toInt32) &&& (1 : Int32)))])) _
      refine XS.ifYes X0.here hx rfl (pc0 := 97) (pc' := 104) rfl (hb hby at_97) rfl ((if0 _ _).trans (teq hc849).1) (by decide) (by decide) ?_
      exact kt
    · simp only [if_neg hc849] at kt
      show Steps p.tables e below (s₁.setTop (mkF m 97 #[.val (.long q1), .second, .val (.long q2), .second, .val (.long q3), .second, .val (.long q4), .second, .val (.long q5), .second, .val (.int xs), .val (.long p1), .second, .val (.long p2), .second, .val (.long p3), .second, .val (.long p4), .second, .val (.long q1), .second, .val (.long vb845), .second, .val (.long vc848), .second, .val (.long q4), .second, .unset, .unset, .unset, .unset, .unset, .unset, .unset] [(.int (((xs.toUInt32 >>> ((14 : Int32) &&& 31).toUInt32).toInt32) &&& (1 : Int32)))])) _
      refine XS.ifNo X0.here hx rfl (hb hby at_97) rfl ((if0 _ _).trans (feq hc849).1) ?_
      show Steps p.tables e below (s₁.setTop (mkF m 100 #[.val (.long q1), .second, .val (.long q2), .second, .val (.long q3), .second, .val (.long q4), .second, .val (.long q5), .second, .val (.int xs), .val (.long p1), .second, .val (.long p2), .second, .val (.long p3), .second, .val (.long p4), .second, .val (.long q1), .second, .val (.long vb845), .second, .val (.long vc848), .second, .val (.long q4), .second, .unset, .unset, .unset, .unset, .unset, .unset, .unset] [])) _
      refine XS.lload X0.here hx rfl (hb hby at_100) rfl ?_
      show Steps p.tables e below (s₁.setTop (mkF m 102 #[.val (.long q1), .second, .val (.long q2), .second, .val (.long q3), .second, .val (.long q4), .second, .val (.long q5), .second, .val (.int xs), .val (.long p1), .second, .val (.long p2), .second, .val (.long p3), .second, .val (.long p4), .second, .val (.long q1), .second, .val (.long vb845), .second, .val (.long vc848), .second, .val (.long q4), .second, .unset, .unset, .unset, .unset, .unset, .unset, .unset] [(.long vb845)])) _
      refine XS.lstore X0.here hx rfl (hb hby at_102) rfl (l' := #[.val (.long q1), .second, .val (.long q2), .second, .val (.long q3), .second, .val (.long q4), .second, .val (.long q5), .second, .val (.int xs), .val (.long p1), .second, .val (.long p2), .second, .val (.long p3), .second, .val (.long p4), .second, .val (.long q1), .second, .val (.long vb845), .second, .val (.long vc848), .second, .val (.long vb845), .second, .unset, .unset, .unset, .unset, .unset, .unset, .unset]) rfl ?_
      exact kt
  obtain ⟨vd851, hvd851⟩ : ∃ z, z = (if (((xs.toUInt32 >>> ((14 : Int32) &&& 31).toUInt32).toInt32) &&& (1 : Int32)) = (0 : Int32) then q4 else vb845) := ⟨_, rfl⟩
  rw [← hvd851] at jn850
  obtain ⟨pk, hpk⟩ : ∃ z, z = (((xs.toUInt32 >>> ((15 : Int32) &&& 31).toUInt32).toInt32) &&& (7 : Int32)) := ⟨_, rfl⟩
  have jn863 : ∀ t, Steps p.tables e below (s₁.setTop (mkF m 198 #[.val (.long q1), .second, .val (.long q2), .second, .val (.long q3), .second, .val (.long q4), .second, .val (.long q5), .second, .val (.int xs), .val (.long p1), .second, .val (.long p2), .second, .val (.long p3), .second, .val (.long p4), .second, .val (.long q1), .second, .val (.long vb845), .second, .val (.long vc848), .second, .val (.long vd851), .second, .val (.int pk), .val (.long (if pk = (1 : Int32) then q1 else (if pk = (2 : Int32) then vb845 else (if pk = (3 : Int32) then vc848 else (if pk = (4 : Int32) then vd851 else (if pk = (5 : Int32) then (q1 - (1 : Int64)) else (if pk = (6 : Int32) then (vc848 - (1 : Int64)) else q5))))))), .second, .unset, .unset, .unset, .unset] [])) t → Steps p.tables e below (s₁.setTop (mkF m 121 #[.val (.long q1), .second, .val (.long q2), .second, .val (.long q3), .second, .val (.long q4), .second, .val (.long q5), .second, .val (.int xs), .val (.long p1), .second, .val (.long p2), .second, .val (.long p3), .second, .val (.long p4), .second, .val (.long q1), .second, .val (.long vb845), .second, .val (.long vc848), .second, .val (.long vd851), .second, .val (.int pk), .val (.long q5), .second, .unset, .unset, .unset, .unset] [(.int (1 : Int32)), (.int pk)])) t := by
    intro t kt
    by_cases hc852 : pk = (1 : Int32)
    · simp only [if_pos hc852] at kt
      show Steps p.tables e below (s₁.setTop (mkF m 121 #[.val (.long q1), .second, .val (.long q2), .second, .val (.long q3), .second, .val (.long q4), .second, .val (.long q5), .second, .val (.int xs), .val (.long p1), .second, .val (.long p2), .second, .val (.long p3), .second, .val (.long p4), .second, .val (.long q1), .second, .val (.long vb845), .second, .val (.long vc848), .second, .val (.long vd851), .second, .val (.int pk), .val (.long q5), .second, .unset, .unset, .unset, .unset] [(.int (1 : Int32)), (.int pk)])) _
      refine XS.icmpNo X0.here hx rfl (hb hby at_121) rfl (teq hc852).2 ?_
      show Steps p.tables e below (s₁.setTop (mkF m 124 #[.val (.long q1), .second, .val (.long q2), .second, .val (.long q3), .second, .val (.long q4), .second, .val (.long q5), .second, .val (.int xs), .val (.long p1), .second, .val (.long p2), .second, .val (.long p3), .second, .val (.long p4), .second, .val (.long q1), .second, .val (.long vb845), .second, .val (.long vc848), .second, .val (.long vd851), .second, .val (.int pk), .val (.long q5), .second, .unset, .unset, .unset, .unset] [])) _
      refine XS.lload X0.here hx rfl (hb hby at_124) rfl ?_
      show Steps p.tables e below (s₁.setTop (mkF m 126 #[.val (.long q1), .second, .val (.long q2), .second, .val (.long q3), .second, .val (.long q4), .second, .val (.long q5), .second, .val (.int xs), .val (.long p1), .second, .val (.long p2), .second, .val (.long p3), .second, .val (.long p4), .second, .val (.long q1), .second, .val (.long vb845), .second, .val (.long vc848), .second, .val (.long vd851), .second, .val (.int pk), .val (.long q5), .second, .unset, .unset, .unset, .unset] [(.long q1)])) _
      refine XS.lstore X0.here hx rfl (hb hby at_126) rfl (l' := #[.val (.long q1), .second, .val (.long q2), .second, .val (.long q3), .second, .val (.long q4), .second, .val (.long q5), .second, .val (.int xs), .val (.long p1), .second, .val (.long p2), .second, .val (.long p3), .second, .val (.long p4), .second, .val (.long q1), .second, .val (.long vb845), .second, .val (.long vc848), .second, .val (.long vd851), .second, .val (.int pk), .val (.long q1), .second, .unset, .unset, .unset, .unset]) rfl ?_
      show Steps p.tables e below (s₁.setTop (mkF m 128 #[.val (.long q1), .second, .val (.long q2), .second, .val (.long q3), .second, .val (.long q4), .second, .val (.long q5), .second, .val (.int xs), .val (.long p1), .second, .val (.long p2), .second, .val (.long p3), .second, .val (.long p4), .second, .val (.long q1), .second, .val (.long vb845), .second, .val (.long vc848), .second, .val (.long vd851), .second, .val (.int pk), .val (.long q1), .second, .unset, .unset, .unset, .unset] [])) _
      refine XS.goto X0.here hx rfl (pc0 := 128) (pc' := 198) rfl (hb hby at_128) (by decide) (by decide) ?_
      exact kt
    · simp only [if_neg hc852] at kt
      show Steps p.tables e below (s₁.setTop (mkF m 121 #[.val (.long q1), .second, .val (.long q2), .second, .val (.long q3), .second, .val (.long q4), .second, .val (.long q5), .second, .val (.int xs), .val (.long p1), .second, .val (.long p2), .second, .val (.long p3), .second, .val (.long p4), .second, .val (.long q1), .second, .val (.long vb845), .second, .val (.long vc848), .second, .val (.long vd851), .second, .val (.int pk), .val (.long q5), .second, .unset, .unset, .unset, .unset] [(.int (1 : Int32)), (.int pk)])) _
      have jn862 : ∀ t, Steps p.tables e below (s₁.setTop (mkF m 198 #[.val (.long q1), .second, .val (.long q2), .second, .val (.long q3), .second, .val (.long q4), .second, .val (.long q5), .second, .val (.int xs), .val (.long p1), .second, .val (.long p2), .second, .val (.long p3), .second, .val (.long p4), .second, .val (.long q1), .second, .val (.long vb845), .second, .val (.long vc848), .second, .val (.long vd851), .second, .val (.int pk), .val (.long (if pk = (2 : Int32) then vb845 else (if pk = (3 : Int32) then vc848 else (if pk = (4 : Int32) then vd851 else (if pk = (5 : Int32) then (q1 - (1 : Int64)) else (if pk = (6 : Int32) then (vc848 - (1 : Int64)) else q5)))))), .second, .unset, .unset, .unset, .unset] [])) t → Steps p.tables e below (s₁.setTop (mkF m 134 #[.val (.long q1), .second, .val (.long q2), .second, .val (.long q3), .second, .val (.long q4), .second, .val (.long q5), .second, .val (.int xs), .val (.long p1), .second, .val (.long p2), .second, .val (.long p3), .second, .val (.long p4), .second, .val (.long q1), .second, .val (.long vb845), .second, .val (.long vc848), .second, .val (.long vd851), .second, .val (.int pk), .val (.long q5), .second, .unset, .unset, .unset, .unset] [(.int (2 : Int32)), (.int pk)])) t := by
        intro t kt
        by_cases hc853 : pk = (2 : Int32)
        · simp only [if_pos hc853] at kt
          show Steps p.tables e below (s₁.setTop (mkF m 134 #[.val (.long q1), .second, .val (.long q2), .second, .val (.long q3), .second, .val (.long q4), .second, .val (.long q5), .second, .val (.int xs), .val (.long p1), .second, .val (.long p2), .second, .val (.long p3), .second, .val (.long p4), .second, .val (.long q1), .second, .val (.long vb845), .second, .val (.long vc848), .second, .val (.long vd851), .second, .val (.int pk), .val (.long q5), .second, .unset, .unset, .unset, .unset] [(.int (2 : Int32)), (.int pk)])) _
          refine XS.icmpNo X0.here hx rfl (hb hby at_134) rfl (teq hc853).2 ?_
          show Steps p.tables e below (s₁.setTop (mkF m 137 #[.val (.long q1), .second, .val (.long q2), .second, .val (.long q3), .second, .val (.long q4), .second, .val (.long q5), .second, .val (.int xs), .val (.long p1), .second, .val (.long p2), .second, .val (.long p3), .second, .val (.long p4), .second, .val (.long q1), .second, .val (.long vb845), .second, .val (.long vc848), .second, .val (.long vd851), .second, .val (.int pk), .val (.long q5), .second, .unset, .unset, .unset, .unset] [])) _
          refine XS.lload X0.here hx rfl (hb hby at_137) rfl ?_
          show Steps p.tables e below (s₁.setTop (mkF m 139 #[.val (.long q1), .second, .val (.long q2), .second, .val (.long q3), .second, .val (.long q4), .second, .val (.long q5), .second, .val (.int xs), .val (.long p1), .second, .val (.long p2), .second, .val (.long p3), .second, .val (.long p4), .second, .val (.long q1), .second, .val (.long vb845), .second, .val (.long vc848), .second, .val (.long vd851), .second, .val (.int pk), .val (.long q5), .second, .unset, .unset, .unset, .unset] [(.long vb845)])) _
          refine XS.lstore X0.here hx rfl (hb hby at_139) rfl (l' := #[.val (.long q1), .second, .val (.long q2), .second, .val (.long q3), .second, .val (.long q4), .second, .val (.long q5), .second, .val (.int xs), .val (.long p1), .second, .val (.long p2), .second, .val (.long p3), .second, .val (.long p4), .second, .val (.long q1), .second, .val (.long vb845), .second, .val (.long vc848), .second, .val (.long vd851), .second, .val (.int pk), .val (.long vb845), .second, .unset, .unset, .unset, .unset]) rfl ?_
          show Steps p.tables e below (s₁.setTop (mkF m 141 #[.val (.long q1), .second, .val (.long q2), .second, .val (.long q3), .second, .val (.long q4), .second, .val (.long q5), .second, .val (.int xs), .val (.long p1), .second, .val (.long p2), .second, .val (.long p3), .second, .val (.long p4), .second, .val (.long q1), .second, .val (.long vb845), .second, .val (.long vc848), .second, .val (.long vd851), .second, .val (.int pk), .val (.long vb845), .second, .unset, .unset, .unset, .unset] [])) _
          refine XS.goto X0.here hx rfl (pc0 := 141) (pc' := 198) rfl (hb hby at_141) (by decide) (by decide) ?_
          exact kt
        · simp only [if_neg hc853] at kt
          show Steps p.tables e below (s₁.setTop (mkF m 134 #[.val (.long q1), .second, .val (.long q2), .second, .val (.long q3), .second, .val (.long q4), .second, .val (.long q5), .second, .val (.int xs), .val (.long p1), .second, .val (.long p2), .second, .val (.long p3), .second, .val (.long p4), .second, .val (.long q1), .second, .val (.long vb845), .second, .val (.long vc848), .second, .val (.long vd851), .second, .val (.int pk), .val (.long q5), .second, .unset, .unset, .unset, .unset] [(.int (2 : Int32)), (.int pk)])) _
          have jn861 : ∀ t, Steps p.tables e below (s₁.setTop (mkF m 198 #[.val (.long q1), .second, .val (.long q2), .second, .val (.long q3), .second, .val (.long q4), .second, .val (.long q5), .second, .val (.int xs), .val (.long p1), .second, .val (.long p2), .second, .val (.long p3), .second, .val (.long p4), .second, .val (.long q1), .second, .val (.long vb845), .second, .val (.long vc848), .second, .val (.long vd851), .second, .val (.int pk), .val (.long (if pk = (3 : Int32) then vc848 else (if pk = (4 : Int32) then vd851 else (if pk = (5 : Int32) then (q1 - (1 : Int64)) else (if pk = (6 : Int32) then (vc848 - (1 : Int64)) else q5))))), .second, .unset, .unset, .unset, .unset] [])) t → Steps p.tables e below (s₁.setTop (mkF m 147 #[.val (.long q1), .second, .val (.long q2), .second, .val (.long q3), .second, .val (.long q4), .second, .val (.long q5), .second, .val (.int xs), .val (.long p1), .second, .val (.long p2), .second, .val (.long p3), .second, .val (.long p4), .second, .val (.long q1), .second, .val (.long vb845), .second, .val (.long vc848), .second, .val (.long vd851), .second, .val (.int pk), .val (.long q5), .second, .unset, .unset, .unset, .unset] [(.int (3 : Int32)), (.int pk)])) t := by
            intro t kt
            by_cases hc854 : pk = (3 : Int32)
            · simp only [if_pos hc854] at kt
              show Steps p.tables e below (s₁.setTop (mkF m 147 #[.val (.long q1), .second, .val (.long q2), .second, .val (.long q3), .second, .val (.long q4), .second, .val (.long q5), .second, .val (.int xs), .val (.long p1), .second, .val (.long p2), .second, .val (.long p3), .second, .val (.long p4), .second, .val (.long q1), .second, .val (.long vb845), .second, .val (.long vc848), .second, .val (.long vd851), .second, .val (.int pk), .val (.long q5), .second, .unset, .unset, .unset, .unset] [(.int (3 : Int32)), (.int pk)])) _
              refine XS.icmpNo X0.here hx rfl (hb hby at_147) rfl (teq hc854).2 ?_
              show Steps p.tables e below (s₁.setTop (mkF m 150 #[.val (.long q1), .second, .val (.long q2), .second, .val (.long q3), .second, .val (.long q4), .second, .val (.long q5), .second, .val (.int xs), .val (.long p1), .second, .val (.long p2), .second, .val (.long p3), .second, .val (.long p4), .second, .val (.long q1), .second, .val (.long vb845), .second, .val (.long vc848), .second, .val (.long vd851), .second, .val (.int pk), .val (.long q5), .second, .unset, .unset, .unset, .unset] [])) _
              refine XS.lload X0.here hx rfl (hb hby at_150) rfl ?_
              show Steps p.tables e below (s₁.setTop (mkF m 152 #[.val (.long q1), .second, .val (.long q2), .second, .val (.long q3), .second, .val (.long q4), .second, .val (.long q5), .second, .val (.int xs), .val (.long p1), .second, .val (.long p2), .second, .val (.long p3), .second, .val (.long p4), .second, .val (.long q1), .second, .val (.long vb845), .second, .val (.long vc848), .second, .val (.long vd851), .second, .val (.int pk), .val (.long q5), .second, .unset, .unset, .unset, .unset] [(.long vc848)])) _
              refine XS.lstore X0.here hx rfl (hb hby at_152) rfl (l' := #[.val (.long q1), .second, .val (.long q2), .second, .val (.long q3), .second, .val (.long q4), .second, .val (.long q5), .second, .val (.int xs), .val (.long p1), .second, .val (.long p2), .second, .val (.long p3), .second, .val (.long p4), .second, .val (.long q1), .second, .val (.long vb845), .second, .val (.long vc848), .second, .val (.long vd851), .second, .val (.int pk), .val (.long vc848), .second, .unset, .unset, .unset, .unset]) rfl ?_
              show Steps p.tables e below (s₁.setTop (mkF m 154 #[.val (.long q1), .second, .val (.long q2), .second, .val (.long q3), .second, .val (.long q4), .second, .val (.long q5), .second, .val (.int xs), .val (.long p1), .second, .val (.long p2), .second, .val (.long p3), .second, .val (.long p4), .second, .val (.long q1), .second, .val (.long vb845), .second, .val (.long vc848), .second, .val (.long vd851), .second, .val (.int pk), .val (.long vc848), .second, .unset, .unset, .unset, .unset] [])) _
              refine XS.goto X0.here hx rfl (pc0 := 154) (pc' := 198) rfl (hb hby at_154) (by decide) (by decide) ?_
              exact kt
            · simp only [if_neg hc854] at kt
              show Steps p.tables e below (s₁.setTop (mkF m 147 #[.val (.long q1), .second, .val (.long q2), .second, .val (.long q3), .second, .val (.long q4), .second, .val (.long q5), .second, .val (.int xs), .val (.long p1), .second, .val (.long p2), .second, .val (.long p3), .second, .val (.long p4), .second, .val (.long q1), .second, .val (.long vb845), .second, .val (.long vc848), .second, .val (.long vd851), .second, .val (.int pk), .val (.long q5), .second, .unset, .unset, .unset, .unset] [(.int (3 : Int32)), (.int pk)])) _
              have jn860 : ∀ t, Steps p.tables e below (s₁.setTop (mkF m 198 #[.val (.long q1), .second, .val (.long q2), .second, .val (.long q3), .second, .val (.long q4), .second, .val (.long q5), .second, .val (.int xs), .val (.long p1), .second, .val (.long p2), .second, .val (.long p3), .second, .val (.long p4), .second, .val (.long q1), .second, .val (.long vb845), .second, .val (.long vc848), .second, .val (.long vd851), .second, .val (.int pk), .val (.long (if pk = (4 : Int32) then vd851 else (if pk = (5 : Int32) then (q1 - (1 : Int64)) else (if pk = (6 : Int32) then (vc848 - (1 : Int64)) else q5)))), .second, .unset, .unset, .unset, .unset] [])) t → Steps p.tables e below (s₁.setTop (mkF m 160 #[.val (.long q1), .second, .val (.long q2), .second, .val (.long q3), .second, .val (.long q4), .second, .val (.long q5), .second, .val (.int xs), .val (.long p1), .second, .val (.long p2), .second, .val (.long p3), .second, .val (.long p4), .second, .val (.long q1), .second, .val (.long vb845), .second, .val (.long vc848), .second, .val (.long vd851), .second, .val (.int pk), .val (.long q5), .second, .unset, .unset, .unset, .unset] [(.int (4 : Int32)), (.int pk)])) t := by
                intro t kt
                by_cases hc855 : pk = (4 : Int32)
                · simp only [if_pos hc855] at kt
                  show Steps p.tables e below (s₁.setTop (mkF m 160 #[.val (.long q1), .second, .val (.long q2), .second, .val (.long q3), .second, .val (.long q4), .second, .val (.long q5), .second, .val (.int xs), .val (.long p1), .second, .val (.long p2), .second, .val (.long p3), .second, .val (.long p4), .second, .val (.long q1), .second, .val (.long vb845), .second, .val (.long vc848), .second, .val (.long vd851), .second, .val (.int pk), .val (.long q5), .second, .unset, .unset, .unset, .unset] [(.int (4 : Int32)), (.int pk)])) _
                  refine XS.icmpNo X0.here hx rfl (hb hby at_160) rfl (teq hc855).2 ?_
                  show Steps p.tables e below (s₁.setTop (mkF m 163 #[.val (.long q1), .second, .val (.long q2), .second, .val (.long q3), .second, .val (.long q4), .second, .val (.long q5), .second, .val (.int xs), .val (.long p1), .second, .val (.long p2), .second, .val (.long p3), .second, .val (.long p4), .second, .val (.long q1), .second, .val (.long vb845), .second, .val (.long vc848), .second, .val (.long vd851), .second, .val (.int pk), .val (.long q5), .second, .unset, .unset, .unset, .unset] [])) _
                  refine XS.lload X0.here hx rfl (hb hby at_163) rfl ?_
                  show Steps p.tables e below (s₁.setTop (mkF m 165 #[.val (.long q1), .second, .val (.long q2), .second, .val (.long q3), .second, .val (.long q4), .second, .val (.long q5), .second, .val (.int xs), .val (.long p1), .second, .val (.long p2), .second, .val (.long p3), .second, .val (.long p4), .second, .val (.long q1), .second, .val (.long vb845), .second, .val (.long vc848), .second, .val (.long vd851), .second, .val (.int pk), .val (.long q5), .second, .unset, .unset, .unset, .unset] [(.long vd851)])) _
                  refine XS.lstore X0.here hx rfl (hb hby at_165) rfl (l' := #[.val (.long q1), .second, .val (.long q2), .second, .val (.long q3), .second, .val (.long q4), .second, .val (.long q5), .second, .val (.int xs), .val (.long p1), .second, .val (.long p2), .second, .val (.long p3), .second, .val (.long p4), .second, .val (.long q1), .second, .val (.long vb845), .second, .val (.long vc848), .second, .val (.long vd851), .second, .val (.int pk), .val (.long vd851), .second, .unset, .unset, .unset, .unset]) rfl ?_
                  show Steps p.tables e below (s₁.setTop (mkF m 167 #[.val (.long q1), .second, .val (.long q2), .second, .val (.long q3), .second, .val (.long q4), .second, .val (.long q5), .second, .val (.int xs), .val (.long p1), .second, .val (.long p2), .second, .val (.long p3), .second, .val (.long p4), .second, .val (.long q1), .second, .val (.long vb845), .second, .val (.long vc848), .second, .val (.long vd851), .second, .val (.int pk), .val (.long vd851), .second, .unset, .unset, .unset, .unset] [])) _
                  refine XS.goto X0.here hx rfl (pc0 := 167) (pc' := 198) rfl (hb hby at_167) (by decide) (by decide) ?_
                  exact kt
                · simp only [if_neg hc855] at kt
                  show Steps p.tables e below (s₁.setTop (mkF m 160 #[.val (.long q1), .second, .val (.long q2), .second, .val (.long q3), .second, .val (.long q4), .second, .val (.long q5), .second, .val (.int xs), .val (.long p1), .second, .val (.long p2), .second, .val (.long p3), .second, .val (.long p4), .second, .val (.long q1), .second, .val (.long vb845), .second, .val (.long vc848), .second, .val (.long vd851), .second, .val (.int pk), .val (.long q5), .second, .unset, .unset, .unset, .unset] [(.int (4 : Int32)), (.int pk)])) _
                  have jn859 : ∀ t, Steps p.tables e below (s₁.setTop (mkF m 198 #[.val (.long q1), .second, .val (.long q2), .second, .val (.long q3), .second, .val (.long q4), .second, .val (.long q5), .second, .val (.int xs), .val (.long p1), .second, .val (.long p2), .second, .val (.long p3), .second, .val (.long p4), .second, .val (.long q1), .second, .val (.long vb845), .second, .val (.long vc848), .second, .val (.long vd851), .second, .val (.int pk), .val (.long (if pk = (5 : Int32) then (q1 - (1 : Int64)) else (if pk = (6 : Int32) then (vc848 - (1 : Int64)) else q5))), .second, .unset, .unset, .unset, .unset] [])) t → Steps p.tables e below (s₁.setTop (mkF m 173 #[.val (.long q1), .second, .val (.long q2), .second, .val (.long q3), .second, .val (.long q4), .second, .val (.long q5), .second, .val (.int xs), .val (.long p1), .second, .val (.long p2), .second, .val (.long p3), .second, .val (.long p4), .second, .val (.long q1), .second, .val (.long vb845), .second, .val (.long vc848), .second, .val (.long vd851), .second, .val (.int pk), .val (.long q5), .second, .unset, .unset, .unset, .unset] [(.int (5 : Int32)), (.int pk)])) t := by
                    intro t kt
                    by_cases hc856 : pk = (5 : Int32)
                    · simp only [if_pos hc856] at kt
                      show Steps p.tables e below (s₁.setTop (mkF m 173 #[.val (.long q1), .second, .val (.long q2), .second, .val (.long q3), .second, .val (.long q4), .second, .val (.long q5), .second, .val (.int xs), .val (.long p1), .second, .val (.long p2), .second, .val (.long p3), .second, .val (.long p4), .second, .val (.long q1), .second, .val (.long vb845), .second, .val (.long vc848), .second, .val (.long vd851), .second, .val (.int pk), .val (.long q5), .second, .unset, .unset, .unset, .unset] [(.int (5 : Int32)), (.int pk)])) _
                      refine XS.icmpNo X0.here hx rfl (hb hby at_173) rfl (teq hc856).2 ?_
                      show Steps p.tables e below (s₁.setTop (mkF m 176 #[.val (.long q1), .second, .val (.long q2), .second, .val (.long q3), .second, .val (.long q4), .second, .val (.long q5), .second, .val (.int xs), .val (.long p1), .second, .val (.long p2), .second, .val (.long p3), .second, .val (.long p4), .second, .val (.long q1), .second, .val (.long vb845), .second, .val (.long vc848), .second, .val (.long vd851), .second, .val (.int pk), .val (.long q5), .second, .unset, .unset, .unset, .unset] [])) _
                      refine XS.lload X0.here hx rfl (hb hby at_176) rfl ?_
                      show Steps p.tables e below (s₁.setTop (mkF m 178 #[.val (.long q1), .second, .val (.long q2), .second, .val (.long q3), .second, .val (.long q4), .second, .val (.long q5), .second, .val (.int xs), .val (.long p1), .second, .val (.long p2), .second, .val (.long p3), .second, .val (.long p4), .second, .val (.long q1), .second, .val (.long vb845), .second, .val (.long vc848), .second, .val (.long vd851), .second, .val (.int pk), .val (.long q5), .second, .unset, .unset, .unset, .unset] [(.long q1)])) _
                      refine XS.lconst X0.here hx rfl (hb hby at_178) ?_
                      show Steps p.tables e below (s₁.setTop (mkF m 179 #[.val (.long q1), .second, .val (.long q2), .second, .val (.long q3), .second, .val (.long q4), .second, .val (.long q5), .second, .val (.int xs), .val (.long p1), .second, .val (.long p2), .second, .val (.long p3), .second, .val (.long p4), .second, .val (.long q1), .second, .val (.long vb845), .second, .val (.long vc848), .second, .val (.long vd851), .second, .val (.int pk), .val (.long q5), .second, .unset, .unset, .unset, .unset] [(.long (1 : Int64)), (.long q1)])) _
                      refine XS.lsub X0.here hx rfl (hb hby at_179) rfl ?_
                      show Steps p.tables e below (s₁.setTop (mkF m 180 #[.val (.long q1), .second, .val (.long q2), .second, .val (.long q3), .second, .val (.long q4), .second, .val (.long q5), .second, .val (.int xs), .val (.long p1), .second, .val (.long p2), .second, .val (.long p3), .second, .val (.long p4), .second, .val (.long q1), .second, .val (.long vb845), .second, .val (.long vc848), .second, .val (.long vd851), .second, .val (.int pk), .val (.long q5), .second, .unset, .unset, .unset, .unset] [(.long (q1 - (1 : Int64)))])) _
                      refine XS.lstore X0.here hx rfl (hb hby at_180) rfl (l' := #[.val (.long q1), .second, .val (.long q2), .second, .val (.long q3), .second, .val (.long q4), .second, .val (.long q5), .second, .val (.int xs), .val (.long p1), .second, .val (.long p2), .second, .val (.long p3), .second, .val (.long p4), .second, .val (.long q1), .second, .val (.long vb845), .second, .val (.long vc848), .second, .val (.long vd851), .second, .val (.int pk), .val (.long (q1 - (1 : Int64))), .second, .unset, .unset, .unset, .unset]) rfl ?_
                      show Steps p.tables e below (s₁.setTop (mkF m 182 #[.val (.long q1), .second, .val (.long q2), .second, .val (.long q3), .second, .val (.long q4), .second, .val (.long q5), .second, .val (.int xs), .val (.long p1), .second, .val (.long p2), .second, .val (.long p3), .second, .val (.long p4), .second, .val (.long q1), .second, .val (.long vb845), .second, .val (.long vc848), .second, .val (.long vd851), .second, .val (.int pk), .val (.long (q1 - (1 : Int64))), .second, .unset, .unset, .unset, .unset] [])) _
                      refine XS.goto X0.here hx rfl (pc0 := 182) (pc' := 198) rfl (hb hby at_182) (by decide) (by decide) ?_
                      exact kt
                    · simp only [if_neg hc856] at kt
                      show Steps p.tables e below (s₁.setTop (mkF m 173 #[.val (.long q1), .second, .val (.long q2), .second, .val (.long q3), .second, .val (.long q4), .second, .val (.long q5), .second, .val (.int xs), .val (.long p1), .second, .val (.long p2), .second, .val (.long p3), .second, .val (.long p4), .second, .val (.long q1), .second, .val (.long vb845), .second, .val (.long vc848), .second, .val (.long vd851), .second, .val (.int pk), .val (.long q5), .second, .unset, .unset, .unset, .unset] [(.int (5 : Int32)), (.int pk)])) _
                      have jn858 : ∀ t, Steps p.tables e below (s₁.setTop (mkF m 198 #[.val (.long q1), .second, .val (.long q2), .second, .val (.long q3), .second, .val (.long q4), .second, .val (.long q5), .second, .val (.int xs), .val (.long p1), .second, .val (.long p2), .second, .val (.long p3), .second, .val (.long p4), .second, .val (.long q1), .second, .val (.long vb845), .second, .val (.long vc848), .second, .val (.long vd851), .second, .val (.int pk), .val (.long (if pk = (6 : Int32) then (vc848 - (1 : Int64)) else q5)), .second, .unset, .unset, .unset, .unset] [])) t → Steps p.tables e below (s₁.setTop (mkF m 189 #[.val (.long q1), .second, .val (.long q2), .second, .val (.long q3), .second, .val (.long q4), .second, .val (.long q5), .second, .val (.int xs), .val (.long p1), .second, .val (.long p2), .second, .val (.long p3), .second, .val (.long p4), .second, .val (.long q1), .second, .val (.long vb845), .second, .val (.long vc848), .second, .val (.long vd851), .second, .val (.int pk), .val (.long q5), .second, .unset, .unset, .unset, .unset] [(.int (6 : Int32)), (.int pk)])) t := by
                        intro t kt
                        by_cases hc857 : pk = (6 : Int32)
                        · simp only [if_pos hc857] at kt
                          show Steps p.tables e below (s₁.setTop (mkF m 189 #[.val (.long q1), .second, .val (.long q2), .second, .val (.long q3), .second, .val (.long q4), .second, .val (.long q5), .second, .val (.int xs), .val (.long p1), .second, .val (.long p2), .second, .val (.long p3), .second, .val (.long p4), .second, .val (.long q1), .second, .val (.long vb845), .second, .val (.long vc848), .second, .val (.long vd851), .second, .val (.int pk), .val (.long q5), .second, .unset, .unset, .unset, .unset] [(.int (6 : Int32)), (.int pk)])) _
                          refine XS.icmpNo X0.here hx rfl (hb hby at_189) rfl (teq hc857).2 ?_
                          show Steps p.tables e below (s₁.setTop (mkF m 192 #[.val (.long q1), .second, .val (.long q2), .second, .val (.long q3), .second, .val (.long q4), .second, .val (.long q5), .second, .val (.int xs), .val (.long p1), .second, .val (.long p2), .second, .val (.long p3), .second, .val (.long p4), .second, .val (.long q1), .second, .val (.long vb845), .second, .val (.long vc848), .second, .val (.long vd851), .second, .val (.int pk), .val (.long q5), .second, .unset, .unset, .unset, .unset] [])) _
                          refine XS.lload X0.here hx rfl (hb hby at_192) rfl ?_
                          show Steps p.tables e below (s₁.setTop (mkF m 194 #[.val (.long q1), .second, .val (.long q2), .second, .val (.long q3), .second, .val (.long q4), .second, .val (.long q5), .second, .val (.int xs), .val (.long p1), .second, .val (.long p2), .second, .val (.long p3), .second, .val (.long p4), .second, .val (.long q1), .second, .val (.long vb845), .second, .val (.long vc848), .second, .val (.long vd851), .second, .val (.int pk), .val (.long q5), .second, .unset, .unset, .unset, .unset] [(.long vc848)])) _
                          refine XS.lconst X0.here hx rfl (hb hby at_194) ?_
                          show Steps p.tables e below (s₁.setTop (mkF m 195 #[.val (.long q1), .second, .val (.long q2), .second, .val (.long q3), .second, .val (.long q4), .second, .val (.long q5), .second, .val (.int xs), .val (.long p1), .second, .val (.long p2), .second, .val (.long p3), .second, .val (.long p4), .second, .val (.long q1), .second, .val (.long vb845), .second, .val (.long vc848), .second, .val (.long vd851), .second, .val (.int pk), .val (.long q5), .second, .unset, .unset, .unset, .unset] [(.long (1 : Int64)), (.long vc848)])) _
                          refine XS.lsub X0.here hx rfl (hb hby at_195) rfl ?_
                          show Steps p.tables e below (s₁.setTop (mkF m 196 #[.val (.long q1), .second, .val (.long q2), .second, .val (.long q3), .second, .val (.long q4), .second, .val (.long q5), .second, .val (.int xs), .val (.long p1), .second, .val (.long p2), .second, .val (.long p3), .second, .val (.long p4), .second, .val (.long q1), .second, .val (.long vb845), .second, .val (.long vc848), .second, .val (.long vd851), .second, .val (.int pk), .val (.long q5), .second, .unset, .unset, .unset, .unset] [(.long (vc848 - (1 : Int64)))])) _
                          refine XS.lstore X0.here hx rfl (hb hby at_196) rfl (l' := #[.val (.long q1), .second, .val (.long q2), .second, .val (.long q3), .second, .val (.long q4), .second, .val (.long q5), .second, .val (.int xs), .val (.long p1), .second, .val (.long p2), .second, .val (.long p3), .second, .val (.long p4), .second, .val (.long q1), .second, .val (.long vb845), .second, .val (.long vc848), .second, .val (.long vd851), .second, .val (.int pk), .val (.long (vc848 - (1 : Int64))), .second, .unset, .unset, .unset, .unset]) rfl ?_
                          exact kt
                        · simp only [if_neg hc857] at kt
                          show Steps p.tables e below (s₁.setTop (mkF m 189 #[.val (.long q1), .second, .val (.long q2), .second, .val (.long q3), .second, .val (.long q4), .second, .val (.long q5), .second, .val (.int xs), .val (.long p1), .second, .val (.long p2), .second, .val (.long p3), .second, .val (.long p4), .second, .val (.long q1), .second, .val (.long vb845), .second, .val (.long vc848), .second, .val (.long vd851), .second, .val (.int pk), .val (.long q5), .second, .unset, .unset, .unset, .unset] [(.int (6 : Int32)), (.int pk)])) _
                          refine XS.icmpYes X0.here hx rfl (pc0 := 189) (pc' := 198) rfl (hb hby at_189) rfl (feq hc857).2 (by decide) (by decide) ?_
                          exact kt
                      refine XS.icmpYes X0.here hx rfl (pc0 := 173) (pc' := 185) rfl (hb hby at_173) rfl (feq hc856).2 (by decide) (by decide) ?_
                      show Steps p.tables e below (s₁.setTop (mkF m 185 #[.val (.long q1), .second, .val (.long q2), .second, .val (.long q3), .second, .val (.long q4), .second, .val (.long q5), .second, .val (.int xs), .val (.long p1), .second, .val (.long p2), .second, .val (.long p3), .second, .val (.long p4), .second, .val (.long q1), .second, .val (.long vb845), .second, .val (.long vc848), .second, .val (.long vd851), .second, .val (.int pk), .val (.long q5), .second, .unset, .unset, .unset, .unset] [])) _
                      refine XS.iload X0.here hx rfl (hb hby at_185) rfl ?_
                      show Steps p.tables e below (s₁.setTop (mkF m 187 #[.val (.long q1), .second, .val (.long q2), .second, .val (.long q3), .second, .val (.long q4), .second, .val (.long q5), .second, .val (.int xs), .val (.long p1), .second, .val (.long p2), .second, .val (.long p3), .second, .val (.long p4), .second, .val (.long q1), .second, .val (.long vb845), .second, .val (.long vc848), .second, .val (.long vd851), .second, .val (.int pk), .val (.long q5), .second, .unset, .unset, .unset, .unset] [(.int pk)])) _
                      refine XS.bipush X0.here hx rfl (hb hby at_187) ?_
                      show Steps p.tables e below (s₁.setTop (mkF m 189 #[.val (.long q1), .second, .val (.long q2), .second, .val (.long q3), .second, .val (.long q4), .second, .val (.long q5), .second, .val (.int xs), .val (.long p1), .second, .val (.long p2), .second, .val (.long p3), .second, .val (.long p4), .second, .val (.long q1), .second, .val (.long vb845), .second, .val (.long vc848), .second, .val (.long vd851), .second, .val (.int pk), .val (.long q5), .second, .unset, .unset, .unset, .unset] [(.int (6 : Int32)), (.int pk)])) _
                      refine jn858 _ ?_
                      exact kt
                  refine XS.icmpYes X0.here hx rfl (pc0 := 160) (pc' := 170) rfl (hb hby at_160) rfl (feq hc855).2 (by decide) (by decide) ?_
                  show Steps p.tables e below (s₁.setTop (mkF m 170 #[.val (.long q1), .second, .val (.long q2), .second, .val (.long q3), .second, .val (.long q4), .second, .val (.long q5), .second, .val (.int xs), .val (.long p1), .second, .val (.long p2), .second, .val (.long p3), .second, .val (.long p4), .second, .val (.long q1), .second, .val (.long vb845), .second, .val (.long vc848), .second, .val (.long vd851), .second, .val (.int pk), .val (.long q5), .second, .unset, .unset, .unset, .unset] [])) _
                  refine XS.iload X0.here hx rfl (hb hby at_170) rfl ?_
                  show Steps p.tables e below (s₁.setTop (mkF m 172 #[.val (.long q1), .second, .val (.long q2), .second, .val (.long q3), .second, .val (.long q4), .second, .val (.long q5), .second, .val (.int xs), .val (.long p1), .second, .val (.long p2), .second, .val (.long p3), .second, .val (.long p4), .second, .val (.long q1), .second, .val (.long vb845), .second, .val (.long vc848), .second, .val (.long vd851), .second, .val (.int pk), .val (.long q5), .second, .unset, .unset, .unset, .unset] [(.int pk)])) _
                  refine XS.iconst X0.here hx rfl (hb hby at_172) ?_
                  show Steps p.tables e below (s₁.setTop (mkF m 173 #[.val (.long q1), .second, .val (.long q2), .second, .val (.long q3), .second, .val (.long q4), .second, .val (.long q5), .second, .val (.int xs), .val (.long p1), .second, .val (.long p2), .second, .val (.long p3), .second, .val (.long p4), .second, .val (.long q1), .second, .val (.long vb845), .second, .val (.long vc848), .second, .val (.long vd851), .second, .val (.int pk), .val (.long q5), .second, .unset, .unset, .unset, .unset] [(.int (5 : Int32)), (.int pk)])) _
                  refine jn859 _ ?_
                  exact kt
              refine XS.icmpYes X0.here hx rfl (pc0 := 147) (pc' := 157) rfl (hb hby at_147) rfl (feq hc854).2 (by decide) (by decide) ?_
              show Steps p.tables e below (s₁.setTop (mkF m 157 #[.val (.long q1), .second, .val (.long q2), .second, .val (.long q3), .second, .val (.long q4), .second, .val (.long q5), .second, .val (.int xs), .val (.long p1), .second, .val (.long p2), .second, .val (.long p3), .second, .val (.long p4), .second, .val (.long q1), .second, .val (.long vb845), .second, .val (.long vc848), .second, .val (.long vd851), .second, .val (.int pk), .val (.long q5), .second, .unset, .unset, .unset, .unset] [])) _
              refine XS.iload X0.here hx rfl (hb hby at_157) rfl ?_
              show Steps p.tables e below (s₁.setTop (mkF m 159 #[.val (.long q1), .second, .val (.long q2), .second, .val (.long q3), .second, .val (.long q4), .second, .val (.long q5), .second, .val (.int xs), .val (.long p1), .second, .val (.long p2), .second, .val (.long p3), .second, .val (.long p4), .second, .val (.long q1), .second, .val (.long vb845), .second, .val (.long vc848), .second, .val (.long vd851), .second, .val (.int pk), .val (.long q5), .second, .unset, .unset, .unset, .unset] [(.int pk)])) _
              refine XS.iconst X0.here hx rfl (hb hby at_159) ?_
              show Steps p.tables e below (s₁.setTop (mkF m 160 #[.val (.long q1), .second, .val (.long q2), .second, .val (.long q3), .second, .val (.long q4), .second, .val (.long q5), .second, .val (.int xs), .val (.long p1), .second, .val (.long p2), .second, .val (.long p3), .second, .val (.long p4), .second, .val (.long q1), .second, .val (.long vb845), .second, .val (.long vc848), .second, .val (.long vd851), .second, .val (.int pk), .val (.long q5), .second, .unset, .unset, .unset, .unset] [(.int (4 : Int32)), (.int pk)])) _
              refine jn860 _ ?_
              exact kt
          refine XS.icmpYes X0.here hx rfl (pc0 := 134) (pc' := 144) rfl (hb hby at_134) rfl (feq hc853).2 (by decide) (by decide) ?_
          show Steps p.tables e below (s₁.setTop (mkF m 144 #[.val (.long q1), .second, .val (.long q2), .second, .val (.long q3), .second, .val (.long q4), .second, .val (.long q5), .second, .val (.int xs), .val (.long p1), .second, .val (.long p2), .second, .val (.long p3), .second, .val (.long p4), .second, .val (.long q1), .second, .val (.long vb845), .second, .val (.long vc848), .second, .val (.long vd851), .second, .val (.int pk), .val (.long q5), .second, .unset, .unset, .unset, .unset] [])) _
          refine XS.iload X0.here hx rfl (hb hby at_144) rfl ?_
          show Steps p.tables e below (s₁.setTop (mkF m 146 #[.val (.long q1), .second, .val (.long q2), .second, .val (.long q3), .second, .val (.long q4), .second, .val (.long q5), .second, .val (.int xs), .val (.long p1), .second, .val (.long p2), .second, .val (.long p3), .second, .val (.long p4), .second, .val (.long q1), .second, .val (.long vb845), .second, .val (.long vc848), .second, .val (.long vd851), .second, .val (.int pk), .val (.long q5), .second, .unset, .unset, .unset, .unset] [(.int pk)])) _
          refine XS.iconst X0.here hx rfl (hb hby at_146) ?_
          show Steps p.tables e below (s₁.setTop (mkF m 147 #[.val (.long q1), .second, .val (.long q2), .second, .val (.long q3), .second, .val (.long q4), .second, .val (.long q5), .second, .val (.int xs), .val (.long p1), .second, .val (.long p2), .second, .val (.long p3), .second, .val (.long p4), .second, .val (.long q1), .second, .val (.long vb845), .second, .val (.long vc848), .second, .val (.long vd851), .second, .val (.int pk), .val (.long q5), .second, .unset, .unset, .unset, .unset] [(.int (3 : Int32)), (.int pk)])) _
          refine jn861 _ ?_
          exact kt
      refine XS.icmpYes X0.here hx rfl (pc0 := 121) (pc' := 131) rfl (hb hby at_121) rfl (feq hc852).2 (by decide) (by decide) ?_
      show Steps p.tables e below (s₁.setTop (mkF m 131 #[.val (.long q1), .second, .val (.long q2), .second, .val (.long q3), .second, .val (.long q4), .second, .val (.long q5), .second, .val (.int xs), .val (.long p1), .second, .val (.long p2), .second, .val (.long p3), .second, .val (.long p4), .second, .val (.long q1), .second, .val (.long vb845), .second, .val (.long vc848), .second, .val (.long vd851), .second, .val (.int pk), .val (.long q5), .second, .unset, .unset, .unset, .unset] [])) _
      refine XS.iload X0.here hx rfl (hb hby at_131) rfl ?_
      show Steps p.tables e below (s₁.setTop (mkF m 133 #[.val (.long q1), .second, .val (.long q2), .second, .val (.long q3), .second, .val (.long q4), .second, .val (.long q5), .second, .val (.int xs), .val (.long p1), .second, .val (.long p2), .second, .val (.long p3), .second, .val (.long p4), .second, .val (.long q1), .second, .val (.long vb845), .second, .val (.long vc848), .second, .val (.long vd851), .second, .val (.int pk), .val (.long q5), .second, .unset, .unset, .unset, .unset] [(.int pk)])) _
      refine XS.iconst X0.here hx rfl (hb hby at_133) ?_
      show Steps p.tables e below (s₁.setTop (mkF m 134 #[.val (.long q1), .second, .val (.long q2), .second, .val (.long q3), .second, .val (.long q4), .second, .val (.long q5), .second, .val (.int xs), .val (.long p1), .second, .val (.long p2), .second, .val (.long p3), .second, .val (.long p4), .second, .val (.long q1), .second, .val (.long vb845), .second, .val (.long vc848), .second, .val (.long vd851), .second, .val (.int pk), .val (.long q5), .second, .unset, .unset, .unset, .unset] [(.int (2 : Int32)), (.int pk)])) _
      refine jn862 _ ?_
      exact kt
  obtain ⟨vx864, hvx864⟩ : ∃ z, z = (if pk = (1 : Int32) then q1 else (if pk = (2 : Int32) then vb845 else (if pk = (3 : Int32) then vc848 else (if pk = (4 : Int32) then vd851 else (if pk = (5 : Int32) then (q1 - (1 : Int64)) else (if pk = (6 : Int32) then (vc848 - (1 : Int64)) else q5)))))) := ⟨_, rfl⟩
  rw [← hvx864] at jn863
  obtain ⟨T865, h865, X865, e865, E865, A865, D865, -, st865⟩ := newO X0 hx hZ hown (hw _ (List.mem_of_getElem? (i := 0) rfl)) (hw _ (List.mem_of_getElem? (i := 1) rfl)) (hw _ (List.mem_of_getElem? (i := 2) rfl)) e0 (g := (mkF m 198 #[.val (.long q1), .second, .val (.long q2), .second, .val (.long q3), .second, .val (.long q4), .second, .val (.long q5), .second, .val (.int xs), .val (.long p1), .second, .val (.long p2), .second, .val (.long p3), .second, .val (.long p4), .second, .val (.long q1), .second, .val (.long vb845), .second, .val (.long vc848), .second, .val (.long vd851), .second, .val (.int pk), .val (.long vx864), .second, .unset, .unset, .unset, .unset] [])) rfl (hb hby at_198) (by decide) (by decide)
  obtain ⟨b865, g865⟩ : ∃ z, z = h0.size := ⟨_, rfl⟩
  rw [← g865] at A865 D865 st865
  have ge_b865 : n0 ≤ b865 := Nat.le_trans Z0 (Nat.le_of_eq g865.symm)
  have Z865 : n0 ≤ h865.size := Nat.le_trans Z0 E865.1
  have F_866 : Fld Z h865 b865 "com/example/berthline/berthline/engine/replay/EstimatedEnds" "ends" "[J" .null := D865 (Or.inl (hw _ (List.mem_of_getElem? (i := 11) rfl))) (ty := (.array .long)) (by decide)
  have F_867 : Fld Z h865 b865 "com/example/berthline/berthline/engine/replay/EstimatedEnds" "processors" "[J" .null := D865 (Or.inl (hw _ (List.mem_of_getElem? (i := 13) rfl))) (ty := (.array .long)) (by decide)
  have F_868 : Fld Z h865 b865 "com/example/berthline/berthline/engine/replay/EstimatedEnds" "sums" "[J" .null := D865 (Or.inl (hw _ (List.mem_of_getElem? (i := 15) rfl))) (ty := (.array .long)) (by decide)
  have F_869 : Fld Z h865 b865 "com/example/berthline/berthline/engine/replay/EstimatedEnds" "heights" "[I" .null := D865 (Or.inl (hw _ (List.mem_of_getElem? (i := 18) rfl))) (ty := (.array .int)) (by decide)
  have F_870 : Fld Z h865 b865 "com/example/berthline/berthline/engine/replay/EstimatedEnds" "left" "[I" .null := D865 (Or.inl (hw _ (List.mem_of_getElem? (i := 20) rfl))) (ty := (.array .int)) (by decide)
  have F_871 : Fld Z h865 b865 "com/example/berthline/berthline/engine/replay/EstimatedEnds" "right" "[I" .null := D865 (Or.inl (hw _ (List.mem_of_getElem? (i := 22) rfl))) (ty := (.array .int)) (by decide)
  have F_872 : Fld Z h865 b865 "com/example/berthline/berthline/engine/replay/EstimatedEnds" "root" "I" (.int (0 : Int32)) := D865 (Or.inl (hw _ (List.mem_of_getElem? (i := 24) rfl))) (ty := .int) (by decide)
  have F_873 : Fld Z h865 b865 "com/example/berthline/berthline/engine/replay/EstimatedEnds" "made" "I" (.int (0 : Int32)) := D865 (Or.inl (hw _ (List.mem_of_getElem? (i := 26) rfl))) (ty := .int) (by decide)
  have F_874 : Fld Z h865 b865 "com/example/berthline/berthline/engine/replay/EstimatedEnds" "unused" "I" (.int (0 : Int32)) := D865 (Or.inl (hw _ (List.mem_of_getElem? (i := 28) rfl))) (ty := .int) (by decide)
  obtain ⟨_, _, ⟨T875, L875, k875, n875⟩, -, X875, ⟨Lc875, hQ875, l875, y875, z875⟩, st875⟩ := X865.specialBack hx (y := (⟨"com/example/berthline/berthline/engine/replay/EstimatedEnds", "<init>", "()V"⟩ : MethodName)) rfl hown (mvT hZ (hw _ (List.mem_of_getElem? (i := 3) rfl))) (mvT hZ (hw _ (List.mem_of_getElem? (i := 4) rfl))) (mvT hZ (hw _ (List.mem_of_getElem? (i := 5) rfl))) (by decide) (backOf (W := 1) (rm1 l Z a0 hw [] b865 h865 n0 Z865 A865 ge_b865 F_866 F_867 F_868 F_869 F_870 F_871 F_872 F_873 F_874) hZ (hw _ (List.mem_of_getElem? (i := 5) rfl)) (hw _ (List.mem_of_getElem? (i := 2) rfl)) (by decide) (by decide)) (g := (mkF m 202 #[.val (.long q1), .second, .val (.long q2), .second, .val (.long q3), .second, .val (.long q4), .second, .val (.long q5), .second, .val (.int xs), .val (.long p1), .second, .val (.long p2), .second, .val (.long p3), .second, .val (.long p4), .second, .val (.long q1), .second, .val (.long vb845), .second, .val (.long vc848), .second, .val (.long vd851), .second, .val (.int pk), .val (.long vx864), .second, .unset, .unset, .unset, .unset] [(.ref b865), (.ref b865)])) rfl (by rw [hml]; rfl) (Steps.refl _) (a := b865) (argsL := []) (rest := [(.ref b865)]) (lenOf pd_83957 rfl) rfl (by show 2 * 0 + _ ≤ _; exact Nat.le_of_eq rfl) (hb hby at_202) (fun _ _ => ⟨rfl, e865, (by decide : 1 + 6 ≤ _), (by decide : 9 + 96 ≤ _)⟩)
  dsimp only [Pt.U, Pt.locs, Pt.cells, Pt.slots] at X875 l875 y875 z875 st875 hQ875
  subst l875 y875 z875
  obtain ⟨ae_875, ap_875, aS_875, ah_875, al_875, ar_875, rfl, N875q, K875c, G875_0, G875_1, G875_2, G875_3, G875_4, G875_5, G875_6, G875_7⟩ := hQ875
  have N875 := Fr.app N0 N875q
  have E_876 := A865.keep K875c
  have Z875 : n0 ≤ T875.heap.size := Nat.le_trans Z865 K875c.1
  obtain ⟨t877_0, t877_1, t877_2, t877_3, t877_4, t877_5, t877_6, t877_7, t877_8, t877_9, t877_10, t877_11, t877_12, t877_13, t877_14, t877_15⟩ := G875_0
  obtain ⟨dd878_0, dd878_1, dd878_2, dd878_3, dd878_4, dd878_5, dd878_6, dd878_7, dd878_8, dd878_9, dd878_10, dd878_11, dd878_12, dd878_13, dd878_14, dd878_15, dd878_16, dd878_17, dd878_18, dd878_19, dd878_20⟩ := id G875_1
  obtain ⟨cq879, kq879, q879a, q879b, q879c⟩ := isOf hZ rfl t877_0
  obtain ⟨_, _, ⟨T879, L879, k879, n879⟩, -, X879, ⟨Lc879, hQ879, l879, y879, z879⟩, st879⟩ := X875.virtualBack hx (y := (⟨"com/example/berthline/berthline/engine/replay/EstimatedEnds", "endingBy", "(J)J"⟩ : MethodName)) (z := (⟨"com/example/berthline/berthline/engine/replay/EstimatedEnds", "endingBy", "(J)J"⟩ : MethodName)) hown (mvT hZ (hw _ (List.mem_of_getElem? (i := 29) rfl))) (mvT hZ (hw _ (List.mem_of_getElem? (i := 30) rfl))) (notFace_of_selects (args := #[]) (mvT hZ (hw _ (List.mem_of_getElem? (i := 32) rfl)))) (mvT hZ (hw _ (List.mem_of_getElem? (i := 32) rfl))) (mvT hZ (hw _ (List.mem_of_getElem? (i := 31) rfl))) (by decide) (backOf (W := 0) (rm3 l Z a0 hw [] b865 ae_875 ap_875 aS_875 ah_875 al_875 ar_875 own_S0 0 1 1 vx864 T875.heap n0 Z875 (TR.mk (S := own_S0) t877_0 t877_1 t877_2 t877_3 t877_4 t877_5 t877_6 t877_7 t877_8 t877_9 t877_10 t877_11 t877_12 t877_13 t877_14 t877_15) I0.2.2.2.2.2.2.2.2.2 I0.2.2.2.2.2.2.2.2.1 (own_inv_deep I0 (by decide))) hZ (hw _ (List.mem_of_getElem? (i := 33) rfl)) (hw _ (List.mem_of_getElem? (i := 2) rfl)) (by decide) (by decide)) q879a q879c (g := (mkF m 211 #[.val (.long q1), .second, .val (.long q2), .second, .val (.long q3), .second, .val (.long q4), .second, .val (.long q5), .second, .val (.int xs), .val (.long p1), .second, .val (.long p2), .second, .val (.long p3), .second, .val (.long p4), .second, .val (.long q1), .second, .val (.long vb845), .second, .val (.long vc848), .second, .val (.long vd851), .second, .val (.int pk), .val (.long vx864), .second, .val (.ref b865), .unset, .unset, .unset] [(.long vx864), (.ref b865)])) rfl (by rw [hml]; rfl) (Steps.refl _) (argsL := [(.long vx864)]) (rest := []) (lenOf pd_246263 rfl) rfl (by show 2 * 0 + _ ≤ _; exact Nat.le_of_eq rfl) (hb hby at_211) (fun _ _ => ⟨rfl, rfl, (by decide : 7 + 0 ≤ _), (by decide : 105 + 0 ≤ _)⟩)
  dsimp only [Pt.U, Pt.locs, Pt.cells, Pt.slots] at X879 l879 y879 z879 st879 hQ879
  subst l879 y879 z879
  obtain ⟨rfl, N879q, K879c⟩ := hQ879
  have N879 := Fr.app N875 N879q
  obtain ⟨cq880, kq880, q880a, q880b, q880c⟩ := isOf hZ K879c t877_0
  obtain ⟨_, _, ⟨T880, L880, k880, n880⟩, -, X880, ⟨Lc880, hQ880, l880, y880, z880⟩, st880⟩ := X879.virtualBack hx (y := (⟨"com/example/berthline/berthline/engine/replay/EstimatedEnds", "add", "(JJ)V"⟩ : MethodName)) (z := (⟨"com/example/berthline/berthline/engine/replay/EstimatedEnds", "add", "(JJ)V"⟩ : MethodName)) hown (mvT hZ (hw _ (List.mem_of_getElem? (i := 34) rfl))) (mvT hZ (hw _ (List.mem_of_getElem? (i := 35) rfl))) (notFace_of_selects (args := #[]) (mvT hZ (hw _ (List.mem_of_getElem? (i := 37) rfl)))) (mvT hZ (hw _ (List.mem_of_getElem? (i := 37) rfl))) (mvT hZ (hw _ (List.mem_of_getElem? (i := 36) rfl))) (by decide) (backOf (W := 0) (rm4 l Z a0 hw [] b865 ae_875 ap_875 aS_875 ah_875 al_875 ar_875 own_S0 0 1 1 q1 p1 T875.heap n0 Z875 ge_b865 G875_2 G875_3 G875_4 G875_5 G875_6 G875_7 G875_1 (TR.mk (S := own_S0) t877_0 t877_1 t877_2 t877_3 t877_4 t877_5 t877_6 t877_7 t877_8 t877_9 t877_10 t877_11 t877_12 t877_13 t877_14 t877_15) I0.2.2.2.2.2.2.2.2.2 I0.2.2.2.2.2.2.2.2.1 (by decide) (by have q := I0.2.2.2.2.2.1; omega) (own_inv_deep I0 (by decide))) hZ (hw _ (List.mem_of_getElem? (i := 38) rfl)) (hw _ (List.mem_of_getElem? (i := 2) rfl)) (by decide) (by decide)) q880a q880c (g := (mkF m 232 #[.val (.long q1), .second, .val (.long q2), .second, .val (.long q3), .second, .val (.long q4), .second, .val (.long q5), .second, .val (.int xs), .val (.long p1), .second, .val (.long p2), .second, .val (.long p3), .second, .val (.long p4), .second, .val (.long q1), .second, .val (.long vb845), .second, .val (.long vc848), .second, .val (.long vd851), .second, .val (.int pk), .val (.long vx864), .second, .val (.ref b865), .val (.int (1 : Int32)), .unset, .unset] [(.long p1), (.long q1), (.ref b865)])) rfl (by rw [hml]; rfl) (Steps.refl _) (argsL := [(.long q1), (.long p1)]) (rest := []) (lenOf pd_717445 rfl) rfl (by show 2 * 0 + _ ≤ _; exact Nat.le_of_eq rfl) (hb hby at_232) (fun _ _ => ⟨rfl, K879c, (by decide : 7 + 0 ≤ _), (by decide : 105 + 0 ≤ _)⟩)
  dsimp only [Pt.U, Pt.locs, Pt.cells, Pt.slots] at X880 l880 y880 z880 st880 hQ880
  subst l880 y880 z880
  obtain ⟨rfl, N880q, K880c, G880_0⟩ := hQ880
  have N880 := Fr.app N879 N880q
  have E_881 := t877_0.keep K880c
  have Z880 : n0 ≤ T880.heap.size := Nat.le_trans Z875 K880c.1
  obtain ⟨t882_0, t882_1, t882_2, t882_3, t882_4, t882_5, t882_6, t882_7, t882_8, t882_9, t882_10, t882_11, t882_12, t882_13, t882_14, t882_15⟩ := G880_0
  obtain ⟨L1, I1, c1⟩ := own_step I0 (by decide) (by decide) q1 p1
  obtain ⟨A1, hA1⟩ : ∃ z, z = (own_add (0 + 1 + 1 + 1) own_S0 1 0 q1 p1) := ⟨_, rfl⟩
  rw [← hA1] at t882_7 t882_8 t882_10 t882_11 t882_12 t882_13 t882_14 t882_15 I1 c1
  obtain ⟨cq883, kq883, q883a, q883b, q883c⟩ := isOf hZ rfl t882_0
  obtain ⟨_, _, ⟨T883, L883, k883, n883⟩, -, X883, ⟨Lc883, hQ883, l883, y883, z883⟩, st883⟩ := X880.virtualBack hx (y := (⟨"com/example/berthline/berthline/engine/replay/EstimatedEnds", "add", "(JJ)V"⟩ : MethodName)) (z := (⟨"com/example/berthline/berthline/engine/replay/EstimatedEnds", "add", "(JJ)V"⟩ : MethodName)) hown (mvT hZ (hw _ (List.mem_of_getElem? (i := 34) rfl))) (mvT hZ (hw _ (List.mem_of_getElem? (i := 35) rfl))) (notFace_of_selects (args := #[]) (mvT hZ (hw _ (List.mem_of_getElem? (i := 37) rfl)))) (mvT hZ (hw _ (List.mem_of_getElem? (i := 37) rfl))) (mvT hZ (hw _ (List.mem_of_getElem? (i := 36) rfl))) (by decide) (backOf (W := 0) (rm4 l Z a0 hw [] b865 ae_875 ap_875 aS_875 ah_875 al_875 ar_875 A1.1 A1.2.2 A1.2.1 (1 + 15) vb845 p2 T880.heap n0 Z880 ge_b865 G875_2 G875_3 G875_4 G875_5 G875_6 G875_7 G875_1 (TR.mk (S := A1.1) t882_0 t882_1 t882_2 t882_3 t882_4 t882_5 t882_6 t882_7 t882_8 t882_9 t882_10 t882_11 t882_12 t882_13 t882_14 t882_15) I1.2.2.2.2.2.2.2.2.2 I1.2.2.2.2.2.2.2.2.1 (by decide) (by have q := I1.2.2.2.2.2.1; omega) (own_inv_deep I1 (by decide))) hZ (hw _ (List.mem_of_getElem? (i := 38) rfl)) (hw _ (List.mem_of_getElem? (i := 2) rfl)) (by decide) (by decide)) q883a q883c (g := (mkF m 241 #[.val (.long q1), .second, .val (.long q2), .second, .val (.long q3), .second, .val (.long q4), .second, .val (.long q5), .second, .val (.int xs), .val (.long p1), .second, .val (.long p2), .second, .val (.long p3), .second, .val (.long p4), .second, .val (.long q1), .second, .val (.long vb845), .second, .val (.long vc848), .second, .val (.long vd851), .second, .val (.int pk), .val (.long vx864), .second, .val (.ref b865), .val (.int (1 : Int32)), .unset, .unset] [(.long p2), (.long vb845), (.ref b865)])) rfl (by rw [hml]; rfl) (Steps.refl _) (argsL := [(.long vb845), (.long p2)]) (rest := []) (lenOf pd_717445 rfl) rfl (by show 2 * 0 + _ ≤ _; exact Nat.le_of_eq rfl) (hb hby at_241) (fun _ _ => ⟨rfl, rfl, (by decide : 7 + 0 ≤ _), (by decide : 105 + 0 ≤ _)⟩)
  dsimp only [Pt.U, Pt.locs, Pt.cells, Pt.slots] at X883 l883 y883 z883 st883 hQ883
  subst l883 y883 z883
  obtain ⟨rfl, N883q, K883c, G883_0⟩ := hQ883
  have N883 := Fr.app N880 N883q
  have E_884 := t882_0.keep K883c
  have Z883 : n0 ≤ T883.heap.size := Nat.le_trans Z880 K883c.1
  obtain ⟨t885_0, t885_1, t885_2, t885_3, t885_4, t885_5, t885_6, t885_7, t885_8, t885_9, t885_10, t885_11, t885_12, t885_13, t885_14, t885_15⟩ := G883_0
  obtain ⟨L2, I2, c2⟩ := own_step I1 (by decide) (by decide) vb845 p2
  obtain ⟨A2, hA2⟩ : ∃ z, z = (own_add (0 + 1 + 1 + 1) A1.1 A1.2.1 A1.2.2 vb845 p2) := ⟨_, rfl⟩
  rw [← hA2] at t885_7 t885_8 t885_10 t885_11 t885_12 t885_13 t885_14 t885_15 I2 c2
  obtain ⟨cq886, kq886, q886a, q886b, q886c⟩ := isOf hZ rfl t885_0
  obtain ⟨_, _, ⟨T886, L886, k886, n886⟩, -, X886, ⟨Lc886, hQ886, l886, y886, z886⟩, st886⟩ := X883.virtualBack hx (y := (⟨"com/example/berthline/berthline/engine/replay/EstimatedEnds", "add", "(JJ)V"⟩ : MethodName)) (z := (⟨"com/example/berthline/berthline/engine/replay/EstimatedEnds", "add", "(JJ)V"⟩ : MethodName)) hown (mvT hZ (hw _ (List.mem_of_getElem? (i := 34) rfl))) (mvT hZ (hw _ (List.mem_of_getElem? (i := 35) rfl))) (notFace_of_selects (args := #[]) (mvT hZ (hw _ (List.mem_of_getElem? (i := 37) rfl)))) (mvT hZ (hw _ (List.mem_of_getElem? (i := 37) rfl))) (mvT hZ (hw _ (List.mem_of_getElem? (i := 36) rfl))) (by decide) (backOf (W := 0) (rm4 l Z a0 hw [] b865 ae_875 ap_875 aS_875 ah_875 al_875 ar_875 A2.1 A2.2.2 A2.2.1 (1 + 15 + 15) vc848 p3 T883.heap n0 Z883 ge_b865 G875_2 G875_3 G875_4 G875_5 G875_6 G875_7 G875_1 (TR.mk (S := A2.1) t885_0 t885_1 t885_2 t885_3 t885_4 t885_5 t885_6 t885_7 t885_8 t885_9 t885_10 t885_11 t885_12 t885_13 t885_14 t885_15) I2.2.2.2.2.2.2.2.2.2 I2.2.2.2.2.2.2.2.2.1 (by decide) (by have q := I2.2.2.2.2.2.1; omega) (own_inv_deep I2 (by decide))) hZ (hw _ (List.mem_of_getElem? (i := 38) rfl)) (hw _ (List.mem_of_getElem? (i := 2) rfl)) (by decide) (by decide)) q886a q886c (g := (mkF m 250 #[.val (.long q1), .second, .val (.long q2), .second, .val (.long q3), .second, .val (.long q4), .second, .val (.long q5), .second, .val (.int xs), .val (.long p1), .second, .val (.long p2), .second, .val (.long p3), .second, .val (.long p4), .second, .val (.long q1), .second, .val (.long vb845), .second, .val (.long vc848), .second, .val (.long vd851), .second, .val (.int pk), .val (.long vx864), .second, .val (.ref b865), .val (.int (1 : Int32)), .unset, .unset] [(.long p3), (.long vc848), (.ref b865)])) rfl (by rw [hml]; rfl) (Steps.refl _) (argsL := [(.long vc848), (.long p3)]) (rest := []) (lenOf pd_717445 rfl) rfl (by show 2 * 0 + _ ≤ _; exact Nat.le_of_eq rfl) (hb hby at_250) (fun _ _ => ⟨rfl, rfl, (by decide : 7 + 0 ≤ _), (by decide : 105 + 0 ≤ _)⟩)
  dsimp only [Pt.U, Pt.locs, Pt.cells, Pt.slots] at X886 l886 y886 z886 st886 hQ886
  subst l886 y886 z886
  obtain ⟨rfl, N886q, K886c, G886_0⟩ := hQ886
  have N886 := Fr.app N883 N886q
  have E_887 := t885_0.keep K886c
  have Z886 : n0 ≤ T886.heap.size := Nat.le_trans Z883 K886c.1
  obtain ⟨t888_0, t888_1, t888_2, t888_3, t888_4, t888_5, t888_6, t888_7, t888_8, t888_9, t888_10, t888_11, t888_12, t888_13, t888_14, t888_15⟩ := G886_0
  obtain ⟨L3, I3, c3⟩ := own_step I2 (by decide) (by decide) vc848 p3
  obtain ⟨A3, hA3⟩ : ∃ z, z = (own_add (0 + 1 + 1 + 1) A2.1 A2.2.1 A2.2.2 vc848 p3) := ⟨_, rfl⟩
  rw [← hA3] at t888_7 t888_8 t888_10 t888_11 t888_12 t888_13 t888_14 t888_15 I3 c3
  obtain ⟨cq889, kq889, q889a, q889b, q889c⟩ := isOf hZ rfl t888_0
  obtain ⟨_, _, ⟨T889, L889, k889, n889⟩, -, X889, ⟨Lc889, hQ889, l889, y889, z889⟩, st889⟩ := X886.virtualBack hx (y := (⟨"com/example/berthline/berthline/engine/replay/EstimatedEnds", "add", "(JJ)V"⟩ : MethodName)) (z := (⟨"com/example/berthline/berthline/engine/replay/EstimatedEnds", "add", "(JJ)V"⟩ : MethodName)) hown (mvT hZ (hw _ (List.mem_of_getElem? (i := 34) rfl))) (mvT hZ (hw _ (List.mem_of_getElem? (i := 35) rfl))) (notFace_of_selects (args := #[]) (mvT hZ (hw _ (List.mem_of_getElem? (i := 37) rfl)))) (mvT hZ (hw _ (List.mem_of_getElem? (i := 37) rfl))) (mvT hZ (hw _ (List.mem_of_getElem? (i := 36) rfl))) (by decide) (backOf (W := 0) (rm4 l Z a0 hw [] b865 ae_875 ap_875 aS_875 ah_875 al_875 ar_875 A3.1 A3.2.2 A3.2.1 (1 + 15 + 15 + 15) vd851 p4 T886.heap n0 Z886 ge_b865 G875_2 G875_3 G875_4 G875_5 G875_6 G875_7 G875_1 (TR.mk (S := A3.1) t888_0 t888_1 t888_2 t888_3 t888_4 t888_5 t888_6 t888_7 t888_8 t888_9 t888_10 t888_11 t888_12 t888_13 t888_14 t888_15) I3.2.2.2.2.2.2.2.2.2 I3.2.2.2.2.2.2.2.2.1 (by decide) (by have q := I3.2.2.2.2.2.1; omega) (own_inv_deep I3 (by decide))) hZ (hw _ (List.mem_of_getElem? (i := 38) rfl)) (hw _ (List.mem_of_getElem? (i := 2) rfl)) (by decide) (by decide)) q889a q889c (g := (mkF m 259 #[.val (.long q1), .second, .val (.long q2), .second, .val (.long q3), .second, .val (.long q4), .second, .val (.long q5), .second, .val (.int xs), .val (.long p1), .second, .val (.long p2), .second, .val (.long p3), .second, .val (.long p4), .second, .val (.long q1), .second, .val (.long vb845), .second, .val (.long vc848), .second, .val (.long vd851), .second, .val (.int pk), .val (.long vx864), .second, .val (.ref b865), .val (.int (1 : Int32)), .unset, .unset] [(.long p4), (.long vd851), (.ref b865)])) rfl (by rw [hml]; rfl) (Steps.refl _) (argsL := [(.long vd851), (.long p4)]) (rest := []) (lenOf pd_717445 rfl) rfl (by show 2 * 0 + _ ≤ _; exact Nat.le_of_eq rfl) (hb hby at_259) (fun _ _ => ⟨rfl, rfl, (by decide : 7 + 0 ≤ _), (by decide : 105 + 0 ≤ _)⟩)
  dsimp only [Pt.U, Pt.locs, Pt.cells, Pt.slots] at X889 l889 y889 z889 st889 hQ889
  subst l889 y889 z889
  obtain ⟨rfl, N889q, K889c, G889_0⟩ := hQ889
  have N889 := Fr.app N886 N889q
  have E_890 := t888_0.keep K889c
  have Z889 : n0 ≤ T889.heap.size := Nat.le_trans Z886 K889c.1
  obtain ⟨t891_0, t891_1, t891_2, t891_3, t891_4, t891_5, t891_6, t891_7, t891_8, t891_9, t891_10, t891_11, t891_12, t891_13, t891_14, t891_15⟩ := G889_0
  obtain ⟨L4, I4, c4⟩ := own_step I3 (by decide) (by decide) vd851 p4
  obtain ⟨A4, hA4⟩ : ∃ z, z = (own_add (0 + 1 + 1 + 1) A3.1 A3.2.1 A3.2.2 vd851 p4) := ⟨_, rfl⟩
  rw [← hA4] at t891_7 t891_8 t891_10 t891_11 t891_12 t891_13 t891_14 t891_15 I4 c4
  obtain ⟨_, _, ⟨T892, L892, k892, n892⟩, -, X892, ⟨Lc892, hQ892, l892, y892, z892⟩, st892⟩ := Jvm.LawKit.callS X889 hx (y := (⟨"com/example/berthline/berthline/engine/replay/EstimatedEndsEndingByPinLaw", "held", "(JJJ)J"⟩ : MethodName)) hown (mvT hZ (hw _ (List.mem_of_getElem? (i := 63) rfl))) (mvT hZ (hw _ (List.mem_of_getElem? (i := 64) rfl))) (mvT hZ (hw _ (List.mem_of_getElem? (i := 65) rfl))) (mvT hZ (hw _ (List.mem_of_getElem? (i := 66) rfl))) (by decide) (backOf (W := 0) (rm11 l Z a0 hw [] q1 p1 vx864 T889.heap n0 Z889 ) hZ (hw _ (List.mem_of_getElem? (i := 66) rfl)) (hw _ (List.mem_of_getElem? (i := 65) rfl)) (by decide) (by decide)) (g := (mkF m 268 #[.val (.long q1), .second, .val (.long q2), .second, .val (.long q3), .second, .val (.long q4), .second, .val (.long q5), .second, .val (.int xs), .val (.long p1), .second, .val (.long p2), .second, .val (.long p3), .second, .val (.long p4), .second, .val (.long q1), .second, .val (.long vb845), .second, .val (.long vc848), .second, .val (.long vd851), .second, .val (.int pk), .val (.long vx864), .second, .val (.ref b865), .val (.int (1 : Int32)), .unset, .unset] [(.long vx864), (.long p1), (.long q1)])) rfl (by rw [hml]; rfl) (argsL := [(.long q1), (.long p1), (.long vx864)]) (rest := []) (lenOf pd_693043 rfl) rfl (by show 2 * 0 + _ ≤ _; exact Nat.le_of_eq rfl) (hb hby at_268) (fun _ _ => ⟨rfl, rfl, (by decide : 7 + 0 ≤ _), (by decide : 105 + 0 ≤ _)⟩)
  dsimp only [Pt.U, Pt.locs, Pt.cells, Pt.slots] at X892 l892 y892 z892 st892 hQ892
  subst l892 y892 z892
  obtain ⟨rfl, N892q, K892c⟩ := hQ892
  have N892 := Fr.app N889 N892q
  obtain ⟨_, _, ⟨T893, L893, k893, n893⟩, -, X893, ⟨Lc893, hQ893, l893, y893, z893⟩, st893⟩ := Jvm.LawKit.callS X892 hx (y := (⟨"com/example/berthline/berthline/engine/replay/EstimatedEndsEndingByPinLaw", "held", "(JJJ)J"⟩ : MethodName)) hown (mvT hZ (hw _ (List.mem_of_getElem? (i := 63) rfl))) (mvT hZ (hw _ (List.mem_of_getElem? (i := 64) rfl))) (mvT hZ (hw _ (List.mem_of_getElem? (i := 65) rfl))) (mvT hZ (hw _ (List.mem_of_getElem? (i := 66) rfl))) (by decide) (backOf (W := 2) (rm11 l Z a0 hw [] vb845 p2 vx864 T889.heap n0 Z889 ) hZ (hw _ (List.mem_of_getElem? (i := 66) rfl)) (hw _ (List.mem_of_getElem? (i := 65) rfl)) (by decide) (by decide)) (g := (mkF m 277 #[.val (.long q1), .second, .val (.long q2), .second, .val (.long q3), .second, .val (.long q4), .second, .val (.long q5), .second, .val (.int xs), .val (.long p1), .second, .val (.long p2), .second, .val (.long p3), .second, .val (.long p4), .second, .val (.long q1), .second, .val (.long vb845), .second, .val (.long vc848), .second, .val (.long vd851), .second, .val (.int pk), .val (.long vx864), .second, .val (.ref b865), .val (.int (1 : Int32)), .unset, .unset] [(.long vx864), (.long p2), (.long vb845), (.long (own_held q1 p1 vx864))])) rfl (by rw [hml]; rfl) (argsL := [(.long vb845), (.long p2), (.long vx864)]) (rest := [(.long (own_held q1 p1 vx864))]) (lenOf pd_693043 rfl) rfl (by show 2 * 0 + _ ≤ _; exact Nat.le_of_eq rfl) (hb hby at_277) (fun _ _ => ⟨rfl, K892c, (by decide : 7 + 0 ≤ _), (by decide : 105 + 0 ≤ _)⟩)
  dsimp only [Pt.U, Pt.locs, Pt.cells, Pt.slots] at X893 l893 y893 z893 st893 hQ893
  subst l893 y893 z893
  obtain ⟨rfl, N893q, K893c⟩ := hQ893
  have N893 := Fr.app N892 N893q
  obtain ⟨_, _, ⟨T894, L894, k894, n894⟩, -, X894, ⟨Lc894, hQ894, l894, y894, z894⟩, st894⟩ := Jvm.LawKit.callS X893 hx (y := (⟨"com/example/berthline/berthline/engine/replay/EstimatedEndsEndingByPinLaw", "held", "(JJJ)J"⟩ : MethodName)) hown (mvT hZ (hw _ (List.mem_of_getElem? (i := 63) rfl))) (mvT hZ (hw _ (List.mem_of_getElem? (i := 64) rfl))) (mvT hZ (hw _ (List.mem_of_getElem? (i := 65) rfl))) (mvT hZ (hw _ (List.mem_of_getElem? (i := 66) rfl))) (by decide) (backOf (W := 2) (rm11 l Z a0 hw [] vc848 p3 vx864 T889.heap n0 Z889 ) hZ (hw _ (List.mem_of_getElem? (i := 66) rfl)) (hw _ (List.mem_of_getElem? (i := 65) rfl)) (by decide) (by decide)) (g := (mkF m 287 #[.val (.long q1), .second, .val (.long q2), .second, .val (.long q3), .second, .val (.long q4), .second, .val (.long q5), .second, .val (.int xs), .val (.long p1), .second, .val (.long p2), .second, .val (.long p3), .second, .val (.long p4), .second, .val (.long q1), .second, .val (.long vb845), .second, .val (.long vc848), .second, .val (.long vd851), .second, .val (.int pk), .val (.long vx864), .second, .val (.ref b865), .val (.int (1 : Int32)), .unset, .unset] [(.long vx864), (.long p3), (.long vc848), (.long ((own_held q1 p1 vx864) + (own_held vb845 p2 vx864)))])) rfl (by rw [hml]; rfl) (argsL := [(.long vc848), (.long p3), (.long vx864)]) (rest := [(.long ((own_held q1 p1 vx864) + (own_held vb845 p2 vx864)))]) (lenOf pd_693043 rfl) rfl (by show 2 * 0 + _ ≤ _; exact Nat.le_of_eq rfl) (hb hby at_287) (fun _ _ => ⟨rfl, K893c, (by decide : 7 + 0 ≤ _), (by decide : 105 + 0 ≤ _)⟩)
  dsimp only [Pt.U, Pt.locs, Pt.cells, Pt.slots] at X894 l894 y894 z894 st894 hQ894
  subst l894 y894 z894
  obtain ⟨rfl, N894q, K894c⟩ := hQ894
  have N894 := Fr.app N893 N894q
  obtain ⟨_, _, ⟨T895, L895, k895, n895⟩, -, X895, ⟨Lc895, hQ895, l895, y895, z895⟩, st895⟩ := Jvm.LawKit.callS X894 hx (y := (⟨"com/example/berthline/berthline/engine/replay/EstimatedEndsEndingByPinLaw", "held", "(JJJ)J"⟩ : MethodName)) hown (mvT hZ (hw _ (List.mem_of_getElem? (i := 63) rfl))) (mvT hZ (hw _ (List.mem_of_getElem? (i := 64) rfl))) (mvT hZ (hw _ (List.mem_of_getElem? (i := 65) rfl))) (mvT hZ (hw _ (List.mem_of_getElem? (i := 66) rfl))) (by decide) (backOf (W := 2) (rm11 l Z a0 hw [] vd851 p4 vx864 T889.heap n0 Z889 ) hZ (hw _ (List.mem_of_getElem? (i := 66) rfl)) (hw _ (List.mem_of_getElem? (i := 65) rfl)) (by decide) (by decide)) (g := (mkF m 297 #[.val (.long q1), .second, .val (.long q2), .second, .val (.long q3), .second, .val (.long q4), .second, .val (.long q5), .second, .val (.int xs), .val (.long p1), .second, .val (.long p2), .second, .val (.long p3), .second, .val (.long p4), .second, .val (.long q1), .second, .val (.long vb845), .second, .val (.long vc848), .second, .val (.long vd851), .second, .val (.int pk), .val (.long vx864), .second, .val (.ref b865), .val (.int (1 : Int32)), .unset, .unset] [(.long vx864), (.long p4), (.long vd851), (.long (((own_held q1 p1 vx864) + (own_held vb845 p2 vx864)) + (own_held vc848 p3 vx864)))])) rfl (by rw [hml]; rfl) (argsL := [(.long vd851), (.long p4), (.long vx864)]) (rest := [(.long (((own_held q1 p1 vx864) + (own_held vb845 p2 vx864)) + (own_held vc848 p3 vx864)))]) (lenOf pd_693043 rfl) rfl (by show 2 * 0 + _ ≤ _; exact Nat.le_of_eq rfl) (hb hby at_297) (fun _ _ => ⟨rfl, K894c, (by decide : 7 + 0 ≤ _), (by decide : 105 + 0 ≤ _)⟩)
  dsimp only [Pt.U, Pt.locs, Pt.cells, Pt.slots] at X895 l895 y895 z895 st895 hQ895
  subst l895 y895 z895
  obtain ⟨rfl, N895q, K895c⟩ := hQ895
  have N895 := Fr.app N894 N895q
  obtain ⟨cq896, kq896, q896a, q896b, q896c⟩ := isOf hZ K895c t891_0
  obtain ⟨_, _, ⟨T896, L896, k896, n896⟩, -, X896, ⟨Lc896, hQ896, l896, y896, z896⟩, st896⟩ := X895.virtualBack hx (y := (⟨"com/example/berthline/berthline/engine/replay/EstimatedEnds", "endingBy", "(J)J"⟩ : MethodName)) (z := (⟨"com/example/berthline/berthline/engine/replay/EstimatedEnds", "endingBy", "(J)J"⟩ : MethodName)) hown (mvT hZ (hw _ (List.mem_of_getElem? (i := 29) rfl))) (mvT hZ (hw _ (List.mem_of_getElem? (i := 30) rfl))) (notFace_of_selects (args := #[]) (mvT hZ (hw _ (List.mem_of_getElem? (i := 32) rfl)))) (mvT hZ (hw _ (List.mem_of_getElem? (i := 32) rfl))) (mvT hZ (hw _ (List.mem_of_getElem? (i := 31) rfl))) (by decide) (backOf (W := 0) (rm3 l Z a0 hw [] b865 ae_875 ap_875 aS_875 ah_875 al_875 ar_875 A4.1 A4.2.2 A4.2.1 (1 + 15 + 15 + 15 + 15) vx864 T889.heap n0 Z889 (TR.mk (S := A4.1) t891_0 t891_1 t891_2 t891_3 t891_4 t891_5 t891_6 t891_7 t891_8 t891_9 t891_10 t891_11 t891_12 t891_13 t891_14 t891_15) I4.2.2.2.2.2.2.2.2.2 I4.2.2.2.2.2.2.2.2.1 (own_inv_deep I4 (by decide))) hZ (hw _ (List.mem_of_getElem? (i := 33) rfl)) (hw _ (List.mem_of_getElem? (i := 2) rfl)) (by decide) (by decide)) q896a q896c (g := (mkF m 312 #[.val (.long q1), .second, .val (.long q2), .second, .val (.long q3), .second, .val (.long q4), .second, .val (.long q5), .second, .val (.int xs), .val (.long p1), .second, .val (.long p2), .second, .val (.long p3), .second, .val (.long p4), .second, .val (.long q1), .second, .val (.long vb845), .second, .val (.long vc848), .second, .val (.long vd851), .second, .val (.int pk), .val (.long vx864), .second, .val (.ref b865), .val (.int (1 : Int32)), .val (.long ((((own_held q1 p1 vx864) + (own_held vb845 p2 vx864)) + (own_held vc848 p3 vx864)) + (own_held vd851 p4 vx864))), .second] [(.long vx864), (.ref b865)])) rfl (by rw [hml]; rfl) (Steps.refl _) (argsL := [(.long vx864)]) (rest := []) (lenOf pd_246263 rfl) rfl (by show 2 * 0 + _ ≤ _; exact Nat.le_of_eq rfl) (hb hby at_312) (fun _ _ => ⟨rfl, K895c, (by decide : 7 + 0 ≤ _), (by decide : 105 + 0 ≤ _)⟩)
  dsimp only [Pt.U, Pt.locs, Pt.cells, Pt.slots] at X896 l896 y896 z896 st896 hQ896
  subst l896 y896 z896
  obtain ⟨rfl, N896q, K896c⟩ := hQ896
  have N896 := Fr.app N895 N896q
  obtain ⟨fs, hr, hrun, hended, hW, hsame⟩ := X896.leave (v := some (.int (1 : Int32))) (fun h => by rw [Bd.returns] at h; cases h)
  refine ⟨_, _, pre0 _ ?_, hrun, hended, _, _, rfl, ?_, ⟨_, rfl⟩, hW, hsame.mono (by decide) (by decide)⟩
  · show Steps p.tables e below (s₁.setTop (mkF m 0 #[.val (.long q1), .second, .val (.long q2), .second, .val (.long q3), .second, .val (.long q4), .second, .val (.long q5), .second, .val (.int xs), .unset, .unset, .unset, .unset, .unset, .unset, .unset, .unset, .unset, .unset, .unset, .unset, .unset, .unset, .unset, .unset, .unset, .unset, .unset, .unset, .unset, .unset, .unset] [])) _
    refine XS.iload X0.here hx rfl (hb hby at_0) rfl ?_
    show Steps p.tables e below (s₁.setTop (mkF m 2 #[.val (.long q1), .second, .val (.long q2), .second, .val (.long q3), .second, .val (.long q4), .second, .val (.long q5), .second, .val (.int xs), .unset, .unset, .unset, .unset, .unset, .unset, .unset, .unset, .unset, .unset, .unset, .unset, .unset, .unset, .unset, .unset, .unset, .unset, .unset, .unset, .unset, .unset, .unset] [(.int xs)])) _
    refine XS.bipush X0.here hx rfl (hb hby at_2) ?_
    show Steps p.tables e below (s₁.setTop (mkF m 4 #[.val (.long q1), .second, .val (.long q2), .second, .val (.long q3), .second, .val (.long q4), .second, .val (.long q5), .second, .val (.int xs), .unset, .unset, .unset, .unset, .unset, .unset, .unset, .unset, .unset, .unset, .unset, .unset, .unset, .unset, .unset, .unset, .unset, .unset, .unset, .unset, .unset, .unset, .unset] [(.int (7 : Int32)), (.int xs)])) _
    refine XS.iand X0.here hx rfl (hb hby at_4) rfl ?_
    show Steps p.tables e below (s₁.setTop (mkF m 5 #[.val (.long q1), .second, .val (.long q2), .second, .val (.long q3), .second, .val (.long q4), .second, .val (.long q5), .second, .val (.int xs), .unset, .unset, .unset, .unset, .unset, .unset, .unset, .unset, .unset, .unset, .unset, .unset, .unset, .unset, .unset, .unset, .unset, .unset, .unset, .unset, .unset, .unset, .unset] [(.int (xs &&& (7 : Int32)))])) _
    refine XS.iconst X0.here hx rfl (hb hby at_5) ?_
    show Steps p.tables e below (s₁.setTop (mkF m 6 #[.val (.long q1), .second, .val (.long q2), .second, .val (.long q3), .second, .val (.long q4), .second, .val (.long q5), .second, .val (.int xs), .unset, .unset, .unset, .unset, .unset, .unset, .unset, .unset, .unset, .unset, .unset, .unset, .unset, .unset, .unset, .unset, .unset, .unset, .unset, .unset, .unset, .unset, .unset] [(.int (1 : Int32)), (.int (xs &&& (7 : Int32)))])) _
    refine XS.iadd X0.here hx rfl (hb hby at_6) rfl ?_
    show Steps p.tables e below (s₁.setTop (mkF m 7 #[.val (.long q1), .second, .val (.long q2), .second, .val (.long q3), .second, .val (.long q4), .second, .val (.long q5), .second, .val (.int xs), .unset, .unset, .unset, .unset, .unset, .unset, .unset, .unset, .unset, .unset, .unset, .unset, .unset, .unset, .unset, .unset, .unset, .unset, .unset, .unset, .unset, .unset, .unset] [(.int ((xs &&& (7 : Int32)) + (1 : Int32)))])) _
    refine XS.i2l X0.here hx rfl (hb hby at_7) rfl ?_
    show Steps p.tables e below (s₁.setTop (mkF m 8 #[.val (.long q1), .second, .val (.long q2), .second, .val (.long q3), .second, .val (.long q4), .second, .val (.long q5), .second, .val (.int xs), .unset, .unset, .unset, .unset, .unset, .unset, .unset, .unset, .unset, .unset, .unset, .unset, .unset, .unset, .unset, .unset, .unset, .unset, .unset, .unset, .unset, .unset, .unset] [(.long (((xs &&& (7 : Int32)) + (1 : Int32)).toInt64))])) _
    refine XS.lstore X0.here hx rfl (hb hby at_8) rfl (l' := #[.val (.long q1), .second, .val (.long q2), .second, .val (.long q3), .second, .val (.long q4), .second, .val (.long q5), .second, .val (.int xs), .val (.long (((xs &&& (7 : Int32)) + (1 : Int32)).toInt64)), .second, .unset, .unset, .unset, .unset, .unset, .unset, .unset, .unset, .unset, .unset, .unset, .unset, .unset, .unset, .unset, .unset, .unset, .unset, .unset, .unset, .unset]) rfl ?_
    show Steps p.tables e below (s₁.setTop (mkF m 10 #[.val (.long q1), .second, .val (.long q2), .second, .val (.long q3), .second, .val (.long q4), .second, .val (.long q5), .second, .val (.int xs), .val (.long (((xs &&& (7 : Int32)) + (1 : Int32)).toInt64)), .second, .unset, .unset, .unset, .unset, .unset, .unset, .unset, .unset, .unset, .unset, .unset, .unset, .unset, .unset, .unset, .unset, .unset, .unset, .unset, .unset, .unset] [])) _
    refine XS.iload X0.here hx rfl (hb hby at_10) rfl ?_
    show Steps p.tables e below (s₁.setTop (mkF m 12 #[.val (.long q1), .second, .val (.long q2), .second, .val (.long q3), .second, .val (.long q4), .second, .val (.long q5), .second, .val (.int xs), .val (.long (((xs &&& (7 : Int32)) + (1 : Int32)).toInt64)), .second, .unset, .unset, .unset, .unset, .unset, .unset, .unset, .unset, .unset, .unset, .unset, .unset, .unset, .unset, .unset, .unset, .unset, .unset, .unset, .unset, .unset] [(.int xs)])) _
    refine XS.iconst X0.here hx rfl (hb hby at_12) ?_
    show Steps p.tables e below (s₁.setTop (mkF m 13 #[.val (.long q1), .second, .val (.long q2), .second, .val (.long q3), .second, .val (.long q4), .second, .val (.long q5), .second, .val (.int xs), .val (.long (((xs &&& (7 : Int32)) + (1 : Int32)).toInt64)), .second, .unset, .unset, .unset, .unset, .unset, .unset, .unset, .unset, .unset, .unset, .unset, .unset, .unset, .unset, .unset, .unset, .unset, .unset, .unset, .unset, .unset] [(.int (3 : Int32)), (.int xs)])) _
    refine XS.iushr X0.here hx rfl (hb hby at_13) rfl ?_
    show Steps p.tables e below (s₁.setTop (mkF m 14 #[.val (.long q1), .second, .val (.long q2), .second, .val (.long q3), .second, .val (.long q4), .second, .val (.long q5), .second, .val (.int xs), .val (.long (((xs &&& (7 : Int32)) + (1 : Int32)).toInt64)), .second, .unset, .unset, .unset, .unset, .unset, .unset, .unset, .unset, .unset, .unset, .unset, .unset, .unset, .unset, .unset, .unset, .unset, .unset, .unset, .unset, .unset] [(.int ((xs.toUInt32 >>> ((3 : Int32) &&& 31).toUInt32).toInt32))])) _
    refine XS.bipush X0.here hx rfl (hb hby at_14) ?_
    show Steps p.tables e below (s₁.setTop (mkF m 16 #[.val (.long q1), .second, .val (.long q2), .second, .val (.long q3), .second, .val (.long q4), .second, .val (.long q5), .second, .val (.int xs), .val (.long (((xs &&& (7 : Int32)) + (1 : Int32)).toInt64)), .second, .unset, .unset, .unset, .unset, .unset, .unset, .unset, .unset, .unset, .unset, .unset, .unset, .unset, .unset, .unset, .unset, .unset, .unset, .unset, .unset, .unset] [(.int (7 : Int32)), (.int ((xs.toUInt32 >>> ((3 : Int32) &&& 31).toUInt32).toInt32))])) _
    refine XS.iand X0.here hx rfl (hb hby at_16) rfl ?_
    show Steps p.tables e below (s₁.setTop (mkF m 17 #[.val (.long q1), .second, .val (.long q2), .second, .val (.long q3), .second, .val (.long q4), .second, .val (.long q5), .second, .val (.int xs), .val (.long (((xs &&& (7 : Int32)) + (1 : Int32)).toInt64)), .second, .unset, .unset, .unset, .unset, .unset, .unset, .unset, .unset, .unset, .unset, .unset, .unset, .unset, .unset, .unset, .unset, .unset, .unset, .unset, .unset, .unset] [(.int (((xs.toUInt32 >>> ((3 : Int32) &&& 31).toUInt32).toInt32) &&& (7 : Int32)))])) _
    refine XS.iconst X0.here hx rfl (hb hby at_17) ?_
    show Steps p.tables e below (s₁.setTop (mkF m 18 #[.val (.long q1), .second, .val (.long q2), .second, .val (.long q3), .second, .val (.long q4), .second, .val (.long q5), .second, .val (.int xs), .val (.long (((xs &&& (7 : Int32)) + (1 : Int32)).toInt64)), .second, .unset, .unset, .unset, .unset, .unset, .unset, .unset, .unset, .unset, .unset, .unset, .unset, .unset, .unset, .unset, .unset, .unset, .unset, .unset, .unset, .unset] [(.int (1 : Int32)), (.int (((xs.toUInt32 >>> ((3 : Int32) &&& 31).toUInt32).toInt32) &&& (7 : Int32)))])) _
    refine XS.iadd X0.here hx rfl (hb hby at_18) rfl ?_
    show Steps p.tables e below (s₁.setTop (mkF m 19 #[.val (.long q1), .second, .val (.long q2), .second, .val (.long q3), .second, .val (.long q4), .second, .val (.long q5), .second, .val (.int xs), .val (.long (((xs &&& (7 : Int32)) + (1 : Int32)).toInt64)), .second, .unset, .unset, .unset, .unset, .unset, .unset, .unset, .unset, .unset, .unset, .unset, .unset, .unset, .unset, .unset, .unset, .unset, .unset, .unset, .unset, .unset] [(.int ((((xs.toUInt32 >>> ((3 : Int32) &&& 31).toUInt32).toInt32) &&& (7 : Int32)) + (1 : Int32)))])) _
    refine XS.i2l X0.here hx rfl (hb hby at_19) rfl ?_
    show Steps p.tables e below (s₁.setTop (mkF m 20 #[.val (.long q1), .second, .val (.long q2), .second, .val (.long q3), .second, .val (.long q4), .second, .val (.long q5), .second, .val (.int xs), .val (.long (((xs &&& (7 : Int32)) + (1 : Int32)).toInt64)), .second, .unset, .unset, .unset, .unset, .unset, .unset, .unset, .unset, .unset, .unset, .unset, .unset, .unset, .unset, .unset, .unset, .unset, .unset, .unset, .unset, .unset] [(.long (((((xs.toUInt32 >>> ((3 : Int32) &&& 31).toUInt32).toInt32) &&& (7 : Int32)) + (1 : Int32)).toInt64))])) _
    refine XS.lstore X0.here hx rfl (hb hby at_20) rfl (l' := #[.val (.long q1), .second, .val (.long q2), .second, .val (.long q3), .second, .val (.long q4), .second, .val (.long q5), .second, .val (.int xs), .val (.long (((xs &&& (7 : Int32)) + (1 : Int32)).toInt64)), .second, .val (.long (((((xs.toUInt32 >>> ((3 : Int32) &&& 31).toUInt32).toInt32) &&& (7 : Int32)) + (1 : Int32)).toInt64)), .second, .unset, .unset, .unset, .unset, .unset, .unset, .unset, .unset, .unset, .unset, .unset, .unset, .unset, .unset, .unset, .unset, .unset, .unset, .unset]) rfl ?_
    show Steps p.tables e below (s₁.setTop (mkF m 22 #[.val (.long q1), .second, .val (.long q2), .second, .val (.long q3), .second, .val (.long q4), .second, .val (.long q5), .second, .val (.int xs), .val (.long (((xs &&& (7 : Int32)) + (1 : Int32)).toInt64)), .second, .val (.long (((((xs.toUInt32 >>> ((3 : Int32) &&& 31).toUInt32).toInt32) &&& (7 : Int32)) + (1 : Int32)).toInt64)), .second, .unset, .unset, .unset, .unset, .unset, .unset, .unset, .unset, .unset, .unset, .unset, .unset, .unset, .unset, .unset, .unset, .unset, .unset, .unset] [])) _
    refine XS.iload X0.here hx rfl (hb hby at_22) rfl ?_
    show Steps p.tables e below (s₁.setTop (mkF m 24 #[.val (.long q1), .second, .val (.long q2), .second, .val (.long q3), .second, .val (.long q4), .second, .val (.long q5), .second, .val (.int xs), .val (.long (((xs &&& (7 : Int32)) + (1 : Int32)).toInt64)), .second, .val (.long (((((xs.toUInt32 >>> ((3 : Int32) &&& 31).toUInt32).toInt32) &&& (7 : Int32)) + (1 : Int32)).toInt64)), .second, .unset, .unset, .unset, .unset, .unset, .unset, .unset, .unset, .unset, .unset, .unset, .unset, .unset, .unset, .unset, .unset, .unset, .unset, .unset] [(.int xs)])) _
    refine XS.bipush X0.here hx rfl (hb hby at_24) ?_
    show Steps p.tables e below (s₁.setTop (mkF m 26 #[.val (.long q1), .second, .val (.long q2), .second, .val (.long q3), .second, .val (.long q4), .second, .val (.long q5), .second, .val (.int xs), .val (.long (((xs &&& (7 : Int32)) + (1 : Int32)).toInt64)), .second, .val (.long (((((xs.toUInt32 >>> ((3 : Int32) &&& 31).toUInt32).toInt32) &&& (7 : Int32)) + (1 : Int32)).toInt64)), .second, .unset, .unset, .unset, .unset, .unset, .unset, .unset, .unset, .unset, .unset, .unset, .unset, .unset, .unset, .unset, .unset, .unset, .unset, .unset] [(.int (6 : Int32)), (.int xs)])) _
    refine XS.iushr X0.here hx rfl (hb hby at_26) rfl ?_
    show Steps p.tables e below (s₁.setTop (mkF m 27 #[.val (.long q1), .second, .val (.long q2), .second, .val (.long q3), .second, .val (.long q4), .second, .val (.long q5), .second, .val (.int xs), .val (.long (((xs &&& (7 : Int32)) + (1 : Int32)).toInt64)), .second, .val (.long (((((xs.toUInt32 >>> ((3 : Int32) &&& 31).toUInt32).toInt32) &&& (7 : Int32)) + (1 : Int32)).toInt64)), .second, .unset, .unset, .unset, .unset, .unset, .unset, .unset, .unset, .unset, .unset, .unset, .unset, .unset, .unset, .unset, .unset, .unset, .unset, .unset] [(.int ((xs.toUInt32 >>> ((6 : Int32) &&& 31).toUInt32).toInt32))])) _
    refine XS.bipush X0.here hx rfl (hb hby at_27) ?_
    show Steps p.tables e below (s₁.setTop (mkF m 29 #[.val (.long q1), .second, .val (.long q2), .second, .val (.long q3), .second, .val (.long q4), .second, .val (.long q5), .second, .val (.int xs), .val (.long (((xs &&& (7 : Int32)) + (1 : Int32)).toInt64)), .second, .val (.long (((((xs.toUInt32 >>> ((3 : Int32) &&& 31).toUInt32).toInt32) &&& (7 : Int32)) + (1 : Int32)).toInt64)), .second, .unset, .unset, .unset, .unset, .unset, .unset, .unset, .unset, .unset, .unset, .unset, .unset, .unset, .unset, .unset, .unset, .unset, .unset, .unset] [(.int (7 : Int32)), (.int ((xs.toUInt32 >>> ((6 : Int32) &&& 31).toUInt32).toInt32))])) _
    refine XS.iand X0.here hx rfl (hb hby at_29) rfl ?_
    show Steps p.tables e below (s₁.setTop (mkF m 30 #[.val (.long q1), .second, .val (.long q2), .second, .val (.long q3), .second, .val (.long q4), .second, .val (.long q5), .second, .val (.int xs), .val (.long (((xs &&& (7 : Int32)) + (1 : Int32)).toInt64)), .second, .val (.long (((((xs.toUInt32 >>> ((3 : Int32) &&& 31).toUInt32).toInt32) &&& (7 : Int32)) + (1 : Int32)).toInt64)), .second, .unset, .unset, .unset, .unset, .unset, .unset, .unset, .unset, .unset, .unset, .unset, .unset, .unset, .unset, .unset, .unset, .unset, .unset, .unset] [(.int (((xs.toUInt32 >>> ((6 : Int32) &&& 31).toUInt32).toInt32) &&& (7 : Int32)))])) _
    refine XS.iconst X0.here hx rfl (hb hby at_30) ?_
    show Steps p.tables e below (s₁.setTop (mkF m 31 #[.val (.long q1), .second, .val (.long q2), .second, .val (.long q3), .second, .val (.long q4), .second, .val (.long q5), .second, .val (.int xs), .val (.long (((xs &&& (7 : Int32)) + (1 : Int32)).toInt64)), .second, .val (.long (((((xs.toUInt32 >>> ((3 : Int32) &&& 31).toUInt32).toInt32) &&& (7 : Int32)) + (1 : Int32)).toInt64)), .second, .unset, .unset, .unset, .unset, .unset, .unset, .unset, .unset, .unset, .unset, .unset, .unset, .unset, .unset, .unset, .unset, .unset, .unset, .unset] [(.int (1 : Int32)), (.int (((xs.toUInt32 >>> ((6 : Int32) &&& 31).toUInt32).toInt32) &&& (7 : Int32)))])) _
    refine XS.iadd X0.here hx rfl (hb hby at_31) rfl ?_
    show Steps p.tables e below (s₁.setTop (mkF m 32 #[.val (.long q1), .second, .val (.long q2), .second, .val (.long q3), .second, .val (.long q4), .second, .val (.long q5), .second, .val (.int xs), .val (.long (((xs &&& (7 : Int32)) + (1 : Int32)).toInt64)), .second, .val (.long (((((xs.toUInt32 >>> ((3 : Int32) &&& 31).toUInt32).toInt32) &&& (7 : Int32)) + (1 : Int32)).toInt64)), .second, .unset, .unset, .unset, .unset, .unset, .unset, .unset, .unset, .unset, .unset, .unset, .unset, .unset, .unset, .unset, .unset, .unset, .unset, .unset] [(.int ((((xs.toUInt32 >>> ((6 : Int32) &&& 31).toUInt32).toInt32) &&& (7 : Int32)) + (1 : Int32)))])) _
    refine XS.i2l X0.here hx rfl (hb hby at_32) rfl ?_
    show Steps p.tables e below (s₁.setTop (mkF m 33 #[.val (.long q1), .second, .val (.long q2), .second, .val (.long q3), .second, .val (.long q4), .second, .val (.long q5), .second, .val (.int xs), .val (.long (((xs &&& (7 : Int32)) + (1 : Int32)).toInt64)), .second, .val (.long (((((xs.toUInt32 >>> ((3 : Int32) &&& 31).toUInt32).toInt32) &&& (7 : Int32)) + (1 : Int32)).toInt64)), .second, .unset, .unset, .unset, .unset, .unset, .unset, .unset, .unset, .unset, .unset, .unset, .unset, .unset, .unset, .unset, .unset, .unset, .unset, .unset] [(.long (((((xs.toUInt32 >>> ((6 : Int32) &&& 31).toUInt32).toInt32) &&& (7 : Int32)) + (1 : Int32)).toInt64))])) _
    refine XS.lstore X0.here hx rfl (hb hby at_33) rfl (l' := #[.val (.long q1), .second, .val (.long q2), .second, .val (.long q3), .second, .val (.long q4), .second, .val (.long q5), .second, .val (.int xs), .val (.long (((xs &&& (7 : Int32)) + (1 : Int32)).toInt64)), .second, .val (.long (((((xs.toUInt32 >>> ((3 : Int32) &&& 31).toUInt32).toInt32) &&& (7 : Int32)) + (1 : Int32)).toInt64)), .second, .val (.long (((((xs.toUInt32 >>> ((6 : Int32) &&& 31).toUInt32).toInt32) &&& (7 : Int32)) + (1 : Int32)).toInt64)), .second, .unset, .unset, .unset, .unset, .unset, .unset, .unset, .unset, .unset, .unset, .unset, .unset, .unset, .unset, .unset, .unset, .unset]) rfl ?_
    show Steps p.tables e below (s₁.setTop (mkF m 35 #[.val (.long q1), .second, .val (.long q2), .second, .val (.long q3), .second, .val (.long q4), .second, .val (.long q5), .second, .val (.int xs), .val (.long (((xs &&& (7 : Int32)) + (1 : Int32)).toInt64)), .second, .val (.long (((((xs.toUInt32 >>> ((3 : Int32) &&& 31).toUInt32).toInt32) &&& (7 : Int32)) + (1 : Int32)).toInt64)), .second, .val (.long (((((xs.toUInt32 >>> ((6 : Int32) &&& 31).toUInt32).toInt32) &&& (7 : Int32)) + (1 : Int32)).toInt64)), .second, .unset, .unset, .unset, .unset, .unset, .unset, .unset, .unset, .unset, .unset, .unset, .unset, .unset, .unset, .unset, .unset, .unset] [])) _
    refine XS.iload X0.here hx rfl (hb hby at_35) rfl ?_
    show Steps p.tables e below (s₁.setTop (mkF m 37 #[.val (.long q1), .second, .val (.long q2), .second, .val (.long q3), .second, .val (.long q4), .second, .val (.long q5), .second, .val (.int xs), .val (.long (((xs &&& (7 : Int32)) + (1 : Int32)).toInt64)), .second, .val (.long (((((xs.toUInt32 >>> ((3 : Int32) &&& 31).toUInt32).toInt32) &&& (7 : Int32)) + (1 : Int32)).toInt64)), .second, .val (.long (((((xs.toUInt32 >>> ((6 : Int32) &&& 31).toUInt32).toInt32) &&& (7 : Int32)) + (1 : Int32)).toInt64)), .second, .unset, .unset, .unset, .unset, .unset, .unset, .unset, .unset, .unset, .unset, .unset, .unset, .unset, .unset, .unset, .unset, .unset] [(.int xs)])) _
    refine XS.bipush X0.here hx rfl (hb hby at_37) ?_
    show Steps p.tables e below (s₁.setTop (mkF m 39 #[.val (.long q1), .second, .val (.long q2), .second, .val (.long q3), .second, .val (.long q4), .second, .val (.long q5), .second, .val (.int xs), .val (.long (((xs &&& (7 : Int32)) + (1 : Int32)).toInt64)), .second, .val (.long (((((xs.toUInt32 >>> ((3 : Int32) &&& 31).toUInt32).toInt32) &&& (7 : Int32)) + (1 : Int32)).toInt64)), .second, .val (.long (((((xs.toUInt32 >>> ((6 : Int32) &&& 31).toUInt32).toInt32) &&& (7 : Int32)) + (1 : Int32)).toInt64)), .second, .unset, .unset, .unset, .unset, .unset, .unset, .unset, .unset, .unset, .unset, .unset, .unset, .unset, .unset, .unset, .unset, .unset] [(.int (9 : Int32)), (.int xs)])) _
    refine XS.iushr X0.here hx rfl (hb hby at_39) rfl ?_
    show Steps p.tables e below (s₁.setTop (mkF m 40 #[.val (.long q1), .second, .val (.long q2), .second, .val (.long q3), .second, .val (.long q4), .second, .val (.long q5), .second, .val (.int xs), .val (.long (((xs &&& (7 : Int32)) + (1 : Int32)).toInt64)), .second, .val (.long (((((xs.toUInt32 >>> ((3 : Int32) &&& 31).toUInt32).toInt32) &&& (7 : Int32)) + (1 : Int32)).toInt64)), .second, .val (.long (((((xs.toUInt32 >>> ((6 : Int32) &&& 31).toUInt32).toInt32) &&& (7 : Int32)) + (1 : Int32)).toInt64)), .second, .unset, .unset, .unset, .unset, .unset, .unset, .unset, .unset, .unset, .unset, .unset, .unset, .unset, .unset, .unset, .unset, .unset] [(.int ((xs.toUInt32 >>> ((9 : Int32) &&& 31).toUInt32).toInt32))])) _
    refine XS.bipush X0.here hx rfl (hb hby at_40) ?_
    show Steps p.tables e below (s₁.setTop (mkF m 42 #[.val (.long q1), .second, .val (.long q2), .second, .val (.long q3), .second, .val (.long q4), .second, .val (.long q5), .second, .val (.int xs), .val (.long (((xs &&& (7 : Int32)) + (1 : Int32)).toInt64)), .second, .val (.long (((((xs.toUInt32 >>> ((3 : Int32) &&& 31).toUInt32).toInt32) &&& (7 : Int32)) + (1 : Int32)).toInt64)), .second, .val (.long (((((xs.toUInt32 >>> ((6 : Int32) &&& 31).toUInt32).toInt32) &&& (7 : Int32)) + (1 : Int32)).toInt64)), .second, .unset, .unset, .unset, .unset, .unset, .unset, .unset, .unset, .unset, .unset, .unset, .unset, .unset, .unset, .unset, .unset, .unset] [(.int (7 : Int32)), (.int ((xs.toUInt32 >>> ((9 : Int32) &&& 31).toUInt32).toInt32))])) _
    refine XS.iand X0.here hx rfl (hb hby at_42) rfl ?_
    show Steps p.tables e below (s₁.setTop (mkF m 43 #[.val (.long q1), .second, .val (.long q2), .second, .val (.long q3), .second, .val (.long q4), .second, .val (.long q5), .second, .val (.int xs), .val (.long (((xs &&& (7 : Int32)) + (1 : Int32)).toInt64)), .second, .val (.long (((((xs.toUInt32 >>> ((3 : Int32) &&& 31).toUInt32).toInt32) &&& (7 : Int32)) + (1 : Int32)).toInt64)), .second, .val (.long (((((xs.toUInt32 >>> ((6 : Int32) &&& 31).toUInt32).toInt32) &&& (7 : Int32)) + (1 : Int32)).toInt64)), .second, .unset, .unset, .unset, .unset, .unset, .unset, .unset, .unset, .unset, .unset, .unset, .unset, .unset, .unset, .unset, .unset, .unset] [(.int (((xs.toUInt32 >>> ((9 : Int32) &&& 31).toUInt32).toInt32) &&& (7 : Int32)))])) _
    refine XS.iconst X0.here hx rfl (hb hby at_43) ?_
    show Steps p.tables e below (s₁.setTop (mkF m 44 #[.val (.long q1), .second, .val (.long q2), .second, .val (.long q3), .second, .val (.long q4), .second, .val (.long q5), .second, .val (.int xs), .val (.long (((xs &&& (7 : Int32)) + (1 : Int32)).toInt64)), .second, .val (.long (((((xs.toUInt32 >>> ((3 : Int32) &&& 31).toUInt32).toInt32) &&& (7 : Int32)) + (1 : Int32)).toInt64)), .second, .val (.long (((((xs.toUInt32 >>> ((6 : Int32) &&& 31).toUInt32).toInt32) &&& (7 : Int32)) + (1 : Int32)).toInt64)), .second, .unset, .unset, .unset, .unset, .unset, .unset, .unset, .unset, .unset, .unset, .unset, .unset, .unset, .unset, .unset, .unset, .unset] [(.int (1 : Int32)), (.int (((xs.toUInt32 >>> ((9 : Int32) &&& 31).toUInt32).toInt32) &&& (7 : Int32)))])) _
    refine XS.iadd X0.here hx rfl (hb hby at_44) rfl ?_
    show Steps p.tables e below (s₁.setTop (mkF m 45 #[.val (.long q1), .second, .val (.long q2), .second, .val (.long q3), .second, .val (.long q4), .second, .val (.long q5), .second, .val (.int xs), .val (.long (((xs &&& (7 : Int32)) + (1 : Int32)).toInt64)), .second, .val (.long (((((xs.toUInt32 >>> ((3 : Int32) &&& 31).toUInt32).toInt32) &&& (7 : Int32)) + (1 : Int32)).toInt64)), .second, .val (.long (((((xs.toUInt32 >>> ((6 : Int32) &&& 31).toUInt32).toInt32) &&& (7 : Int32)) + (1 : Int32)).toInt64)), .second, .unset, .unset, .unset, .unset, .unset, .unset, .unset, .unset, .unset, .unset, .unset, .unset, .unset, .unset, .unset, .unset, .unset] [(.int ((((xs.toUInt32 >>> ((9 : Int32) &&& 31).toUInt32).toInt32) &&& (7 : Int32)) + (1 : Int32)))])) _
    refine XS.i2l X0.here hx rfl (hb hby at_45) rfl ?_
    show Steps p.tables e below (s₁.setTop (mkF m 46 #[.val (.long q1), .second, .val (.long q2), .second, .val (.long q3), .second, .val (.long q4), .second, .val (.long q5), .second, .val (.int xs), .val (.long (((xs &&& (7 : Int32)) + (1 : Int32)).toInt64)), .second, .val (.long (((((xs.toUInt32 >>> ((3 : Int32) &&& 31).toUInt32).toInt32) &&& (7 : Int32)) + (1 : Int32)).toInt64)), .second, .val (.long (((((xs.toUInt32 >>> ((6 : Int32) &&& 31).toUInt32).toInt32) &&& (7 : Int32)) + (1 : Int32)).toInt64)), .second, .unset, .unset, .unset, .unset, .unset, .unset, .unset, .unset, .unset, .unset, .unset, .unset, .unset, .unset, .unset, .unset, .unset] [(.long (((((xs.toUInt32 >>> ((9 : Int32) &&& 31).toUInt32).toInt32) &&& (7 : Int32)) + (1 : Int32)).toInt64))])) _
    refine XS.lstore X0.here hx rfl (hb hby at_46) rfl (l' := #[.val (.long q1), .second, .val (.long q2), .second, .val (.long q3), .second, .val (.long q4), .second, .val (.long q5), .second, .val (.int xs), .val (.long (((xs &&& (7 : Int32)) + (1 : Int32)).toInt64)), .second, .val (.long (((((xs.toUInt32 >>> ((3 : Int32) &&& 31).toUInt32).toInt32) &&& (7 : Int32)) + (1 : Int32)).toInt64)), .second, .val (.long (((((xs.toUInt32 >>> ((6 : Int32) &&& 31).toUInt32).toInt32) &&& (7 : Int32)) + (1 : Int32)).toInt64)), .second, .val (.long (((((xs.toUInt32 >>> ((9 : Int32) &&& 31).toUInt32).toInt32) &&& (7 : Int32)) + (1 : Int32)).toInt64)), .second, .unset, .unset, .unset, .unset, .unset, .unset, .unset, .unset, .unset, .unset, .unset, .unset, .unset, .unset, .unset]) rfl ?_
    show Steps p.tables e below (s₁.setTop (mkF m 48 #[.val (.long q1), .second, .val (.long q2), .second, .val (.long q3), .second, .val (.long q4), .second, .val (.long q5), .second, .val (.int xs), .val (.long (((xs &&& (7 : Int32)) + (1 : Int32)).toInt64)), .second, .val (.long (((((xs.toUInt32 >>> ((3 : Int32) &&& 31).toUInt32).toInt32) &&& (7 : Int32)) + (1 : Int32)).toInt64)), .second, .val (.long (((((xs.toUInt32 >>> ((6 : Int32) &&& 31).toUInt32).toInt32) &&& (7 : Int32)) + (1 : Int32)).toInt64)), .second, .val (.long (((((xs.toUInt32 >>> ((9 : Int32) &&& 31).toUInt32).toInt32) &&& (7 : Int32)) + (1 : Int32)).toInt64)), .second, .unset, .unset, .unset, .unset, .unset, .unset, .unset, .unset, .unset, .unset, .unset, .unset, .unset, .unset, .unset] [])) _
    refine castTop (g' := (mkF m 48 #[.val (.long q1), .second, .val (.long q2), .second, .val (.long q3), .second, .val (.long q4), .second, .val (.long q5), .second, .val (.int xs), .val (.long p1), .second, .val (.long (((((xs.toUInt32 >>> ((3 : Int32) &&& 31).toUInt32).toInt32) &&& (7 : Int32)) + (1 : Int32)).toInt64)), .second, .val (.long (((((xs.toUInt32 >>> ((6 : Int32) &&& 31).toUInt32).toInt32) &&& (7 : Int32)) + (1 : Int32)).toInt64)), .second, .val (.long (((((xs.toUInt32 >>> ((9 : Int32) &&& 31).toUInt32).toInt32) &&& (7 : Int32)) + (1 : Int32)).toInt64)), .second, .unset, .unset, .unset, .unset, .unset, .unset, .unset, .unset, .unset, .unset, .unset, .unset, .unset, .unset, .unset] [])) (by rw [hp1]) ?_
    show Steps p.tables e below (s₁.setTop (mkF m 48 #[.val (.long q1), .second, .val (.long q2), .second, .val (.long q3), .second, .val (.long q4), .second, .val (.long q5), .second, .val (.int xs), .val (.long p1), .second, .val (.long (((((xs.toUInt32 >>> ((3 : Int32) &&& 31).toUInt32).toInt32) &&& (7 : Int32)) + (1 : Int32)).toInt64)), .second, .val (.long (((((xs.toUInt32 >>> ((6 : Int32) &&& 31).toUInt32).toInt32) &&& (7 : Int32)) + (1 : Int32)).toInt64)), .second, .val (.long (((((xs.toUInt32 >>> ((9 : Int32) &&& 31).toUInt32).toInt32) &&& (7 : Int32)) + (1 : Int32)).toInt64)), .second, .unset, .unset, .unset, .unset, .unset, .unset, .unset, .unset, .unset, .unset, .unset, .unset, .unset, .unset, .unset] [])) _
    refine castTop (g' := (mkF m 48 #[.val (.long q1), .second, .val (.long q2), .second, .val (.long q3), .second, .val (.long q4), .second, .val (.long q5), .second, .val (.int xs), .val (.long p1), .second, .val (.long p2), .second, .val (.long (((((xs.toUInt32 >>> ((6 : Int32) &&& 31).toUInt32).toInt32) &&& (7 : Int32)) + (1 : Int32)).toInt64)), .second, .val (.long (((((xs.toUInt32 >>> ((9 : Int32) &&& 31).toUInt32).toInt32) &&& (7 : Int32)) + (1 : Int32)).toInt64)), .second, .unset, .unset, .unset, .unset, .unset, .unset, .unset, .unset, .unset, .unset, .unset, .unset, .unset, .unset, .unset] [])) (by rw [hp2]) ?_
    show Steps p.tables e below (s₁.setTop (mkF m 48 #[.val (.long q1), .second, .val (.long q2), .second, .val (.long q3), .second, .val (.long q4), .second, .val (.long q5), .second, .val (.int xs), .val (.long p1), .second, .val (.long p2), .second, .val (.long (((((xs.toUInt32 >>> ((6 : Int32) &&& 31).toUInt32).toInt32) &&& (7 : Int32)) + (1 : Int32)).toInt64)), .second, .val (.long (((((xs.toUInt32 >>> ((9 : Int32) &&& 31).toUInt32).toInt32) &&& (7 : Int32)) + (1 : Int32)).toInt64)), .second, .unset, .unset, .unset, .unset, .unset, .unset, .unset, .unset, .unset, .unset, .unset, .unset, .unset, .unset, .unset] [])) _
    refine castTop (g' := (mkF m 48 #[.val (.long q1), .second, .val (.long q2), .second, .val (.long q3), .second, .val (.long q4), .second, .val (.long q5), .second, .val (.int xs), .val (.long p1), .second, .val (.long p2), .second, .val (.long p3), .second, .val (.long (((((xs.toUInt32 >>> ((9 : Int32) &&& 31).toUInt32).toInt32) &&& (7 : Int32)) + (1 : Int32)).toInt64)), .second, .unset, .unset, .unset, .unset, .unset, .unset, .unset, .unset, .unset, .unset, .unset, .unset, .unset, .unset, .unset] [])) (by rw [hp3]) ?_
    show Steps p.tables e below (s₁.setTop (mkF m 48 #[.val (.long q1), .second, .val (.long q2), .second, .val (.long q3), .second, .val (.long q4), .second, .val (.long q5), .second, .val (.int xs), .val (.long p1), .second, .val (.long p2), .second, .val (.long p3), .second, .val (.long (((((xs.toUInt32 >>> ((9 : Int32) &&& 31).toUInt32).toInt32) &&& (7 : Int32)) + (1 : Int32)).toInt64)), .second, .unset, .unset, .unset, .unset, .unset, .unset, .unset, .unset, .unset, .unset, .unset, .unset, .unset, .unset, .unset] [])) _
    refine castTop (g' := (mkF m 48 #[.val (.long q1), .second, .val (.long q2), .second, .val (.long q3), .second, .val (.long q4), .second, .val (.long q5), .second, .val (.int xs), .val (.long p1), .second, .val (.long p2), .second, .val (.long p3), .second, .val (.long p4), .second, .unset, .unset, .unset, .unset, .unset, .unset, .unset, .unset, .unset, .unset, .unset, .unset, .unset, .unset, .unset] [])) (by rw [hp4]) ?_
    show Steps p.tables e below (s₁.setTop (mkF m 48 #[.val (.long q1), .second, .val (.long q2), .second, .val (.long q3), .second, .val (.long q4), .second, .val (.long q5), .second, .val (.int xs), .val (.long p1), .second, .val (.long p2), .second, .val (.long p3), .second, .val (.long p4), .second, .unset, .unset, .unset, .unset, .unset, .unset, .unset, .unset, .unset, .unset, .unset, .unset, .unset, .unset, .unset] [])) _
    refine XS.lloadN X0.here hx rfl (hb hby at_48) rfl ?_
    show Steps p.tables e below (s₁.setTop (mkF m 49 #[.val (.long q1), .second, .val (.long q2), .second, .val (.long q3), .second, .val (.long q4), .second, .val (.long q5), .second, .val (.int xs), .val (.long p1), .second, .val (.long p2), .second, .val (.long p3), .second, .val (.long p4), .second, .unset, .unset, .unset, .unset, .unset, .unset, .unset, .unset, .unset, .unset, .unset, .unset, .unset, .unset, .unset] [(.long q1)])) _
    refine XS.lstore X0.here hx rfl (hb hby at_49) rfl (l' := #[.val (.long q1), .second, .val (.long q2), .second, .val (.long q3), .second, .val (.long q4), .second, .val (.long q5), .second, .val (.int xs), .val (.long p1), .second, .val (.long p2), .second, .val (.long p3), .second, .val (.long p4), .second, .val (.long q1), .second, .unset, .unset, .unset, .unset, .unset, .unset, .unset, .unset, .unset, .unset, .unset, .unset, .unset]) rfl ?_
    show Steps p.tables e below (s₁.setTop (mkF m 51 #[.val (.long q1), .second, .val (.long q2), .second, .val (.long q3), .second, .val (.long q4), .second, .val (.long q5), .second, .val (.int xs), .val (.long p1), .second, .val (.long p2), .second, .val (.long p3), .second, .val (.long p4), .second, .val (.long q1), .second, .unset, .unset, .unset, .unset, .unset, .unset, .unset, .unset, .unset, .unset, .unset, .unset, .unset] [])) _
    refine XS.lloadN X0.here hx rfl (hb hby at_51) rfl ?_
    show Steps p.tables e below (s₁.setTop (mkF m 52 #[.val (.long q1), .second, .val (.long q2), .second, .val (.long q3), .second, .val (.long q4), .second, .val (.long q5), .second, .val (.int xs), .val (.long p1), .second, .val (.long p2), .second, .val (.long p3), .second, .val (.long p4), .second, .val (.long q1), .second, .unset, .unset, .unset, .unset, .unset, .unset, .unset, .unset, .unset, .unset, .unset, .unset, .unset] [(.long q2)])) _
    refine XS.lstore X0.here hx rfl (hb hby at_52) rfl (l' := #[.val (.long q1), .second, .val (.long q2), .second, .val (.long q3), .second, .val (.long q4), .second, .val (.long q5), .second, .val (.int xs), .val (.long p1), .second, .val (.long p2), .second, .val (.long p3), .second, .val (.long p4), .second, .val (.long q1), .second, .val (.long q2), .second, .unset, .unset, .unset, .unset, .unset, .unset, .unset, .unset, .unset, .unset, .unset]) rfl ?_
    show Steps p.tables e below (s₁.setTop (mkF m 54 #[.val (.long q1), .second, .val (.long q2), .second, .val (.long q3), .second, .val (.long q4), .second, .val (.long q5), .second, .val (.int xs), .val (.long p1), .second, .val (.long p2), .second, .val (.long p3), .second, .val (.long p4), .second, .val (.long q1), .second, .val (.long q2), .second, .unset, .unset, .unset, .unset, .unset, .unset, .unset, .unset, .unset, .unset, .unset] [])) _
    refine XS.lload X0.here hx rfl (hb hby at_54) rfl ?_
    show Steps p.tables e below (s₁.setTop (mkF m 56 #[.val (.long q1), .second, .val (.long q2), .second, .val (.long q3), .second, .val (.long q4), .second, .val (.long q5), .second, .val (.int xs), .val (.long p1), .second, .val (.long p2), .second, .val (.long p3), .second, .val (.long p4), .second, .val (.long q1), .second, .val (.long q2), .second, .unset, .unset, .unset, .unset, .unset, .unset, .unset, .unset, .unset, .unset, .unset] [(.long q3)])) _
    refine XS.lstore X0.here hx rfl (hb hby at_56) rfl (l' := #[.val (.long q1), .second, .val (.long q2), .second, .val (.long q3), .second, .val (.long q4), .second, .val (.long q5), .second, .val (.int xs), .val (.long p1), .second, .val (.long p2), .second, .val (.long p3), .second, .val (.long p4), .second, .val (.long q1), .second, .val (.long q2), .second, .val (.long q3), .second, .unset, .unset, .unset, .unset, .unset, .unset, .unset, .unset, .unset]) rfl ?_
    show Steps p.tables e below (s₁.setTop (mkF m 58 #[.val (.long q1), .second, .val (.long q2), .second, .val (.long q3), .second, .val (.long q4), .second, .val (.long q5), .second, .val (.int xs), .val (.long p1), .second, .val (.long p2), .second, .val (.long p3), .second, .val (.long p4), .second, .val (.long q1), .second, .val (.long q2), .second, .val (.long q3), .second, .unset, .unset, .unset, .unset, .unset, .unset, .unset, .unset, .unset] [])) _
    refine XS.lload X0.here hx rfl (hb hby at_58) rfl ?_
    show Steps p.tables e below (s₁.setTop (mkF m 60 #[.val (.long q1), .second, .val (.long q2), .second, .val (.long q3), .second, .val (.long q4), .second, .val (.long q5), .second, .val (.int xs), .val (.long p1), .second, .val (.long p2), .second, .val (.long p3), .second, .val (.long p4), .second, .val (.long q1), .second, .val (.long q2), .second, .val (.long q3), .second, .unset, .unset, .unset, .unset, .unset, .unset, .unset, .unset, .unset] [(.long q4)])) _
    refine XS.lstore X0.here hx rfl (hb hby at_60) rfl (l' := #[.val (.long q1), .second, .val (.long q2), .second, .val (.long q3), .second, .val (.long q4), .second, .val (.long q5), .second, .val (.int xs), .val (.long p1), .second, .val (.long p2), .second, .val (.long p3), .second, .val (.long p4), .second, .val (.long q1), .second, .val (.long q2), .second, .val (.long q3), .second, .val (.long q4), .second, .unset, .unset, .unset, .unset, .unset, .unset, .unset]) rfl ?_
    show Steps p.tables e below (s₁.setTop (mkF m 62 #[.val (.long q1), .second, .val (.long q2), .second, .val (.long q3), .second, .val (.long q4), .second, .val (.long q5), .second, .val (.int xs), .val (.long p1), .second, .val (.long p2), .second, .val (.long p3), .second, .val (.long p4), .second, .val (.long q1), .second, .val (.long q2), .second, .val (.long q3), .second, .val (.long q4), .second, .unset, .unset, .unset, .unset, .unset, .unset, .unset] [])) _
    refine XS.iload X0.here hx rfl (hb hby at_62) rfl ?_
    show Steps p.tables e below (s₁.setTop (mkF m 64 #[.val (.long q1), .second, .val (.long q2), .second, .val (.long q3), .second, .val (.long q4), .second, .val (.long q5), .second, .val (.int xs), .val (.long p1), .second, .val (.long p2), .second, .val (.long p3), .second, .val (.long p4), .second, .val (.long q1), .second, .val (.long q2), .second, .val (.long q3), .second, .val (.long q4), .second, .unset, .unset, .unset, .unset, .unset, .unset, .unset] [(.int xs)])) _
    refine XS.bipush X0.here hx rfl (hb hby at_64) ?_
    show Steps p.tables e below (s₁.setTop (mkF m 66 #[.val (.long q1), .second, .val (.long q2), .second, .val (.long q3), .second, .val (.long q4), .second, .val (.long q5), .second, .val (.int xs), .val (.long p1), .second, .val (.long p2), .second, .val (.long p3), .second, .val (.long p4), .second, .val (.long q1), .second, .val (.long q2), .second, .val (.long q3), .second, .val (.long q4), .second, .unset, .unset, .unset, .unset, .unset, .unset, .unset] [(.int (12 : Int32)), (.int xs)])) _
    refine XS.iushr X0.here hx rfl (hb hby at_66) rfl ?_
    show Steps p.tables e below (s₁.setTop (mkF m 67 #[.val (.long q1), .second, .val (.long q2), .second, .val (.long q3), .second, .val (.long q4), .second, .val (.long q5), .second, .val (.int xs), .val (.long p1), .second, .val (.long p2), .second, .val (.long p3), .second, .val (.long p4), .second, .val (.long q1), .second, .val (.long q2), .second, .val (.long q3), .second, .val (.long q4), .second, .unset, .unset, .unset, .unset, .unset, .unset, .unset] [(.int ((xs.toUInt32 >>> ((12 : Int32) &&& 31).toUInt32).toInt32))])) _
    refine XS.iconst X0.here hx rfl (hb hby at_67) ?_
    show Steps p.tables e below (s₁.setTop (mkF m 68 #[.val (.long q1), .second, .val (.long q2), .second, .val (.long q3), .second, .val (.long q4), .second, .val (.long q5), .second, .val (.int xs), .val (.long p1), .second, .val (.long p2), .second, .val (.long p3), .second, .val (.long p4), .second, .val (.long q1), .second, .val (.long q2), .second, .val (.long q3), .second, .val (.long q4), .second, .unset, .unset, .unset, .unset, .unset, .unset, .unset] [(.int (1 : Int32)), (.int ((xs.toUInt32 >>> ((12 : Int32) &&& 31).toUInt32).toInt32))])) _
    refine XS.iand X0.here hx rfl (hb hby at_68) rfl ?_
    show Steps p.tables e below (s₁.setTop (mkF m 69 #[.val (.long q1), .second, .val (.long q2), .second, .val (.long q3), .second, .val (.long q4), .second, .val (.long q5), .second, .val (.int xs), .val (.long p1), .second, .val (.long p2), .second, .val (.long p3), .second, .val (.long p4), .second, .val (.long q1), .second, .val (.long q2), .second, .val (.long q3), .second, .val (.long q4), .second, .unset, .unset, .unset, .unset, .unset, .unset, .unset] [(.int (((xs.toUInt32 >>> ((12 : Int32) &&& 31).toUInt32).toInt32) &&& (1 : Int32)))])) _
    refine jn844 _ ?_
    show Steps p.tables e below (s₁.setTop (mkF m 76 #[.val (.long q1), .second, .val (.long q2), .second, .val (.long q3), .second, .val (.long q4), .second, .val (.long q5), .second, .val (.int xs), .val (.long p1), .second, .val (.long p2), .second, .val (.long p3), .second, .val (.long p4), .second, .val (.long q1), .second, .val (.long vb845), .second, .val (.long q3), .second, .val (.long q4), .second, .unset, .unset, .unset, .unset, .unset, .unset, .unset] [])) _
    refine XS.iload X0.here hx rfl (hb hby at_76) rfl ?_
    show Steps p.tables e below (s₁.setTop (mkF m 78 #[.val (.long q1), .second, .val (.long q2), .second, .val (.long q3), .second, .val (.long q4), .second, .val (.long q5), .second, .val (.int xs), .val (.long p1), .second, .val (.long p2), .second, .val (.long p3), .second, .val (.long p4), .second, .val (.long q1), .second, .val (.long vb845), .second, .val (.long q3), .second, .val (.long q4), .second, .unset, .unset, .unset, .unset, .unset, .unset, .unset] [(.int xs)])) _
    refine XS.bipush X0.here hx rfl (hb hby at_78) ?_
    show Steps p.tables e below (s₁.setTop (mkF m 80 #[.val (.long q1), .second, .val (.long q2), .second, .val (.long q3), .second, .val (.long q4), .second, .val (.long q5), .second, .val (.int xs), .val (.long p1), .second, .val (.long p2), .second, .val (.long p3), .second, .val (.long p4), .second, .val (.long q1), .second, .val (.long vb845), .second, .val (.long q3), .second, .val (.long q4), .second, .unset, .unset, .unset, .unset, .unset, .unset, .unset] [(.int (13 : Int32)), (.int xs)])) _
    refine XS.iushr X0.here hx rfl (hb hby at_80) rfl ?_
    show Steps p.tables e below (s₁.setTop (mkF m 81 #[.val (.long q1), .second, .val (.long q2), .second, .val (.long q3), .second, .val (.long q4), .second, .val (.long q5), .second, .val (.int xs), .val (.long p1), .second, .val (.long p2), .second, .val (.long p3), .second, .val (.long p4), .second, .val (.long q1), .second, .val (.long vb845), .second, .val (.long q3), .second, .val (.long q4), .second, .unset, .unset, .unset, .unset, .unset, .unset, .unset] [(.int ((xs.toUInt32 >>> ((13 : Int32) &&& 31).toUInt32).toInt32))])) _
    refine XS.iconst X0.here hx rfl (hb hby at_81) ?_
    show Steps p.tables e below (s₁.setTop (mkF m 82 #[.val (.long q1), .second, .val (.long q2), .second, .val (.long q3), .second, .val (.long q4), .second, .val (.long q5), .second, .val (.int xs), .val (.long p1), .second, .val (.long p2), .second, .val (.long p3), .second, .val (.long p4), .second, .val (.long q1), .second, .val (.long vb845), .second, .val (.long q3), .second, .val (.long q4), .second, .unset, .unset, .unset, .unset, .unset, .unset, .unset] [(.int (1 : Int32)), (.int ((xs.toUInt32 >>> ((13 : Int32) &&& 31).toUInt32).toInt32))])) _
    refine XS.iand X0.here hx rfl (hb hby at_82) rfl ?_
    show Steps p.tables e below (s₁.setTop (mkF m 83 #[.val (.long q1), .second, .val (.long q2), .second, .val (.long q3), .second, .val (.long q4), .second, .val (.long q5), .second, .val (.int xs), .val (.long p1), .second, .val (.long p2), .second, .val (.long p3), .second, .val (.long p4), .second, .val (.long q1), .second, .val (.long vb845), .second, .val (.long q3), .second, .val (.long q4), .second, .unset, .unset, .unset, .unset, .unset, .unset, .unset] [(.int (((xs.toUInt32 >>> ((13 : Int32) &&& 31).toUInt32).toInt32) &&& (1 : Int32)))])) _
    refine jn847 _ ?_
    show Steps p.tables e below (s₁.setTop (mkF m 90 #[.val (.long q1), .second, .val (.long q2), .second, .val (.long q3), .second, .val (.long q4), .second, .val (.long q5), .second, .val (.int xs), .val (.long p1), .second, .val (.long p2), .second, .val (.long p3), .second, .val (.long p4), .second, .val (.long q1), .second, .val (.long vb845), .second, .val (.long vc848), .second, .val (.long q4), .second, .unset, .unset, .unset, .unset, .unset, .unset, .unset] [])) _
    refine XS.iload X0.here hx rfl (hb hby at_90) rfl ?_
    show Steps p.tables e below (s₁.setTop (mkF m 92 #[.val (.long q1), .second, .val (.long q2), .second, .val (.long q3), .second, .val (.long q4), .second, .val (.long q5), .second, .val (.int xs), .val (.long p1), .second, .val (.long p2), .second, .val (.long p3), .second, .val (.long p4), .second, .val (.long q1), .second, .val (.long vb845), .second, .val (.long vc848), .second, .val (.long q4), .second, .unset, .unset, .unset, .unset, .unset, .unset, .unset] [(.int xs)])) _
    refine XS.bipush X0.here hx rfl (hb hby at_92) ?_
    show Steps p.tables e below (s₁.setTop (mkF m 94 #[.val (.long q1), .second, .val (.long q2), .second, .val (.long q3), .second, .val (.long q4), .second, .val (.long q5), .second, .val (.int xs), .val (.long p1), .second, .val (.long p2), .second, .val (.long p3), .second, .val (.long p4), .second, .val (.long q1), .second, .val (.long vb845), .second, .val (.long vc848), .second, .val (.long q4), .second, .unset, .unset, .unset, .unset, .unset, .unset, .unset] [(.int (14 : Int32)), (.int xs)])) _
    refine XS.iushr X0.here hx rfl (hb hby at_94) rfl ?_
    show Steps p.tables e below (s₁.setTop (mkF m 95 #[.val (.long q1), .second, .val (.long q2), .second, .val (.long q3), .second, .val (.long q4), .second, .val (.long q5), .second, .val (.int xs), .val (.long p1), .second, .val (.long p2), .second, .val (.long p3), .second, .val (.long p4), .second, .val (.long q1), .second, .val (.long vb845), .second, .val (.long vc848), .second, .val (.long q4), .second, .unset, .unset, .unset, .unset, .unset, .unset, .unset] [(.int ((xs.toUInt32 >>> ((14 : Int32) &&& 31).toUInt32).toInt32))])) _
    refine XS.iconst X0.here hx rfl (hb hby at_95) ?_
    show Steps p.tables e below (s₁.setTop (mkF m 96 #[.val (.long q1), .second, .val (.long q2), .second, .val (.long q3), .second, .val (.long q4), .second, .val (.long q5), .second, .val (.int xs), .val (.long p1), .second, .val (.long p2), .second, .val (.long p3), .second, .val (.long p4), .second, .val (.long q1), .second, .val (.long vb845), .second, .val (.long vc848), .second, .val (.long q4), .second, .unset, .unset, .unset, .unset, .unset, .unset, .unset] [(.int (1 : Int32)), (.int ((xs.toUInt32 >>> ((14 : Int32) &&& 31).toUInt32).toInt32))])) _
    refine XS.iand X0.here hx rfl (hb hby at_96) rfl ?_
    show Steps p.tables e below (s₁.setTop (mkF m 97 #[.val (.long q1), .second, .val (.long q2), .second, .val (.long q3), .second, .val (.long q4), .second, .val (.long q5), .second, .val (.int xs), .val (.long p1), .second, .val (.long p2), .second, .val (.long p3), .second, .val (.long p4), .second, .val (.long q1), .second, .val (.long vb845), .second, .val (.long vc848), .second, .val (.long q4), .second, .unset, .unset, .unset, .unset, .unset, .unset, .unset] [(.int (((xs.toUInt32 >>> ((14 : Int32) &&& 31).toUInt32).toInt32) &&& (1 : Int32)))])) _
    refine jn850 _ ?_
    show Steps p.tables e below (s₁.setTop (mkF m 104 #[.val (.long q1), .second, .val (.long q2), .second, .val (.long q3), .second, .val (.long q4), .second, .val (.long q5), .second, .val (.int xs), .val (.long p1), .second, .val (.long p2), .second, .val (.long p3), .second, .val (.long p4), .second, .val (.long q1), .second, .val (.long vb845), .second, .val (.long vc848), .second, .val (.long vd851), .second, .unset, .unset, .unset, .unset, .unset, .unset, .unset] [])) _
    refine XS.iload X0.here hx rfl (hb hby at_104) rfl ?_
    show Steps p.tables e below (s₁.setTop (mkF m 106 #[.val (.long q1), .second, .val (.long q2), .second, .val (.long q3), .second, .val (.long q4), .second, .val (.long q5), .second, .val (.int xs), .val (.long p1), .second, .val (.long p2), .second, .val (.long p3), .second, .val (.long p4), .second, .val (.long q1), .second, .val (.long vb845), .second, .val (.long vc848), .second, .val (.long vd851), .second, .unset, .unset, .unset, .unset, .unset, .unset, .unset] [(.int xs)])) _
    refine XS.bipush X0.here hx rfl (hb hby at_106) ?_
    show Steps p.tables e below (s₁.setTop (mkF m 108 #[.val (.long q1), .second, .val (.long q2), .second, .val (.long q3), .second, .val (.long q4), .second, .val (.long q5), .second, .val (.int xs), .val (.long p1), .second, .val (.long p2), .second, .val (.long p3), .second, .val (.long p4), .second, .val (.long q1), .second, .val (.long vb845), .second, .val (.long vc848), .second, .val (.long vd851), .second, .unset, .unset, .unset, .unset, .unset, .unset, .unset] [(.int (15 : Int32)), (.int xs)])) _
    refine XS.iushr X0.here hx rfl (hb hby at_108) rfl ?_
    show Steps p.tables e below (s₁.setTop (mkF m 109 #[.val (.long q1), .second, .val (.long q2), .second, .val (.long q3), .second, .val (.long q4), .second, .val (.long q5), .second, .val (.int xs), .val (.long p1), .second, .val (.long p2), .second, .val (.long p3), .second, .val (.long p4), .second, .val (.long q1), .second, .val (.long vb845), .second, .val (.long vc848), .second, .val (.long vd851), .second, .unset, .unset, .unset, .unset, .unset, .unset, .unset] [(.int ((xs.toUInt32 >>> ((15 : Int32) &&& 31).toUInt32).toInt32))])) _
    refine XS.bipush X0.here hx rfl (hb hby at_109) ?_
    show Steps p.tables e below (s₁.setTop (mkF m 111 #[.val (.long q1), .second, .val (.long q2), .second, .val (.long q3), .second, .val (.long q4), .second, .val (.long q5), .second, .val (.int xs), .val (.long p1), .second, .val (.long p2), .second, .val (.long p3), .second, .val (.long p4), .second, .val (.long q1), .second, .val (.long vb845), .second, .val (.long vc848), .second, .val (.long vd851), .second, .unset, .unset, .unset, .unset, .unset, .unset, .unset] [(.int (7 : Int32)), (.int ((xs.toUInt32 >>> ((15 : Int32) &&& 31).toUInt32).toInt32))])) _
    refine XS.iand X0.here hx rfl (hb hby at_111) rfl ?_
    show Steps p.tables e below (s₁.setTop (mkF m 112 #[.val (.long q1), .second, .val (.long q2), .second, .val (.long q3), .second, .val (.long q4), .second, .val (.long q5), .second, .val (.int xs), .val (.long p1), .second, .val (.long p2), .second, .val (.long p3), .second, .val (.long p4), .second, .val (.long q1), .second, .val (.long vb845), .second, .val (.long vc848), .second, .val (.long vd851), .second, .unset, .unset, .unset, .unset, .unset, .unset, .unset] [(.int (((xs.toUInt32 >>> ((15 : Int32) &&& 31).toUInt32).toInt32) &&& (7 : Int32)))])) _
    refine XS.istore X0.here hx rfl (hb hby at_112) rfl (l' := #[.val (.long q1), .second, .val (.long q2), .second, .val (.long q3), .second, .val (.long q4), .second, .val (.long q5), .second, .val (.int xs), .val (.long p1), .second, .val (.long p2), .second, .val (.long p3), .second, .val (.long p4), .second, .val (.long q1), .second, .val (.long vb845), .second, .val (.long vc848), .second, .val (.long vd851), .second, .val (.int (((xs.toUInt32 >>> ((15 : Int32) &&& 31).toUInt32).toInt32) &&& (7 : Int32))), .unset, .unset, .unset, .unset, .unset, .unset]) rfl ?_
    show Steps p.tables e below (s₁.setTop (mkF m 114 #[.val (.long q1), .second, .val (.long q2), .second, .val (.long q3), .second, .val (.long q4), .second, .val (.long q5), .second, .val (.int xs), .val (.long p1), .second, .val (.long p2), .second, .val (.long p3), .second, .val (.long p4), .second, .val (.long q1), .second, .val (.long vb845), .second, .val (.long vc848), .second, .val (.long vd851), .second, .val (.int (((xs.toUInt32 >>> ((15 : Int32) &&& 31).toUInt32).toInt32) &&& (7 : Int32))), .unset, .unset, .unset, .unset, .unset, .unset] [])) _
    refine castTop (g' := (mkF m 114 #[.val (.long q1), .second, .val (.long q2), .second, .val (.long q3), .second, .val (.long q4), .second, .val (.long q5), .second, .val (.int xs), .val (.long p1), .second, .val (.long p2), .second, .val (.long p3), .second, .val (.long p4), .second, .val (.long q1), .second, .val (.long vb845), .second, .val (.long vc848), .second, .val (.long vd851), .second, .val (.int pk), .unset, .unset, .unset, .unset, .unset, .unset] [])) (by rw [hpk]) ?_
    show Steps p.tables e below (s₁.setTop (mkF m 114 #[.val (.long q1), .second, .val (.long q2), .second, .val (.long q3), .second, .val (.long q4), .second, .val (.long q5), .second, .val (.int xs), .val (.long p1), .second, .val (.long p2), .second, .val (.long p3), .second, .val (.long p4), .second, .val (.long q1), .second, .val (.long vb845), .second, .val (.long vc848), .second, .val (.long vd851), .second, .val (.int pk), .unset, .unset, .unset, .unset, .unset, .unset] [])) _
    refine XS.lload X0.here hx rfl (hb hby at_114) rfl ?_
    show Steps p.tables e below (s₁.setTop (mkF m 116 #[.val (.long q1), .second, .val (.long q2), .second, .val (.long q3), .second, .val (.long q4), .second, .val (.long q5), .second, .val (.int xs), .val (.long p1), .second, .val (.long p2), .second, .val (.long p3), .second, .val (.long p4), .second, .val (.long q1), .second, .val (.long vb845), .second, .val (.long vc848), .second, .val (.long vd851), .second, .val (.int pk), .unset, .unset, .unset, .unset, .unset, .unset] [(.long q5)])) _
    refine XS.lstore X0.here hx rfl (hb hby at_116) rfl (l' := #[.val (.long q1), .second, .val (.long q2), .second, .val (.long q3), .second, .val (.long q4), .second, .val (.long q5), .second, .val (.int xs), .val (.long p1), .second, .val (.long p2), .second, .val (.long p3), .second, .val (.long p4), .second, .val (.long q1), .second, .val (.long vb845), .second, .val (.long vc848), .second, .val (.long vd851), .second, .val (.int pk), .val (.long q5), .second, .unset, .unset, .unset, .unset]) rfl ?_
    show Steps p.tables e below (s₁.setTop (mkF m 118 #[.val (.long q1), .second, .val (.long q2), .second, .val (.long q3), .second, .val (.long q4), .second, .val (.long q5), .second, .val (.int xs), .val (.long p1), .second, .val (.long p2), .second, .val (.long p3), .second, .val (.long p4), .second, .val (.long q1), .second, .val (.long vb845), .second, .val (.long vc848), .second, .val (.long vd851), .second, .val (.int pk), .val (.long q5), .second, .unset, .unset, .unset, .unset] [])) _
    refine XS.iload X0.here hx rfl (hb hby at_118) rfl ?_
    show Steps p.tables e below (s₁.setTop (mkF m 120 #[.val (.long q1), .second, .val (.long q2), .second, .val (.long q3), .second, .val (.long q4), .second, .val (.long q5), .second, .val (.int xs), .val (.long p1), .second, .val (.long p2), .second, .val (.long p3), .second, .val (.long p4), .second, .val (.long q1), .second, .val (.long vb845), .second, .val (.long vc848), .second, .val (.long vd851), .second, .val (.int pk), .val (.long q5), .second, .unset, .unset, .unset, .unset] [(.int pk)])) _
    refine XS.iconst X0.here hx rfl (hb hby at_120) ?_
    show Steps p.tables e below (s₁.setTop (mkF m 121 #[.val (.long q1), .second, .val (.long q2), .second, .val (.long q3), .second, .val (.long q4), .second, .val (.long q5), .second, .val (.int xs), .val (.long p1), .second, .val (.long p2), .second, .val (.long p3), .second, .val (.long p4), .second, .val (.long q1), .second, .val (.long vb845), .second, .val (.long vc848), .second, .val (.long vd851), .second, .val (.int pk), .val (.long q5), .second, .unset, .unset, .unset, .unset] [(.int (1 : Int32)), (.int pk)])) _
    refine jn863 _ ?_
    show Steps p.tables e below (s₁.setTop (mkF m 198 #[.val (.long q1), .second, .val (.long q2), .second, .val (.long q3), .second, .val (.long q4), .second, .val (.long q5), .second, .val (.int xs), .val (.long p1), .second, .val (.long p2), .second, .val (.long p3), .second, .val (.long p4), .second, .val (.long q1), .second, .val (.long vb845), .second, .val (.long vc848), .second, .val (.long vd851), .second, .val (.int pk), .val (.long vx864), .second, .unset, .unset, .unset, .unset] [])) _
    refine st865 _ ?_
    show Steps p.tables e below (T865.setTop (mkF m 201 #[.val (.long q1), .second, .val (.long q2), .second, .val (.long q3), .second, .val (.long q4), .second, .val (.long q5), .second, .val (.int xs), .val (.long p1), .second, .val (.long p2), .second, .val (.long p3), .second, .val (.long p4), .second, .val (.long q1), .second, .val (.long vb845), .second, .val (.long vc848), .second, .val (.long vd851), .second, .val (.int pk), .val (.long vx864), .second, .unset, .unset, .unset, .unset] [(.ref b865)])) _
    refine XS.dup X865.here hx rfl (hb hby at_201) rfl rfl ?_
    show Steps p.tables e below (T865.setTop (mkF m 202 #[.val (.long q1), .second, .val (.long q2), .second, .val (.long q3), .second, .val (.long q4), .second, .val (.long q5), .second, .val (.int xs), .val (.long p1), .second, .val (.long p2), .second, .val (.long p3), .second, .val (.long p4), .second, .val (.long q1), .second, .val (.long vb845), .second, .val (.long vc848), .second, .val (.long vd851), .second, .val (.int pk), .val (.long vx864), .second, .unset, .unset, .unset, .unset] [(.ref b865), (.ref b865)])) _
    refine st875.trans ?_
    show Steps p.tables e below (T875.setTop (mkF m 205 #[.val (.long q1), .second, .val (.long q2), .second, .val (.long q3), .second, .val (.long q4), .second, .val (.long q5), .second, .val (.int xs), .val (.long p1), .second, .val (.long p2), .second, .val (.long p3), .second, .val (.long p4), .second, .val (.long q1), .second, .val (.long vb845), .second, .val (.long vc848), .second, .val (.long vd851), .second, .val (.int pk), .val (.long vx864), .second, .unset, .unset, .unset, .unset] [(.ref b865)])) _
    refine XS.astore X875.here hx rfl (hb hby at_205) rfl rfl (l' := #[.val (.long q1), .second, .val (.long q2), .second, .val (.long q3), .second, .val (.long q4), .second, .val (.long q5), .second, .val (.int xs), .val (.long p1), .second, .val (.long p2), .second, .val (.long p3), .second, .val (.long p4), .second, .val (.long q1), .second, .val (.long vb845), .second, .val (.long vc848), .second, .val (.long vd851), .second, .val (.int pk), .val (.long vx864), .second, .val (.ref b865), .unset, .unset, .unset]) rfl ?_
    show Steps p.tables e below (T875.setTop (mkF m 207 #[.val (.long q1), .second, .val (.long q2), .second, .val (.long q3), .second, .val (.long q4), .second, .val (.long q5), .second, .val (.int xs), .val (.long p1), .second, .val (.long p2), .second, .val (.long p3), .second, .val (.long p4), .second, .val (.long q1), .second, .val (.long vb845), .second, .val (.long vc848), .second, .val (.long vd851), .second, .val (.int pk), .val (.long vx864), .second, .val (.ref b865), .unset, .unset, .unset] [])) _
    refine XS.aload X875.here hx rfl (hb hby at_207) rfl rfl ?_
    show Steps p.tables e below (T875.setTop (mkF m 209 #[.val (.long q1), .second, .val (.long q2), .second, .val (.long q3), .second, .val (.long q4), .second, .val (.long q5), .second, .val (.int xs), .val (.long p1), .second, .val (.long p2), .second, .val (.long p3), .second, .val (.long p4), .second, .val (.long q1), .second, .val (.long vb845), .second, .val (.long vc848), .second, .val (.long vd851), .second, .val (.int pk), .val (.long vx864), .second, .val (.ref b865), .unset, .unset, .unset] [(.ref b865)])) _
    refine XS.lload X875.here hx rfl (hb hby at_209) rfl ?_
    show Steps p.tables e below (T875.setTop (mkF m 211 #[.val (.long q1), .second, .val (.long q2), .second, .val (.long q3), .second, .val (.long q4), .second, .val (.long q5), .second, .val (.int xs), .val (.long p1), .second, .val (.long p2), .second, .val (.long p3), .second, .val (.long p4), .second, .val (.long q1), .second, .val (.long vb845), .second, .val (.long vc848), .second, .val (.long vd851), .second, .val (.int pk), .val (.long vx864), .second, .val (.ref b865), .unset, .unset, .unset] [(.long vx864), (.ref b865)])) _
    refine st879.trans ?_
    show Steps p.tables e below (T879.setTop (mkF m 214 #[.val (.long q1), .second, .val (.long q2), .second, .val (.long q3), .second, .val (.long q4), .second, .val (.long q5), .second, .val (.int xs), .val (.long p1), .second, .val (.long p2), .second, .val (.long p3), .second, .val (.long p4), .second, .val (.long q1), .second, .val (.long vb845), .second, .val (.long vc848), .second, .val (.long vd851), .second, .val (.int pk), .val (.long vx864), .second, .val (.ref b865), .unset, .unset, .unset] [(.long (own_end (0 + 1 + 1 + 1 + 1) own_S0 0 vx864 (0 : Int64)))])) _
    refine XS.lconst X879.here hx rfl (hb hby at_214) ?_
    show Steps p.tables e below (T879.setTop (mkF m 215 #[.val (.long q1), .second, .val (.long q2), .second, .val (.long q3), .second, .val (.long q4), .second, .val (.long q5), .second, .val (.int xs), .val (.long p1), .second, .val (.long p2), .second, .val (.long p3), .second, .val (.long p4), .second, .val (.long q1), .second, .val (.long vb845), .second, .val (.long vc848), .second, .val (.long vd851), .second, .val (.int pk), .val (.long vx864), .second, .val (.ref b865), .unset, .unset, .unset] [(.long (0 : Int64)), (.long (own_end (0 + 1 + 1 + 1 + 1) own_S0 0 vx864 (0 : Int64)))])) _
    refine XS.lcmp X879.here hx rfl (hb hby at_215) rfl ?_
    show Steps p.tables e below (T879.setTop (mkF m 216 #[.val (.long q1), .second, .val (.long q2), .second, .val (.long q3), .second, .val (.long q4), .second, .val (.long q5), .second, .val (.int xs), .val (.long p1), .second, .val (.long p2), .second, .val (.long p3), .second, .val (.long p4), .second, .val (.long q1), .second, .val (.long vb845), .second, .val (.long vc848), .second, .val (.long vd851), .second, .val (.int pk), .val (.long vx864), .second, .val (.ref b865), .unset, .unset, .unset] [(.int (lcmpW (own_end (0 + 1 + 1 + 1 + 1) own_S0 0 vx864 (0 : Int64)) (0 : Int64)))])) _
    refine XS.ifNo X879.here hx rfl (hb hby at_216) rfl ((if0 _ _).trans (teq ((lw_eq _ _).mpr (own_end_nil (0 + 1 + 1 + 1) _ _ rfl))).2) ?_
    show Steps p.tables e below (T879.setTop (mkF m 219 #[.val (.long q1), .second, .val (.long q2), .second, .val (.long q3), .second, .val (.long q4), .second, .val (.long q5), .second, .val (.int xs), .val (.long p1), .second, .val (.long p2), .second, .val (.long p3), .second, .val (.long p4), .second, .val (.long q1), .second, .val (.long vb845), .second, .val (.long vc848), .second, .val (.long vd851), .second, .val (.int pk), .val (.long vx864), .second, .val (.ref b865), .unset, .unset, .unset] [])) _
    refine XS.iconst X879.here hx rfl (hb hby at_219) ?_
    show Steps p.tables e below (T879.setTop (mkF m 220 #[.val (.long q1), .second, .val (.long q2), .second, .val (.long q3), .second, .val (.long q4), .second, .val (.long q5), .second, .val (.int xs), .val (.long p1), .second, .val (.long p2), .second, .val (.long p3), .second, .val (.long p4), .second, .val (.long q1), .second, .val (.long vb845), .second, .val (.long vc848), .second, .val (.long vd851), .second, .val (.int pk), .val (.long vx864), .second, .val (.ref b865), .unset, .unset, .unset] [(.int (1 : Int32))])) _
    refine XS.goto X879.here hx rfl (pc0 := 220) (pc' := 224) rfl (hb hby at_220) (by decide) (by decide) ?_
    show Steps p.tables e below (T879.setTop (mkF m 224 #[.val (.long q1), .second, .val (.long q2), .second, .val (.long q3), .second, .val (.long q4), .second, .val (.long q5), .second, .val (.int xs), .val (.long p1), .second, .val (.long p2), .second, .val (.long p3), .second, .val (.long p4), .second, .val (.long q1), .second, .val (.long vb845), .second, .val (.long vc848), .second, .val (.long vd851), .second, .val (.int pk), .val (.long vx864), .second, .val (.ref b865), .unset, .unset, .unset] [(.int (1 : Int32))])) _
    refine XS.istore X879.here hx rfl (hb hby at_224) rfl (l' := #[.val (.long q1), .second, .val (.long q2), .second, .val (.long q3), .second, .val (.long q4), .second, .val (.long q5), .second, .val (.int xs), .val (.long p1), .second, .val (.long p2), .second, .val (.long p3), .second, .val (.long p4), .second, .val (.long q1), .second, .val (.long vb845), .second, .val (.long vc848), .second, .val (.long vd851), .second, .val (.int pk), .val (.long vx864), .second, .val (.ref b865), .val (.int (1 : Int32)), .unset, .unset]) rfl ?_
    show Steps p.tables e below (T879.setTop (mkF m 226 #[.val (.long q1), .second, .val (.long q2), .second, .val (.long q3), .second, .val (.long q4), .second, .val (.long q5), .second, .val (.int xs), .val (.long p1), .second, .val (.long p2), .second, .val (.long p3), .second, .val (.long p4), .second, .val (.long q1), .second, .val (.long vb845), .second, .val (.long vc848), .second, .val (.long vd851), .second, .val (.int pk), .val (.long vx864), .second, .val (.ref b865), .val (.int (1 : Int32)), .unset, .unset] [])) _
    refine XS.aload X879.here hx rfl (hb hby at_226) rfl rfl ?_
    show Steps p.tables e below (T879.setTop (mkF m 228 #[.val (.long q1), .second, .val (.long q2), .second, .val (.long q3), .second, .val (.long q4), .second, .val (.long q5), .second, .val (.int xs), .val (.long p1), .second, .val (.long p2), .second, .val (.long p3), .second, .val (.long p4), .second, .val (.long q1), .second, .val (.long vb845), .second, .val (.long vc848), .second, .val (.long vd851), .second, .val (.int pk), .val (.long vx864), .second, .val (.ref b865), .val (.int (1 : Int32)), .unset, .unset] [(.ref b865)])) _
    refine XS.lload X879.here hx rfl (hb hby at_228) rfl ?_
    show Steps p.tables e below (T879.setTop (mkF m 230 #[.val (.long q1), .second, .val (.long q2), .second, .val (.long q3), .second, .val (.long q4), .second, .val (.long q5), .second, .val (.int xs), .val (.long p1), .second, .val (.long p2), .second, .val (.long p3), .second, .val (.long p4), .second, .val (.long q1), .second, .val (.long vb845), .second, .val (.long vc848), .second, .val (.long vd851), .second, .val (.int pk), .val (.long vx864), .second, .val (.ref b865), .val (.int (1 : Int32)), .unset, .unset] [(.long q1), (.ref b865)])) _
    refine XS.lload X879.here hx rfl (hb hby at_230) rfl ?_
    show Steps p.tables e below (T879.setTop (mkF m 232 #[.val (.long q1), .second, .val (.long q2), .second, .val (.long q3), .second, .val (.long q4), .second, .val (.long q5), .second, .val (.int xs), .val (.long p1), .second, .val (.long p2), .second, .val (.long p3), .second, .val (.long p4), .second, .val (.long q1), .second, .val (.long vb845), .second, .val (.long vc848), .second, .val (.long vd851), .second, .val (.int pk), .val (.long vx864), .second, .val (.ref b865), .val (.int (1 : Int32)), .unset, .unset] [(.long p1), (.long q1), (.ref b865)])) _
    refine st880.trans ?_
    show Steps p.tables e below (T880.setTop (mkF m 235 #[.val (.long q1), .second, .val (.long q2), .second, .val (.long q3), .second, .val (.long q4), .second, .val (.long q5), .second, .val (.int xs), .val (.long p1), .second, .val (.long p2), .second, .val (.long p3), .second, .val (.long p4), .second, .val (.long q1), .second, .val (.long vb845), .second, .val (.long vc848), .second, .val (.long vd851), .second, .val (.int pk), .val (.long vx864), .second, .val (.ref b865), .val (.int (1 : Int32)), .unset, .unset] [])) _
    refine XS.aload X880.here hx rfl (hb hby at_235) rfl rfl ?_
    show Steps p.tables e below (T880.setTop (mkF m 237 #[.val (.long q1), .second, .val (.long q2), .second, .val (.long q3), .second, .val (.long q4), .second, .val (.long q5), .second, .val (.int xs), .val (.long p1), .second, .val (.long p2), .second, .val (.long p3), .second, .val (.long p4), .second, .val (.long q1), .second, .val (.long vb845), .second, .val (.long vc848), .second, .val (.long vd851), .second, .val (.int pk), .val (.long vx864), .second, .val (.ref b865), .val (.int (1 : Int32)), .unset, .unset] [(.ref b865)])) _
    refine XS.lload X880.here hx rfl (hb hby at_237) rfl ?_
    show Steps p.tables e below (T880.setTop (mkF m 239 #[.val (.long q1), .second, .val (.long q2), .second, .val (.long q3), .second, .val (.long q4), .second, .val (.long q5), .second, .val (.int xs), .val (.long p1), .second, .val (.long p2), .second, .val (.long p3), .second, .val (.long p4), .second, .val (.long q1), .second, .val (.long vb845), .second, .val (.long vc848), .second, .val (.long vd851), .second, .val (.int pk), .val (.long vx864), .second, .val (.ref b865), .val (.int (1 : Int32)), .unset, .unset] [(.long vb845), (.ref b865)])) _
    refine XS.lload X880.here hx rfl (hb hby at_239) rfl ?_
    show Steps p.tables e below (T880.setTop (mkF m 241 #[.val (.long q1), .second, .val (.long q2), .second, .val (.long q3), .second, .val (.long q4), .second, .val (.long q5), .second, .val (.int xs), .val (.long p1), .second, .val (.long p2), .second, .val (.long p3), .second, .val (.long p4), .second, .val (.long q1), .second, .val (.long vb845), .second, .val (.long vc848), .second, .val (.long vd851), .second, .val (.int pk), .val (.long vx864), .second, .val (.ref b865), .val (.int (1 : Int32)), .unset, .unset] [(.long p2), (.long vb845), (.ref b865)])) _
    refine st883.trans ?_
    show Steps p.tables e below (T883.setTop (mkF m 244 #[.val (.long q1), .second, .val (.long q2), .second, .val (.long q3), .second, .val (.long q4), .second, .val (.long q5), .second, .val (.int xs), .val (.long p1), .second, .val (.long p2), .second, .val (.long p3), .second, .val (.long p4), .second, .val (.long q1), .second, .val (.long vb845), .second, .val (.long vc848), .second, .val (.long vd851), .second, .val (.int pk), .val (.long vx864), .second, .val (.ref b865), .val (.int (1 : Int32)), .unset, .unset] [])) _
    refine XS.aload X883.here hx rfl (hb hby at_244) rfl rfl ?_
    show Steps p.tables e below (T883.setTop (mkF m 246 #[.val (.long q1), .second, .val (.long q2), .second, .val (.long q3), .second, .val (.long q4), .second, .val (.long q5), .second, .val (.int xs), .val (.long p1), .second, .val (.long p2), .second, .val (.long p3), .second, .val (.long p4), .second, .val (.long q1), .second, .val (.long vb845), .second, .val (.long vc848), .second, .val (.long vd851), .second, .val (.int pk), .val (.long vx864), .second, .val (.ref b865), .val (.int (1 : Int32)), .unset, .unset] [(.ref b865)])) _
    refine XS.lload X883.here hx rfl (hb hby at_246) rfl ?_
    show Steps p.tables e below (T883.setTop (mkF m 248 #[.val (.long q1), .second, .val (.long q2), .second, .val (.long q3), .second, .val (.long q4), .second, .val (.long q5), .second, .val (.int xs), .val (.long p1), .second, .val (.long p2), .second, .val (.long p3), .second, .val (.long p4), .second, .val (.long q1), .second, .val (.long vb845), .second, .val (.long vc848), .second, .val (.long vd851), .second, .val (.int pk), .val (.long vx864), .second, .val (.ref b865), .val (.int (1 : Int32)), .unset, .unset] [(.long vc848), (.ref b865)])) _
    refine XS.lload X883.here hx rfl (hb hby at_248) rfl ?_
    show Steps p.tables e below (T883.setTop (mkF m 250 #[.val (.long q1), .second, .val (.long q2), .second, .val (.long q3), .second, .val (.long q4), .second, .val (.long q5), .second, .val (.int xs), .val (.long p1), .second, .val (.long p2), .second, .val (.long p3), .second, .val (.long p4), .second, .val (.long q1), .second, .val (.long vb845), .second, .val (.long vc848), .second, .val (.long vd851), .second, .val (.int pk), .val (.long vx864), .second, .val (.ref b865), .val (.int (1 : Int32)), .unset, .unset] [(.long p3), (.long vc848), (.ref b865)])) _
    refine st886.trans ?_
    show Steps p.tables e below (T886.setTop (mkF m 253 #[.val (.long q1), .second, .val (.long q2), .second, .val (.long q3), .second, .val (.long q4), .second, .val (.long q5), .second, .val (.int xs), .val (.long p1), .second, .val (.long p2), .second, .val (.long p3), .second, .val (.long p4), .second, .val (.long q1), .second, .val (.long vb845), .second, .val (.long vc848), .second, .val (.long vd851), .second, .val (.int pk), .val (.long vx864), .second, .val (.ref b865), .val (.int (1 : Int32)), .unset, .unset] [])) _
    refine XS.aload X886.here hx rfl (hb hby at_253) rfl rfl ?_
    show Steps p.tables e below (T886.setTop (mkF m 255 #[.val (.long q1), .second, .val (.long q2), .second, .val (.long q3), .second, .val (.long q4), .second, .val (.long q5), .second, .val (.int xs), .val (.long p1), .second, .val (.long p2), .second, .val (.long p3), .second, .val (.long p4), .second, .val (.long q1), .second, .val (.long vb845), .second, .val (.long vc848), .second, .val (.long vd851), .second, .val (.int pk), .val (.long vx864), .second, .val (.ref b865), .val (.int (1 : Int32)), .unset, .unset] [(.ref b865)])) _
    refine XS.lload X886.here hx rfl (hb hby at_255) rfl ?_
    show Steps p.tables e below (T886.setTop (mkF m 257 #[.val (.long q1), .second, .val (.long q2), .second, .val (.long q3), .second, .val (.long q4), .second, .val (.long q5), .second, .val (.int xs), .val (.long p1), .second, .val (.long p2), .second, .val (.long p3), .second, .val (.long p4), .second, .val (.long q1), .second, .val (.long vb845), .second, .val (.long vc848), .second, .val (.long vd851), .second, .val (.int pk), .val (.long vx864), .second, .val (.ref b865), .val (.int (1 : Int32)), .unset, .unset] [(.long vd851), (.ref b865)])) _
    refine XS.lload X886.here hx rfl (hb hby at_257) rfl ?_
    show Steps p.tables e below (T886.setTop (mkF m 259 #[.val (.long q1), .second, .val (.long q2), .second, .val (.long q3), .second, .val (.long q4), .second, .val (.long q5), .second, .val (.int xs), .val (.long p1), .second, .val (.long p2), .second, .val (.long p3), .second, .val (.long p4), .second, .val (.long q1), .second, .val (.long vb845), .second, .val (.long vc848), .second, .val (.long vd851), .second, .val (.int pk), .val (.long vx864), .second, .val (.ref b865), .val (.int (1 : Int32)), .unset, .unset] [(.long p4), (.long vd851), (.ref b865)])) _
    refine st889.trans ?_
    show Steps p.tables e below (T889.setTop (mkF m 262 #[.val (.long q1), .second, .val (.long q2), .second, .val (.long q3), .second, .val (.long q4), .second, .val (.long q5), .second, .val (.int xs), .val (.long p1), .second, .val (.long p2), .second, .val (.long p3), .second, .val (.long p4), .second, .val (.long q1), .second, .val (.long vb845), .second, .val (.long vc848), .second, .val (.long vd851), .second, .val (.int pk), .val (.long vx864), .second, .val (.ref b865), .val (.int (1 : Int32)), .unset, .unset] [])) _
    refine XS.lload X889.here hx rfl (hb hby at_262) rfl ?_
    show Steps p.tables e below (T889.setTop (mkF m 264 #[.val (.long q1), .second, .val (.long q2), .second, .val (.long q3), .second, .val (.long q4), .second, .val (.long q5), .second, .val (.int xs), .val (.long p1), .second, .val (.long p2), .second, .val (.long p3), .second, .val (.long p4), .second, .val (.long q1), .second, .val (.long vb845), .second, .val (.long vc848), .second, .val (.long vd851), .second, .val (.int pk), .val (.long vx864), .second, .val (.ref b865), .val (.int (1 : Int32)), .unset, .unset] [(.long q1)])) _
    refine XS.lload X889.here hx rfl (hb hby at_264) rfl ?_
    show Steps p.tables e below (T889.setTop (mkF m 266 #[.val (.long q1), .second, .val (.long q2), .second, .val (.long q3), .second, .val (.long q4), .second, .val (.long q5), .second, .val (.int xs), .val (.long p1), .second, .val (.long p2), .second, .val (.long p3), .second, .val (.long p4), .second, .val (.long q1), .second, .val (.long vb845), .second, .val (.long vc848), .second, .val (.long vd851), .second, .val (.int pk), .val (.long vx864), .second, .val (.ref b865), .val (.int (1 : Int32)), .unset, .unset] [(.long p1), (.long q1)])) _
    refine XS.lload X889.here hx rfl (hb hby at_266) rfl ?_
    show Steps p.tables e below (T889.setTop (mkF m 268 #[.val (.long q1), .second, .val (.long q2), .second, .val (.long q3), .second, .val (.long q4), .second, .val (.long q5), .second, .val (.int xs), .val (.long p1), .second, .val (.long p2), .second, .val (.long p3), .second, .val (.long p4), .second, .val (.long q1), .second, .val (.long vb845), .second, .val (.long vc848), .second, .val (.long vd851), .second, .val (.int pk), .val (.long vx864), .second, .val (.ref b865), .val (.int (1 : Int32)), .unset, .unset] [(.long vx864), (.long p1), (.long q1)])) _
    refine st892 _ ?_
    show Steps p.tables e below (T892.setTop (mkF m 271 #[.val (.long q1), .second, .val (.long q2), .second, .val (.long q3), .second, .val (.long q4), .second, .val (.long q5), .second, .val (.int xs), .val (.long p1), .second, .val (.long p2), .second, .val (.long p3), .second, .val (.long p4), .second, .val (.long q1), .second, .val (.long vb845), .second, .val (.long vc848), .second, .val (.long vd851), .second, .val (.int pk), .val (.long vx864), .second, .val (.ref b865), .val (.int (1 : Int32)), .unset, .unset] [(.long (own_held q1 p1 vx864))])) _
    refine XS.lload X892.here hx rfl (hb hby at_271) rfl ?_
    show Steps p.tables e below (T892.setTop (mkF m 273 #[.val (.long q1), .second, .val (.long q2), .second, .val (.long q3), .second, .val (.long q4), .second, .val (.long q5), .second, .val (.int xs), .val (.long p1), .second, .val (.long p2), .second, .val (.long p3), .second, .val (.long p4), .second, .val (.long q1), .second, .val (.long vb845), .second, .val (.long vc848), .second, .val (.long vd851), .second, .val (.int pk), .val (.long vx864), .second, .val (.ref b865), .val (.int (1 : Int32)), .unset, .unset] [(.long vb845), (.long (own_held q1 p1 vx864))])) _
    refine XS.lload X892.here hx rfl (hb hby at_273) rfl ?_
    show Steps p.tables e below (T892.setTop (mkF m 275 #[.val (.long q1), .second, .val (.long q2), .second, .val (.long q3), .second, .val (.long q4), .second, .val (.long q5), .second, .val (.int xs), .val (.long p1), .second, .val (.long p2), .second, .val (.long p3), .second, .val (.long p4), .second, .val (.long q1), .second, .val (.long vb845), .second, .val (.long vc848), .second, .val (.long vd851), .second, .val (.int pk), .val (.long vx864), .second, .val (.ref b865), .val (.int (1 : Int32)), .unset, .unset] [(.long p2), (.long vb845), (.long (own_held q1 p1 vx864))])) _
    refine XS.lload X892.here hx rfl (hb hby at_275) rfl ?_
    show Steps p.tables e below (T892.setTop (mkF m 277 #[.val (.long q1), .second, .val (.long q2), .second, .val (.long q3), .second, .val (.long q4), .second, .val (.long q5), .second, .val (.int xs), .val (.long p1), .second, .val (.long p2), .second, .val (.long p3), .second, .val (.long p4), .second, .val (.long q1), .second, .val (.long vb845), .second, .val (.long vc848), .second, .val (.long vd851), .second, .val (.int pk), .val (.long vx864), .second, .val (.ref b865), .val (.int (1 : Int32)), .unset, .unset] [(.long vx864), (.long p2), (.long vb845), (.long (own_held q1 p1 vx864))])) _
    refine st893 _ ?_
    show Steps p.tables e below (T893.setTop (mkF m 280 #[.val (.long q1), .second, .val (.long q2), .second, .val (.long q3), .second, .val (.long q4), .second, .val (.long q5), .second, .val (.int xs), .val (.long p1), .second, .val (.long p2), .second, .val (.long p3), .second, .val (.long p4), .second, .val (.long q1), .second, .val (.long vb845), .second, .val (.long vc848), .second, .val (.long vd851), .second, .val (.int pk), .val (.long vx864), .second, .val (.ref b865), .val (.int (1 : Int32)), .unset, .unset] [(.long (own_held vb845 p2 vx864)), (.long (own_held q1 p1 vx864))])) _
    refine XS.ladd X893.here hx rfl (hb hby at_280) rfl ?_
    show Steps p.tables e below (T893.setTop (mkF m 281 #[.val (.long q1), .second, .val (.long q2), .second, .val (.long q3), .second, .val (.long q4), .second, .val (.long q5), .second, .val (.int xs), .val (.long p1), .second, .val (.long p2), .second, .val (.long p3), .second, .val (.long p4), .second, .val (.long q1), .second, .val (.long vb845), .second, .val (.long vc848), .second, .val (.long vd851), .second, .val (.int pk), .val (.long vx864), .second, .val (.ref b865), .val (.int (1 : Int32)), .unset, .unset] [(.long ((own_held q1 p1 vx864) + (own_held vb845 p2 vx864)))])) _
    refine XS.lload X893.here hx rfl (hb hby at_281) rfl ?_
    show Steps p.tables e below (T893.setTop (mkF m 283 #[.val (.long q1), .second, .val (.long q2), .second, .val (.long q3), .second, .val (.long q4), .second, .val (.long q5), .second, .val (.int xs), .val (.long p1), .second, .val (.long p2), .second, .val (.long p3), .second, .val (.long p4), .second, .val (.long q1), .second, .val (.long vb845), .second, .val (.long vc848), .second, .val (.long vd851), .second, .val (.int pk), .val (.long vx864), .second, .val (.ref b865), .val (.int (1 : Int32)), .unset, .unset] [(.long vc848), (.long ((own_held q1 p1 vx864) + (own_held vb845 p2 vx864)))])) _
    refine XS.lload X893.here hx rfl (hb hby at_283) rfl ?_
    show Steps p.tables e below (T893.setTop (mkF m 285 #[.val (.long q1), .second, .val (.long q2), .second, .val (.long q3), .second, .val (.long q4), .second, .val (.long q5), .second, .val (.int xs), .val (.long p1), .second, .val (.long p2), .second, .val (.long p3), .second, .val (.long p4), .second, .val (.long q1), .second, .val (.long vb845), .second, .val (.long vc848), .second, .val (.long vd851), .second, .val (.int pk), .val (.long vx864), .second, .val (.ref b865), .val (.int (1 : Int32)), .unset, .unset] [(.long p3), (.long vc848), (.long ((own_held q1 p1 vx864) + (own_held vb845 p2 vx864)))])) _
    refine XS.lload X893.here hx rfl (hb hby at_285) rfl ?_
    show Steps p.tables e below (T893.setTop (mkF m 287 #[.val (.long q1), .second, .val (.long q2), .second, .val (.long q3), .second, .val (.long q4), .second, .val (.long q5), .second, .val (.int xs), .val (.long p1), .second, .val (.long p2), .second, .val (.long p3), .second, .val (.long p4), .second, .val (.long q1), .second, .val (.long vb845), .second, .val (.long vc848), .second, .val (.long vd851), .second, .val (.int pk), .val (.long vx864), .second, .val (.ref b865), .val (.int (1 : Int32)), .unset, .unset] [(.long vx864), (.long p3), (.long vc848), (.long ((own_held q1 p1 vx864) + (own_held vb845 p2 vx864)))])) _
    refine st894 _ ?_
    show Steps p.tables e below (T894.setTop (mkF m 290 #[.val (.long q1), .second, .val (.long q2), .second, .val (.long q3), .second, .val (.long q4), .second, .val (.long q5), .second, .val (.int xs), .val (.long p1), .second, .val (.long p2), .second, .val (.long p3), .second, .val (.long p4), .second, .val (.long q1), .second, .val (.long vb845), .second, .val (.long vc848), .second, .val (.long vd851), .second, .val (.int pk), .val (.long vx864), .second, .val (.ref b865), .val (.int (1 : Int32)), .unset, .unset] [(.long (own_held vc848 p3 vx864)), (.long ((own_held q1 p1 vx864) + (own_held vb845 p2 vx864)))])) _
    refine XS.ladd X894.here hx rfl (hb hby at_290) rfl ?_
    show Steps p.tables e below (T894.setTop (mkF m 291 #[.val (.long q1), .second, .val (.long q2), .second, .val (.long q3), .second, .val (.long q4), .second, .val (.long q5), .second, .val (.int xs), .val (.long p1), .second, .val (.long p2), .second, .val (.long p3), .second, .val (.long p4), .second, .val (.long q1), .second, .val (.long vb845), .second, .val (.long vc848), .second, .val (.long vd851), .second, .val (.int pk), .val (.long vx864), .second, .val (.ref b865), .val (.int (1 : Int32)), .unset, .unset] [(.long (((own_held q1 p1 vx864) + (own_held vb845 p2 vx864)) + (own_held vc848 p3 vx864)))])) _
    refine XS.lload X894.here hx rfl (hb hby at_291) rfl ?_
    show Steps p.tables e below (T894.setTop (mkF m 293 #[.val (.long q1), .second, .val (.long q2), .second, .val (.long q3), .second, .val (.long q4), .second, .val (.long q5), .second, .val (.int xs), .val (.long p1), .second, .val (.long p2), .second, .val (.long p3), .second, .val (.long p4), .second, .val (.long q1), .second, .val (.long vb845), .second, .val (.long vc848), .second, .val (.long vd851), .second, .val (.int pk), .val (.long vx864), .second, .val (.ref b865), .val (.int (1 : Int32)), .unset, .unset] [(.long vd851), (.long (((own_held q1 p1 vx864) + (own_held vb845 p2 vx864)) + (own_held vc848 p3 vx864)))])) _
    refine XS.lload X894.here hx rfl (hb hby at_293) rfl ?_
    show Steps p.tables e below (T894.setTop (mkF m 295 #[.val (.long q1), .second, .val (.long q2), .second, .val (.long q3), .second, .val (.long q4), .second, .val (.long q5), .second, .val (.int xs), .val (.long p1), .second, .val (.long p2), .second, .val (.long p3), .second, .val (.long p4), .second, .val (.long q1), .second, .val (.long vb845), .second, .val (.long vc848), .second, .val (.long vd851), .second, .val (.int pk), .val (.long vx864), .second, .val (.ref b865), .val (.int (1 : Int32)), .unset, .unset] [(.long p4), (.long vd851), (.long (((own_held q1 p1 vx864) + (own_held vb845 p2 vx864)) + (own_held vc848 p3 vx864)))])) _
    refine XS.lload X894.here hx rfl (hb hby at_295) rfl ?_
    show Steps p.tables e below (T894.setTop (mkF m 297 #[.val (.long q1), .second, .val (.long q2), .second, .val (.long q3), .second, .val (.long q4), .second, .val (.long q5), .second, .val (.int xs), .val (.long p1), .second, .val (.long p2), .second, .val (.long p3), .second, .val (.long p4), .second, .val (.long q1), .second, .val (.long vb845), .second, .val (.long vc848), .second, .val (.long vd851), .second, .val (.int pk), .val (.long vx864), .second, .val (.ref b865), .val (.int (1 : Int32)), .unset, .unset] [(.long vx864), (.long p4), (.long vd851), (.long (((own_held q1 p1 vx864) + (own_held vb845 p2 vx864)) + (own_held vc848 p3 vx864)))])) _
    refine st895 _ ?_
    show Steps p.tables e below (T895.setTop (mkF m 300 #[.val (.long q1), .second, .val (.long q2), .second, .val (.long q3), .second, .val (.long q4), .second, .val (.long q5), .second, .val (.int xs), .val (.long p1), .second, .val (.long p2), .second, .val (.long p3), .second, .val (.long p4), .second, .val (.long q1), .second, .val (.long vb845), .second, .val (.long vc848), .second, .val (.long vd851), .second, .val (.int pk), .val (.long vx864), .second, .val (.ref b865), .val (.int (1 : Int32)), .unset, .unset] [(.long (own_held vd851 p4 vx864)), (.long (((own_held q1 p1 vx864) + (own_held vb845 p2 vx864)) + (own_held vc848 p3 vx864)))])) _
    refine XS.ladd X895.here hx rfl (hb hby at_300) rfl ?_
    show Steps p.tables e below (T895.setTop (mkF m 301 #[.val (.long q1), .second, .val (.long q2), .second, .val (.long q3), .second, .val (.long q4), .second, .val (.long q5), .second, .val (.int xs), .val (.long p1), .second, .val (.long p2), .second, .val (.long p3), .second, .val (.long p4), .second, .val (.long q1), .second, .val (.long vb845), .second, .val (.long vc848), .second, .val (.long vd851), .second, .val (.int pk), .val (.long vx864), .second, .val (.ref b865), .val (.int (1 : Int32)), .unset, .unset] [(.long ((((own_held q1 p1 vx864) + (own_held vb845 p2 vx864)) + (own_held vc848 p3 vx864)) + (own_held vd851 p4 vx864)))])) _
    refine XS.lstore X895.here hx rfl (hb hby at_301) rfl (l' := #[.val (.long q1), .second, .val (.long q2), .second, .val (.long q3), .second, .val (.long q4), .second, .val (.long q5), .second, .val (.int xs), .val (.long p1), .second, .val (.long p2), .second, .val (.long p3), .second, .val (.long p4), .second, .val (.long q1), .second, .val (.long vb845), .second, .val (.long vc848), .second, .val (.long vd851), .second, .val (.int pk), .val (.long vx864), .second, .val (.ref b865), .val (.int (1 : Int32)), .val (.long ((((own_held q1 p1 vx864) + (own_held vb845 p2 vx864)) + (own_held vc848 p3 vx864)) + (own_held vd851 p4 vx864))), .second]) rfl ?_
    show Steps p.tables e below (T895.setTop (mkF m 303 #[.val (.long q1), .second, .val (.long q2), .second, .val (.long q3), .second, .val (.long q4), .second, .val (.long q5), .second, .val (.int xs), .val (.long p1), .second, .val (.long p2), .second, .val (.long p3), .second, .val (.long p4), .second, .val (.long q1), .second, .val (.long vb845), .second, .val (.long vc848), .second, .val (.long vd851), .second, .val (.int pk), .val (.long vx864), .second, .val (.ref b865), .val (.int (1 : Int32)), .val (.long ((((own_held q1 p1 vx864) + (own_held vb845 p2 vx864)) + (own_held vc848 p3 vx864)) + (own_held vd851 p4 vx864))), .second] [])) _
    refine XS.iload X895.here hx rfl (hb hby at_303) rfl ?_
    show Steps p.tables e below (T895.setTop (mkF m 305 #[.val (.long q1), .second, .val (.long q2), .second, .val (.long q3), .second, .val (.long q4), .second, .val (.long q5), .second, .val (.int xs), .val (.long p1), .second, .val (.long p2), .second, .val (.long p3), .second, .val (.long p4), .second, .val (.long q1), .second, .val (.long vb845), .second, .val (.long vc848), .second, .val (.long vd851), .second, .val (.int pk), .val (.long vx864), .second, .val (.ref b865), .val (.int (1 : Int32)), .val (.long ((((own_held q1 p1 vx864) + (own_held vb845 p2 vx864)) + (own_held vc848 p3 vx864)) + (own_held vd851 p4 vx864))), .second] [(.int (1 : Int32))])) _
    refine XS.ifNo X895.here hx rfl (hb hby at_305) rfl ((if0 _ _).trans (feq (by decide : ¬ ((1 : Int32) = (0 : Int32)))).1) ?_
    show Steps p.tables e below (T895.setTop (mkF m 308 #[.val (.long q1), .second, .val (.long q2), .second, .val (.long q3), .second, .val (.long q4), .second, .val (.long q5), .second, .val (.int xs), .val (.long p1), .second, .val (.long p2), .second, .val (.long p3), .second, .val (.long p4), .second, .val (.long q1), .second, .val (.long vb845), .second, .val (.long vc848), .second, .val (.long vd851), .second, .val (.int pk), .val (.long vx864), .second, .val (.ref b865), .val (.int (1 : Int32)), .val (.long ((((own_held q1 p1 vx864) + (own_held vb845 p2 vx864)) + (own_held vc848 p3 vx864)) + (own_held vd851 p4 vx864))), .second] [])) _
    refine XS.aload X895.here hx rfl (hb hby at_308) rfl rfl ?_
    show Steps p.tables e below (T895.setTop (mkF m 310 #[.val (.long q1), .second, .val (.long q2), .second, .val (.long q3), .second, .val (.long q4), .second, .val (.long q5), .second, .val (.int xs), .val (.long p1), .second, .val (.long p2), .second, .val (.long p3), .second, .val (.long p4), .second, .val (.long q1), .second, .val (.long vb845), .second, .val (.long vc848), .second, .val (.long vd851), .second, .val (.int pk), .val (.long vx864), .second, .val (.ref b865), .val (.int (1 : Int32)), .val (.long ((((own_held q1 p1 vx864) + (own_held vb845 p2 vx864)) + (own_held vc848 p3 vx864)) + (own_held vd851 p4 vx864))), .second] [(.ref b865)])) _
    refine XS.lload X895.here hx rfl (hb hby at_310) rfl ?_
    show Steps p.tables e below (T895.setTop (mkF m 312 #[.val (.long q1), .second, .val (.long q2), .second, .val (.long q3), .second, .val (.long q4), .second, .val (.long q5), .second, .val (.int xs), .val (.long p1), .second, .val (.long p2), .second, .val (.long p3), .second, .val (.long p4), .second, .val (.long q1), .second, .val (.long vb845), .second, .val (.long vc848), .second, .val (.long vd851), .second, .val (.int pk), .val (.long vx864), .second, .val (.ref b865), .val (.int (1 : Int32)), .val (.long ((((own_held q1 p1 vx864) + (own_held vb845 p2 vx864)) + (own_held vc848 p3 vx864)) + (own_held vd851 p4 vx864))), .second] [(.long vx864), (.ref b865)])) _
    refine st896.trans ?_
    show Steps p.tables e below (T896.setTop (mkF m 315 #[.val (.long q1), .second, .val (.long q2), .second, .val (.long q3), .second, .val (.long q4), .second, .val (.long q5), .second, .val (.int xs), .val (.long p1), .second, .val (.long p2), .second, .val (.long p3), .second, .val (.long p4), .second, .val (.long q1), .second, .val (.long vb845), .second, .val (.long vc848), .second, .val (.long vd851), .second, .val (.int pk), .val (.long vx864), .second, .val (.ref b865), .val (.int (1 : Int32)), .val (.long ((((own_held q1 p1 vx864) + (own_held vb845 p2 vx864)) + (own_held vc848 p3 vx864)) + (own_held vd851 p4 vx864))), .second] [(.long (own_end (0 + 1 + 1 + 1 + 1) A4.1 A4.2.2 vx864 (0 : Int64)))])) _
    refine XS.lload X896.here hx rfl (hb hby at_315) rfl ?_
    show Steps p.tables e below (T896.setTop (mkF m 317 #[.val (.long q1), .second, .val (.long q2), .second, .val (.long q3), .second, .val (.long q4), .second, .val (.long q5), .second, .val (.int xs), .val (.long p1), .second, .val (.long p2), .second, .val (.long p3), .second, .val (.long p4), .second, .val (.long q1), .second, .val (.long vb845), .second, .val (.long vc848), .second, .val (.long vd851), .second, .val (.int pk), .val (.long vx864), .second, .val (.ref b865), .val (.int (1 : Int32)), .val (.long ((((own_held q1 p1 vx864) + (own_held vb845 p2 vx864)) + (own_held vc848 p3 vx864)) + (own_held vd851 p4 vx864))), .second] [(.long ((((own_held q1 p1 vx864) + (own_held vb845 p2 vx864)) + (own_held vc848 p3 vx864)) + (own_held vd851 p4 vx864))), (.long (own_end (0 + 1 + 1 + 1 + 1) A4.1 A4.2.2 vx864 (0 : Int64)))])) _
    refine XS.lcmp X896.here hx rfl (hb hby at_317) rfl ?_
    show Steps p.tables e below (T896.setTop (mkF m 318 #[.val (.long q1), .second, .val (.long q2), .second, .val (.long q3), .second, .val (.long q4), .second, .val (.long q5), .second, .val (.int xs), .val (.long p1), .second, .val (.long p2), .second, .val (.long p3), .second, .val (.long p4), .second, .val (.long q1), .second, .val (.long vb845), .second, .val (.long vc848), .second, .val (.long vd851), .second, .val (.int pk), .val (.long vx864), .second, .val (.ref b865), .val (.int (1 : Int32)), .val (.long ((((own_held q1 p1 vx864) + (own_held vb845 p2 vx864)) + (own_held vc848 p3 vx864)) + (own_held vd851 p4 vx864))), .second] [(.int (lcmpW (own_end (0 + 1 + 1 + 1 + 1) A4.1 A4.2.2 vx864 (0 : Int64)) ((((own_held q1 p1 vx864) + (own_held vb845 p2 vx864)) + (own_held vc848 p3 vx864)) + (own_held vd851 p4 vx864))))])) _
    refine XS.ifNo X896.here hx rfl (hb hby at_318) rfl ((if0 _ _).trans (teq ((lw_eq _ _).mpr (own_fin I4 c1 c2 c3 c4))).2) ?_
    show Steps p.tables e below (T896.setTop (mkF m 321 #[.val (.long q1), .second, .val (.long q2), .second, .val (.long q3), .second, .val (.long q4), .second, .val (.long q5), .second, .val (.int xs), .val (.long p1), .second, .val (.long p2), .second, .val (.long p3), .second, .val (.long p4), .second, .val (.long q1), .second, .val (.long vb845), .second, .val (.long vc848), .second, .val (.long vd851), .second, .val (.int pk), .val (.long vx864), .second, .val (.ref b865), .val (.int (1 : Int32)), .val (.long ((((own_held q1 p1 vx864) + (own_held vb845 p2 vx864)) + (own_held vc848 p3 vx864)) + (own_held vd851 p4 vx864))), .second] [])) _
    refine XS.iconst X896.here hx rfl (hb hby at_321) ?_
    show Steps p.tables e below (T896.setTop (mkF m 322 #[.val (.long q1), .second, .val (.long q2), .second, .val (.long q3), .second, .val (.long q4), .second, .val (.long q5), .second, .val (.int xs), .val (.long p1), .second, .val (.long p2), .second, .val (.long p3), .second, .val (.long p4), .second, .val (.long q1), .second, .val (.long vb845), .second, .val (.long vc848), .second, .val (.long vd851), .second, .val (.int pk), .val (.long vx864), .second, .val (.ref b865), .val (.int (1 : Int32)), .val (.long ((((own_held q1 p1 vx864) + (own_held vb845 p2 vx864)) + (own_held vc848 p3 vx864)) + (own_held vd851 p4 vx864))), .second] [(.int (1 : Int32))])) _
    refine XS.goto X896.here hx rfl (pc0 := 322) (pc' := 326) rfl (hb hby at_322) (by decide) (by decide) ?_
    show Steps p.tables e below (T896.setTop (mkF m 326 #[.val (.long q1), .second, .val (.long q2), .second, .val (.long q3), .second, .val (.long q4), .second, .val (.long q5), .second, .val (.int xs), .val (.long p1), .second, .val (.long p2), .second, .val (.long p3), .second, .val (.long p4), .second, .val (.long q1), .second, .val (.long vb845), .second, .val (.long vc848), .second, .val (.long vd851), .second, .val (.int pk), .val (.long vx864), .second, .val (.ref b865), .val (.int (1 : Int32)), .val (.long ((((own_held q1 p1 vx864) + (own_held vb845 p2 vx864)) + (own_held vc848 p3 vx864)) + (own_held vd851 p4 vx864))), .second] [(.int (1 : Int32))])) _
    exact retN X896 hx (t := .boolean) Bd.returns (by simp) (hb hby at_326) hr
  · show Q0 Z q1 q2 q3 q4 q5 xs h0 n0 _ T896.heap _
    rw [K896c]
    exact ⟨rfl, N896⟩

set_option maxRecDepth 65536 in
set_option maxHeartbeats 40000000 in
theorem comes_1 {Post : Tables → Env → Array Value → State → Outcome → State → Prop} (hpost : ∀ tb e args s v u, (limb_1_1.after args s (.returned v) u = true ∧ limb_1_2.after args s (.returned v) u = true ∧ True) → FrameEnd s (.returned v) u (Jvm.fieldLocs frame_1_writes args s ++ Jvm.arrayLocs frame_1_arrays args s ++ Jvm.staticLocs frame_1_statics s) 24 320 → Post tb e args s (.returned v) u) :
    ArmFor flags0 classFile x code maxLocals ret World_1 tables_1 room_1 Calls_1 rest_1 Pre_1 Post := by
  intro l hfl _ _ p e ha hc hk s m args below hf hA hF happ hP
  obtain ⟨hcalls, hrest, hpre⟩ := hP
  obtain ⟨-, -, -, hnamed, -, -, -, hat⟩ := (Spec.applies_iff hf).mp happ
  obtain ⟨hg, hn⟩ := and_e (Cond.before_iff.mp (show (Jvm.Cond.and given_1 narrow_1).before args s = true from hpre))
  obtain ⟨hcnt, hg0⟩ := and_e hg
  obtain ⟨ha0, hg1⟩ := and_e hg0
  obtain ⟨ha1, hg2⟩ := and_e hg1
  obtain ⟨ha2, hg3⟩ := and_e hg2
  obtain ⟨ha3, hg4⟩ := and_e hg3
  obtain ⟨ha4, hg5⟩ := and_e hg4
  obtain ⟨w0, w1, w2, w3, w4, w5, rfl⟩ : ∃ w0 w1 w2 w3 w4 w5 : Value, args = #[w0, w1, w2, w3, w4, w5] := by
    have hs : args.size = 6 := by simpa [Cond.value, given_1] using hcnt
    obtain ⟨L⟩ := args
    match L, hs with
    | [w0, w1, w2, w3, w4, w5], _ => exact ⟨w0, w1, w2, w3, w4, w5, rfl⟩
  have hw := fun d (hd : d ∈ tables_1) => atoms_spec (ws := Jvm.Cond.code x code maxLocals ret :: tables_1) hat d (List.mem_cons_of_mem _ hd)
  have hfit : Fit s := fun {y c} hc i hi => by
    obtain ⟨ha, rfl⟩ := Array.getElem?_eq_some_iff.mp hc
    have q := List.all_eq_true.mp ((Array.all_eq_true_iff_forall_mem.mp hF) _ (Array.getElem_mem ha)) i (List.mem_range.mpr hi)
    simpa [Array.getElem?_eq_getElem hi] using q
  obtain ⟨i0, ei0⟩ := isL_v ha0
  obtain rfl : w0 = (.long i0) := Option.some.inj ei0
  obtain ⟨i1, ei1⟩ := isL_v ha1
  obtain rfl : w1 = (.long i1) := Option.some.inj ei1
  obtain ⟨i2, ei2⟩ := isL_v ha2
  obtain rfl : w2 = (.long i2) := Option.some.inj ei2
  obtain ⟨i3, ei3⟩ := isL_v ha3
  obtain rfl : w3 = (.long i3) := Option.some.inj ei3
  obtain ⟨i4, ei4⟩ := isL_v ha4
  obtain rfl : w4 = (.long i4) := Option.some.inj ei4
  obtain ⟨i5, ei5⟩ := is_v hg5
  obtain rfl : w5 = (.int i5) := Option.some.inj ei5
  obtain ⟨n, o, h1, h2, h3, _, L, rfl, ⟨rfl, N⟩, hq⟩ := rm0 l s _ hw tables_1 i0 i1 i2 i3 i4 i5 s.heap s.heap.size (Nat.le_refl _)  p e ha hc hk s m _ below hf ((Spec.applies_iff_loose hf).mp happ).1 ⟨rfl, State.Warmed39.refl s, rfl⟩ trivial
  refine ⟨n, _, h1, h2, h3, hpost _ _ _ _ _ _ ⟨Cond.after_iff.mpr rfl, Cond.after_iff.mpr (eq_i res_at (Term.int_eval (1)) rfl), trivial⟩ ⟨hq.1, hq.2.1, (hq.2.2.sift fun y hy => Or.inr (N y hy)).mono (by decide) (by decide)⟩⟩
theorem main_1_1 : Claimed_1_1 := comes_1 fun _ _ _ _ _ _ h hF => ⟨h.1, hF⟩
theorem main_1_2 : Claimed_1_2 := comes_1 fun _ _ _ _ _ _ h hF => ⟨h.2.1, hF⟩
end Jvm.Pilot.@@N@@
namespace Jvm.Pilot.@@N@@
open Jvm Jvm.ClassFile Sem Op Lib Jvm.Free Jvm.Stand Jvm.Pilot.@@N@@.Jvm.D
/-! MADE BY PROGRAM (witnessworld.py) out of the Statement's table words and the real class files: 12 classes; the members and pool entries that the words name. The judged class is class 1, her method 2. -/
namespace start1
open Jvm.ClassFile
def u (s : String) : CpInfo := .utf8 (stringToUtf16 s)
/-- a pool by its gaps: so many unusable entries, then the entry; so many at the end -/
def gap : Nat → List CpInfo → List CpInfo
  | 0, r => r
  | n + 1, r => .unusable :: gap n r
def poolList (es : List (Nat × CpInfo)) (last : Nat) : List CpInfo := es.foldr (fun e r => gap e.1 (e.2 :: r)) (gap last [])
def pool (es : List (Nat × CpInfo)) (last : Nat) : Array CpInfo := ⟨poolList es last⟩
def fileOf (pool : Array CpInfo) (this : Nat) (attrs : Array Attribute := #[]) (ms : Array MethodInfo := #[]) (fl : Nat := 33) (sup : Nat := 0) (ifs : Array Nat := #[]) (fds : Array FieldInfo := #[]) : ClassFile where
  minorVersion := 0
  majorVersion := 65
  constantPool := pool
  accessFlags := fl
  thisClass := this
  superClass := sup
  interfaces := ifs
  fields := fds
  methods := ms
  attributes := attrs
def plain (name : String) (sup : Option ClassId) : Class where
  name := name
  kind := .ordinary
  loader := none
  accessFlags := 33
  super := sup
  interfaces := #[]
  cf := none
  fields := #[]
  methods := #[]
  instanceTypes := #[]
  staticTypes := #[]
  resolved := #[]
  callSites := []
  init := .initialized
  statics := none
  mirror := none

def pool0 : Array CpInfo := pool [(5, u "<init>"), (0, u "()V"), (1, .class_ 10), (1, u "java/lang/Object")] 113

def k0c0 : Code := { maxStack := 0, maxLocals := 1, code := object_method_1_code, exceptionTable := #[], attributes := #[] }
def k0m0 : Method := { name := "<init>", desc := "()V", sig := { parameters := [], returnType := none }, accessFlags := 1, code := some k0c0 }
/-- java/lang/Object -/
def k0 : Class := { plain "java/lang/Object" none with
  accessFlags := 33
  interfaces := #[]
  cf := some (fileOf pool0 8 #[] #[{ accessFlags := 1, nameIndex := 5, descriptorIndex := 6, attributes := #[] }] 33 0 #[] #[])
  fields := #[]
  methods := #[k0m0]
  instanceTypes := #[]
  staticTypes := #[]
  resolved := Array.replicate 124 none
  statics := none }

def pool1 : Array CpInfo := pool [(2, .class_ 4), (0, .nameAndType 5 6), (0, u "java/lang/Object"), (0, u "<init>"), (0, u "()V"), (0, .class_ 8), (0, u "com/example/berthline/berthline/engine/replay/EstimatedEnds"), (0, .methodref 7 3), (0, .methodref 7 11), (0, .nameAndType 12 13), (0, u "endingBy"), (0, u "(J)J"), (0, .methodref 7 15), (0, .nameAndType 16 17), (0, u "add"), (0, u "(JJ)V"), (0, .methodref 19 20), (0, .class_ 21), (0, .nameAndType 22 23), (0, u "com/example/berthline/berthline/engine/replay/EstimatedEndsEndingByPinLaw"), (0, u "held"), (0, u "(JJJ)J"), (3, u "law"), (0, u "(JJJJJI)Z")] 2

def k1m0 : Method := { name := "<init>", desc := "()V", sig := { parameters := [], returnType := none }, accessFlags := 1, code := none }
def k1c1 : Code := { maxStack := 4, maxLocals := 6, code := method_2_code, exceptionTable := #[], attributes := #[] }
def k1m1 : Method := { name := "held", desc := "(JJJ)J", sig := { parameters := [.long, .long, .long], returnType := some .long }, accessFlags := 10, code := some k1c1 }
def k1c2 : Code := { maxStack := 8, maxLocals := 34, code := code, exceptionTable := #[], attributes := #[] }
def k1m2 : Method := { name := "law", desc := "(JJJJJI)Z", sig := { parameters := [.long, .long, .long, .long, .long, .int], returnType := some .boolean }, accessFlags := 9, code := some k1c2 }
/-- com/example/berthline/berthline/engine/replay/EstimatedEndsEndingByPinLaw -/
def k1 : Class := { plain "com/example/berthline/berthline/engine/replay/EstimatedEndsEndingByPinLaw" (some 0) with
  accessFlags := 49
  interfaces := #[]
  cf := some (fileOf pool1 19 #[] #[{ accessFlags := 1, nameIndex := 5, descriptorIndex := 6, attributes := #[] }, { accessFlags := 10, nameIndex := 22, descriptorIndex := 23, attributes := #[] }, { accessFlags := 9, nameIndex := 27, descriptorIndex := 28, attributes := #[] }] 49 2 #[] #[])
  fields := #[]
  methods := #[k1m0, k1m1, k1m2]
  instanceTypes := #[]
  staticTypes := #[]
  resolved := Array.replicate 31 none
  statics := none }

def pool2 : Array CpInfo := pool [(1, .methodref 2 3), (0, .class_ 4), (0, .nameAndType 5 6), (0, u "java/lang/Object"), (0, u "<init>"), (0, u "()V"), (0, .fieldref 8 9), (0, .class_ 10), (0, .nameAndType 11 12), (0, u "com/example/berthline/berthline/engine/replay/EstimatedEnds"), (0, u "ends"), (0, u "[J"), (0, .fieldref 8 14), (0, .nameAndType 15 12), (0, u "processors"), (0, .fieldref 8 17), (0, .nameAndType 18 12), (0, u "sums"), (0, .fieldref 8 20), (0, .nameAndType 21 22), (0, u "heights"), (0, u "[I"), (0, .fieldref 8 24), (0, .nameAndType 25 22), (0, u "left"), (0, .fieldref 8 27), (0, .nameAndType 28 22), (0, u "right"), (0, .fieldref 8 30), (0, .nameAndType 31 32), (0, u "root"), (0, u "I"), (0, .fieldref 8 34), (0, .nameAndType 35 32), (0, u "made"), (0, .fieldref 8 37), (0, .nameAndType 38 32), (0, u "unused"), (3, .methodref 8 43), (0, .nameAndType 44 45), (0, u "add"), (0, u "(IJJ)I"), (16, .methodref 8 63), (0, .nameAndType 64 65), (0, u "make"), (0, u "(JJ)I"), (0, .methodref 8 67), (0, .nameAndType 68 69), (0, u "balance"), (0, u "(I)I"), (28, .methodref 8 99), (0, .nameAndType 100 101), (0, u "update"), (0, u "(I)V"), (0, .methodref 8 103), (0, .nameAndType 104 69), (0, u "rotateLeft"), (0, .methodref 8 106), (0, .nameAndType 107 69), (0, u "rotateRight"), (0, .methodref 109 110), (0, .class_ 111), (0, .nameAndType 112 113), (0, u "java/lang/Math"), (0, u "max"), (0, u "(II)I"), (0, u "NONE"), (4, u "(JJ)V"), (1, u "endingBy"), (0, u "(J)J")] 22

def k2c0 : Code := { maxStack := 2, maxLocals := 1, code := prog_107_method_1_code, exceptionTable := #[], attributes := #[] }
def k2m0 : Method := { name := "<init>", desc := "()V", sig := { parameters := [], returnType := none }, accessFlags := 0, code := some k2c0 }
def k2c1 : Code := { maxStack := 7, maxLocals := 5, code := prog_107_method_3_code, exceptionTable := #[], attributes := #[] }
def k2m1 : Method := { name := "add", desc := "(JJ)V", sig := { parameters := [.long, .long], returnType := none }, accessFlags := 0, code := some k2c1 }
def k2c2 : Code := { maxStack := 6, maxLocals := 6, code := prog_107_method_5_code, exceptionTable := #[], attributes := #[] }
def k2m2 : Method := { name := "endingBy", desc := "(J)J", sig := { parameters := [.long], returnType := some .long }, accessFlags := 0, code := some k2c2 }
def k2c3 : Code := { maxStack := 8, maxLocals := 7, code := prog_107_method_7_code, exceptionTable := #[], attributes := #[] }
def k2m3 : Method := { name := "add", desc := "(IJJ)I", sig := { parameters := [.int, .long, .long], returnType := some .int }, accessFlags := 2, code := some k2c3 }
def k2c4 : Code := { maxStack := 4, maxLocals := 6, code := prog_107_method_11_code, exceptionTable := #[], attributes := #[] }
def k2m4 : Method := { name := "make", desc := "(JJ)I", sig := { parameters := [.long, .long], returnType := some .int }, accessFlags := 2, code := some k2c4 }
def k2c5 : Code := { maxStack := 4, maxLocals := 5, code := prog_107_method_13_code, exceptionTable := #[], attributes := #[] }
def k2m5 : Method := { name := "balance", desc := "(I)I", sig := { parameters := [.int], returnType := some .int }, accessFlags := 2, code := some k2c5 }
def k2c6 : Code := { maxStack := 4, maxLocals := 3, code := prog_107_method_14_code, exceptionTable := #[], attributes := #[] }
def k2m6 : Method := { name := "rotateRight", desc := "(I)I", sig := { parameters := [.int], returnType := some .int }, accessFlags := 2, code := some k2c6 }
def k2c7 : Code := { maxStack := 4, maxLocals := 3, code := prog_107_method_15_code, exceptionTable := #[], attributes := #[] }
def k2m7 : Method := { name := "rotateLeft", desc := "(I)I", sig := { parameters := [.int], returnType := some .int }, accessFlags := 2, code := some k2c7 }
def k2c8 : Code := { maxStack := 6, maxLocals := 4, code := prog_107_method_16_code, exceptionTable := #[], attributes := #[] }
def k2m8 : Method := { name := "update", desc := "(I)V", sig := { parameters := [.int], returnType := none }, accessFlags := 2, code := some k2c8 }
/-- com/example/berthline/berthline/engine/replay/EstimatedEnds -/
def k2 : Class := { plain "com/example/berthline/berthline/engine/replay/EstimatedEnds" (some 0) with
  accessFlags := 48
  interfaces := #[]
  cf := some (fileOf pool2 8 #[] #[{ accessFlags := 0, nameIndex := 5, descriptorIndex := 6, attributes := #[] }, { accessFlags := 0, nameIndex := 44, descriptorIndex := 119, attributes := #[] }, { accessFlags := 0, nameIndex := 121, descriptorIndex := 122, attributes := #[] }, { accessFlags := 2, nameIndex := 44, descriptorIndex := 45, attributes := #[] }, { accessFlags := 2, nameIndex := 64, descriptorIndex := 65, attributes := #[] }, { accessFlags := 2, nameIndex := 68, descriptorIndex := 69, attributes := #[] }, { accessFlags := 2, nameIndex := 107, descriptorIndex := 69, attributes := #[] }, { accessFlags := 2, nameIndex := 104, descriptorIndex := 69, attributes := #[] }, { accessFlags := 2, nameIndex := 100, descriptorIndex := 101, attributes := #[] }] 48 2 #[] #[{ accessFlags := 26, nameIndex := 114, descriptorIndex := 32, attributes := #[] }, { accessFlags := 2, nameIndex := 11, descriptorIndex := 12, attributes := #[] }, { accessFlags := 2, nameIndex := 15, descriptorIndex := 12, attributes := #[] }, { accessFlags := 2, nameIndex := 18, descriptorIndex := 12, attributes := #[] }, { accessFlags := 2, nameIndex := 21, descriptorIndex := 22, attributes := #[] }, { accessFlags := 2, nameIndex := 25, descriptorIndex := 22, attributes := #[] }, { accessFlags := 2, nameIndex := 28, descriptorIndex := 22, attributes := #[] }, { accessFlags := 2, nameIndex := 31, descriptorIndex := 32, attributes := #[] }, { accessFlags := 2, nameIndex := 35, descriptorIndex := 32, attributes := #[] }, { accessFlags := 2, nameIndex := 38, descriptorIndex := 32, attributes := #[] }])
  fields := #[{ name := "NONE", type := .int, accessFlags := 26, slot := 0, constantValue := 0 }, { name := "ends", type := (.array .long), accessFlags := 2, slot := 0, constantValue := 0 }, { name := "processors", type := (.array .long), accessFlags := 2, slot := 1, constantValue := 0 }, { name := "sums", type := (.array .long), accessFlags := 2, slot := 2, constantValue := 0 }, { name := "heights", type := (.array .int), accessFlags := 2, slot := 3, constantValue := 0 }, { name := "left", type := (.array .int), accessFlags := 2, slot := 4, constantValue := 0 }, { name := "right", type := (.array .int), accessFlags := 2, slot := 5, constantValue := 0 }, { name := "root", type := .int, accessFlags := 2, slot := 6, constantValue := 0 }, { name := "made", type := .int, accessFlags := 2, slot := 7, constantValue := 0 }, { name := "unused", type := .int, accessFlags := 2, slot := 8, constantValue := 0 }]
  methods := #[k2m0, k2m1, k2m2, k2m3, k2m4, k2m5, k2m6, k2m7, k2m8]
  instanceTypes := #[(.array .long), (.array .long), (.array .long), (.array .int), (.array .int), (.array .int), .int, .int, .int]
  staticTypes := #[.int]
  resolved := Array.replicate 145 none
  statics := none }

def pool3 : Array CpInfo := pool [(1, .class_ 2), (0, u "java/lang/Math"), (1, .class_ 6), (1, u "java/lang/Object"), (0, u "<init>"), (0, u "()V"), (89, .class_ 100), (1, u "java/lang/Math$RandomNumberGeneratorHolder"), (71, u "negativeZeroFloatBits"), (0, u "J"), (2, u "negativeZeroDoubleBits"), (21, u "max"), (46, u "$assertionsDisabled"), (0, u "Z"), (88, u "(II)I"), (2, u "twoToTheDoubleScaleDown"), (0, u "D"), (4, u "twoToTheDoubleScaleUp"), (9, u "E"), (3, u "PI"), (2, u "TAU"), (2, u "DEGREES_TO_RADIANS"), (0, u "RADIANS_TO_DEGREES")] 94

def k3m0 : Method := { name := "<init>", desc := "()V", sig := { parameters := [], returnType := none }, accessFlags := 2, code := none }
def k3c1 : Code := { maxStack := 2, maxLocals := 2, code := jdk_29_method_65_code, exceptionTable := #[], attributes := #[] }
def k3m1 : Method := { name := "max", desc := "(II)I", sig := { parameters := [.int, .int], returnType := some .int }, accessFlags := 9, code := some k3c1 }
/-- java/lang/Math -/
def k3 : Class := { plain "java/lang/Math" (some 0) with
  accessFlags := 49
  interfaces := #[]
  cf := some (fileOf pool3 1 #[.nestMembers #[98]] #[{ accessFlags := 2, nameIndex := 7, descriptorIndex := 8, attributes := #[] }, { accessFlags := 9, nameIndex := 198, descriptorIndex := 335, attributes := #[] }] 49 4 #[] #[{ accessFlags := 25, nameIndex := 354, descriptorIndex := 339, attributes := #[] }, { accessFlags := 25, nameIndex := 358, descriptorIndex := 339, attributes := #[] }, { accessFlags := 25, nameIndex := 361, descriptorIndex := 339, attributes := #[] }, { accessFlags := 26, nameIndex := 364, descriptorIndex := 339, attributes := #[] }, { accessFlags := 26, nameIndex := 365, descriptorIndex := 339, attributes := #[] }, { accessFlags := 26, nameIndex := 172, descriptorIndex := 173, attributes := #[] }, { accessFlags := 26, nameIndex := 176, descriptorIndex := 173, attributes := #[] }, { accessFlags := 8, nameIndex := 344, descriptorIndex := 339, attributes := #[] }, { accessFlags := 8, nameIndex := 338, descriptorIndex := 339, attributes := #[] }, { accessFlags := 4120, nameIndex := 245, descriptorIndex := 246, attributes := #[] }])
  fields := #[{ name := "E", type := .double, accessFlags := 25, slot := 0, constantValue := 0 }, { name := "PI", type := .double, accessFlags := 25, slot := 1, constantValue := 0 }, { name := "TAU", type := .double, accessFlags := 25, slot := 2, constantValue := 0 }, { name := "DEGREES_TO_RADIANS", type := .double, accessFlags := 26, slot := 3, constantValue := 0 }, { name := "RADIANS_TO_DEGREES", type := .double, accessFlags := 26, slot := 4, constantValue := 0 }, { name := "negativeZeroFloatBits", type := .long, accessFlags := 26, slot := 5, constantValue := 0 }, { name := "negativeZeroDoubleBits", type := .long, accessFlags := 26, slot := 6, constantValue := 0 }, { name := "twoToTheDoubleScaleUp", type := .double, accessFlags := 8, slot := 7, constantValue := 0 }, { name := "twoToTheDoubleScaleDown", type := .double, accessFlags := 8, slot := 8, constantValue := 0 }, { name := "$assertionsDisabled", type := .boolean, accessFlags := 4120, slot := 9, constantValue := 0 }]
  methods := #[k3m0, k3m1]
  instanceTypes := #[]
  staticTypes := #[.double, .double, .double, .double, .double, .long, .long, .double, .double, .boolean]
  resolved := Array.replicate 460 none
  statics := none }

def pool4 : Array CpInfo := pool [(1, u "java/lang/Cloneable"), (0, .class_ 1), (0, u "java/lang/Object"), (0, .class_ 3)] 3

/-- java/lang/Cloneable -/
def k4 : Class := { plain "java/lang/Cloneable" (some 0) with
  accessFlags := 1537
  interfaces := #[]
  cf := some (fileOf pool4 2 #[] #[] 1537 4 #[] #[])
  fields := #[]
  methods := #[]
  instanceTypes := #[]
  staticTypes := #[]
  resolved := Array.replicate 8 none
  statics := none }

def pool5 : Array CpInfo := pool [(1, u "java/io/Serializable"), (0, .class_ 1), (0, u "java/lang/Object"), (0, .class_ 3)] 3

/-- java/io/Serializable -/
def k5 : Class := { plain "java/io/Serializable" (some 0) with
  accessFlags := 1537
  interfaces := #[]
  cf := some (fileOf pool5 2 #[] #[] 1537 4 #[] #[])
  fields := #[]
  methods := #[]
  instanceTypes := #[]
  staticTypes := #[]
  resolved := Array.replicate 8 none
  statics := none }

/-- the primitive byte -/
def k6 : Class := { plain "byte" none with kind := .primitive 'B', accessFlags := 0x411 }
/-- [B -/
def k7 : Class := { plain "[B" (some 0) with kind := .array 6 .byte, interfaces := #[4, 5], accessFlags := 1041 }

/-- the primitive int -/
def k8 : Class := { plain "int" none with kind := .primitive 'I', accessFlags := 0x411 }
/-- [I -/
def k9 : Class := { plain "[I" (some 0) with kind := .array 8 .int, interfaces := #[4, 5], accessFlags := 1041 }

/-- the primitive long -/
def k10 : Class := { plain "long" none with kind := .primitive 'J', accessFlags := 0x411 }
/-- [J -/
def k11 : Class := { plain "[J" (some 0) with kind := .array 10 .long, interfaces := #[4, 5], accessFlags := 1041 }

def heap : Heap := #[]
def classes : Array Class := #[k0, k1, k2, k3, k4, k5, k6, k7, k8, k9, k10, k11]
def interned : List (Array UInt16 × Addr) := []
def slotsUsed : Nat := 0
def theMethod : MethodId := ⟨1, 2⟩
def args0 : Array Value := #[.long 5, .long 7, .long 5, .long 7, .long 5, .int 7]
def aboutOver (below : List Frame) : State where
  vm := { classes := classes, interned := interned.toArray }
  heap := heap
  slotsUsed := slotsUsed
  threads := #[{ frames := .invoking theMethod args0 :: below }]
def below0 : List Frame := [.native { method := ⟨0, 0⟩, args := #[] }]
def about1 : State := aboutOver below0
def p0 : Program := .bare "" "" ""
def e0 : Env := launch0.env 0 0 0
theorem w_frames : about1.frames = Frame.invoking theMethod args0 :: below0 := rfl
set_option maxRecDepth 65536 in
theorem w_args : argsFit about1.vm theMethod args0 = true := by decide +kernel
set_option maxRecDepth 65536 in
theorem w_heap : heapFits about1 = true := by decide +kernel
set_option maxRecDepth 65536 in
theorem w_runnable : about1.curStatus? = some .runnable := by decide +kernel
set_option maxRecDepth 65536 in
theorem w_alone : about1.alone = true := by decide +kernel
set_option maxRecDepth 65536 in
theorem w_named : about1.methodNamed? x = some theMethod := by decide +kernel
set_option maxRecDepth 65536 in
theorem w_hears : about1.hears theMethod below0 = true := by decide +kernel
set_option maxRecDepth 65536 in
theorem w_ripe : about1.ripe theMethod args0 below0 = true := by decide +kernel
theorem w_running : about1.status = .running := rfl
set_option maxRecDepth 65536 in
theorem w_room : about1.hasRoom e0.platform room_1 = true :=
  launch0.hasRoom_least _ room_1 (by decide +kernel) (by decide +kernel) (by decide +kernel) (by decide +kernel) (by decide +kernel) (by decide +kernel)
theorem allAtoms_all (ts : List Jvm.Cond) (a : Array Jvm.Value) (st : Jvm.State) : (allAtoms ts).before a st = ts.all (fun c => c.before a st) := by
  induction ts with
  | nil => rfl
  | cons c t ih =>
    show (Jvm.Cond.and c (allAtoms t)).before a st = _
    rw [Jvm.Cond.before_and, ih, List.all_cons]
def words1 : List Jvm.Cond := Jvm.Cond.code x code maxLocals ret :: tables_1
/-- a 'code' word, met by the world's own term for the bytes: nothing is compared byte by byte -/
theorem code_word {y : MethodName} {bytes : ByteArray} {mx : Nat} {rt : Option FieldType} {a : Array Value} {s : State} {m : MethodId} {meth : Method} {c : Code} (h1 : s.methodNamed? y = some m) (h2 : s.vm.method? m = some meth) (h3 : meth.code = some c) (h4 : c.code = bytes)
    (h5 : (c.maxLocals == mx && c.exceptionTable.isEmpty && decide (c.maxStack ≤ mostOperands) && decide (meth.sig.returnType = rt) && !meth.locks && decide (parseMethodDescriptor y.desc = some meth.sig)) = true) : (Jvm.Cond.code y bytes mx rt).before a s = true := by
  simp only [Bool.and_eq_true, beq_iff_eq, Bool.not_eq_true', decide_eq_true_eq] at h5
  obtain ⟨⟨⟨⟨⟨g1, g2⟩, g3⟩, g4⟩, g5⟩, g6⟩ := h5
  simp [Cond.before, Cond.holds, Cond.value, h1, h2, h3, h4, g1, g2, g3, g4, g5, g6]
def isCode : Jvm.Cond → Bool
  | .code _ _ _ _ => true
  | _ => false
theorem all_split {L : List Jvm.Cond} {P : Jvm.Cond → Bool} (h1 : L.all (fun c => isCode c || P c) = true) (h2 : ∀ c ∈ L.filter isCode, P c = true) : L.all P = true := by
  refine List.all_eq_true.mpr fun c hc => ?_
  have h := List.all_eq_true.mp h1 c hc
  rcases Bool.eq_false_or_eq_true (isCode c) with hi | hi
  · exact h2 c (List.mem_filter.mpr ⟨hc, hi⟩)
  · simpa [hi] using h
set_option maxRecDepth 65536 in
theorem w_c0 : (Jvm.Cond.code x code maxLocals ret).before args0 about1 = true := code_word (m := ⟨1, 2⟩) (meth := k1m2) (c := k1c2) (by decide +kernel) rfl rfl rfl (by decide +kernel)
set_option maxRecDepth 65536 in
theorem w_c1 : (Jvm.Cond.code ({ cls := "com/example/berthline/berthline/engine/replay/EstimatedEnds", name := "<init>", desc := "()V" } : Jvm.MethodName) prog_107_method_1_code (1 : Nat) (Option.none : Option Jvm.ClassFile.FieldType)).before args0 about1 = true := code_word (m := ⟨2, 0⟩) (meth := k2m0) (c := k2c0) (by decide +kernel) rfl rfl rfl (by decide +kernel)
set_option maxRecDepth 65536 in
theorem w_c2 : (Jvm.Cond.code ({ cls := "java/lang/Object", name := "<init>", desc := "()V" } : Jvm.MethodName) object_method_1_code (1 : Nat) (Option.none : Option Jvm.ClassFile.FieldType)).before args0 about1 = true := code_word (m := ⟨0, 0⟩) (meth := k0m0) (c := k0c0) (by decide +kernel) rfl rfl rfl (by decide +kernel)
set_option maxRecDepth 65536 in
theorem w_c3 : (Jvm.Cond.code ({ cls := "com/example/berthline/berthline/engine/replay/EstimatedEnds", name := "endingBy", desc := "(J)J" } : Jvm.MethodName) prog_107_method_5_code (6 : Nat) (Option.some Jvm.ClassFile.FieldType.long)).before args0 about1 = true := code_word (m := ⟨2, 2⟩) (meth := k2m2) (c := k2c2) (by decide +kernel) rfl rfl rfl (by decide +kernel)
set_option maxRecDepth 65536 in
theorem w_c4 : (Jvm.Cond.code ({ cls := "com/example/berthline/berthline/engine/replay/EstimatedEnds", name := "add", desc := "(JJ)V" } : Jvm.MethodName) prog_107_method_3_code (5 : Nat) (Option.none : Option Jvm.ClassFile.FieldType)).before args0 about1 = true := code_word (m := ⟨2, 1⟩) (meth := k2m1) (c := k2c1) (by decide +kernel) rfl rfl rfl (by decide +kernel)
set_option maxRecDepth 65536 in
theorem w_c5 : (Jvm.Cond.code ({ cls := "com/example/berthline/berthline/engine/replay/EstimatedEnds", name := "add", desc := "(IJJ)I" } : Jvm.MethodName) prog_107_method_7_code (7 : Nat) (Option.some Jvm.ClassFile.FieldType.int)).before args0 about1 = true := code_word (m := ⟨2, 3⟩) (meth := k2m3) (c := k2c3) (by decide +kernel) rfl rfl rfl (by decide +kernel)
set_option maxRecDepth 65536 in
theorem w_c6 : (Jvm.Cond.code ({ cls := "com/example/berthline/berthline/engine/replay/EstimatedEnds", name := "make", desc := "(JJ)I" } : Jvm.MethodName) prog_107_method_11_code (6 : Nat) (Option.some Jvm.ClassFile.FieldType.int)).before args0 about1 = true := code_word (m := ⟨2, 4⟩) (meth := k2m4) (c := k2c4) (by decide +kernel) rfl rfl rfl (by decide +kernel)
set_option maxRecDepth 65536 in
theorem w_c7 : (Jvm.Cond.code ({ cls := "com/example/berthline/berthline/engine/replay/EstimatedEnds", name := "balance", desc := "(I)I" } : Jvm.MethodName) prog_107_method_13_code (5 : Nat) (Option.some Jvm.ClassFile.FieldType.int)).before args0 about1 = true := code_word (m := ⟨2, 5⟩) (meth := k2m5) (c := k2c5) (by decide +kernel) rfl rfl rfl (by decide +kernel)
set_option maxRecDepth 65536 in
theorem w_c8 : (Jvm.Cond.code ({ cls := "com/example/berthline/berthline/engine/replay/EstimatedEnds", name := "update", desc := "(I)V" } : Jvm.MethodName) prog_107_method_16_code (4 : Nat) (Option.none : Option Jvm.ClassFile.FieldType)).before args0 about1 = true := code_word (m := ⟨2, 8⟩) (meth := k2m8) (c := k2c8) (by decide +kernel) rfl rfl rfl (by decide +kernel)
set_option maxRecDepth 65536 in
theorem w_c9 : (Jvm.Cond.code ({ cls := "java/lang/Math", name := "max", desc := "(II)I" } : Jvm.MethodName) jdk_29_method_65_code (2 : Nat) (Option.some Jvm.ClassFile.FieldType.int)).before args0 about1 = true := code_word (m := ⟨3, 1⟩) (meth := k3m1) (c := k3c1) (by decide +kernel) rfl rfl rfl (by decide +kernel)
set_option maxRecDepth 65536 in
theorem w_c10 : (Jvm.Cond.code ({ cls := "com/example/berthline/berthline/engine/replay/EstimatedEnds", name := "rotateRight", desc := "(I)I" } : Jvm.MethodName) prog_107_method_14_code (3 : Nat) (Option.some Jvm.ClassFile.FieldType.int)).before args0 about1 = true := code_word (m := ⟨2, 6⟩) (meth := k2m6) (c := k2c6) (by decide +kernel) rfl rfl rfl (by decide +kernel)
set_option maxRecDepth 65536 in
theorem w_c11 : (Jvm.Cond.code ({ cls := "com/example/berthline/berthline/engine/replay/EstimatedEndsEndingByPinLaw", name := "held", desc := "(JJJ)J" } : Jvm.MethodName) method_2_code (6 : Nat) (Option.some Jvm.ClassFile.FieldType.long)).before args0 about1 = true := code_word (m := ⟨1, 1⟩) (meth := k1m1) (c := k1c1) (by decide +kernel) rfl rfl rfl (by decide +kernel)
set_option maxRecDepth 65536 in
theorem w_c12 : (Jvm.Cond.code ({ cls := "com/example/berthline/berthline/engine/replay/EstimatedEnds", name := "rotateLeft", desc := "(I)I" } : Jvm.MethodName) prog_107_method_15_code (3 : Nat) (Option.some Jvm.ClassFile.FieldType.int)).before args0 about1 = true := code_word (m := ⟨2, 7⟩) (meth := k2m7) (c := k2c7) (by decide +kernel) rfl rfl rfl (by decide +kernel)
def codes1 : List Jvm.Cond := [Jvm.Cond.code x code maxLocals ret, Jvm.Cond.code ({ cls := "com/example/berthline/berthline/engine/replay/EstimatedEnds", name := "<init>", desc := "()V" } : Jvm.MethodName) prog_107_method_1_code (1 : Nat) (Option.none : Option Jvm.ClassFile.FieldType), Jvm.Cond.code ({ cls := "java/lang/Object", name := "<init>", desc := "()V" } : Jvm.MethodName) object_method_1_code (1 : Nat) (Option.none : Option Jvm.ClassFile.FieldType), Jvm.Cond.code ({ cls := "com/example/berthline/berthline/engine/replay/EstimatedEnds", name := "endingBy", desc := "(J)J" } : Jvm.MethodName) prog_107_method_5_code (6 : Nat) (Option.some Jvm.ClassFile.FieldType.long), Jvm.Cond.code ({ cls := "com/example/berthline/berthline/engine/replay/EstimatedEnds", name := "add", desc := "(JJ)V" } : Jvm.MethodName) prog_107_method_3_code (5 : Nat) (Option.none : Option Jvm.ClassFile.FieldType), Jvm.Cond.code ({ cls := "com/example/berthline/berthline/engine/replay/EstimatedEnds", name := "add", desc := "(IJJ)I" } : Jvm.MethodName) prog_107_method_7_code (7 : Nat) (Option.some Jvm.ClassFile.FieldType.int), Jvm.Cond.code ({ cls := "com/example/berthline/berthline/engine/replay/EstimatedEnds", name := "make", desc := "(JJ)I" } : Jvm.MethodName) prog_107_method_11_code (6 : Nat) (Option.some Jvm.ClassFile.FieldType.int), Jvm.Cond.code ({ cls := "com/example/berthline/berthline/engine/replay/EstimatedEnds", name := "balance", desc := "(I)I" } : Jvm.MethodName) prog_107_method_13_code (5 : Nat) (Option.some Jvm.ClassFile.FieldType.int), Jvm.Cond.code ({ cls := "com/example/berthline/berthline/engine/replay/EstimatedEnds", name := "update", desc := "(I)V" } : Jvm.MethodName) prog_107_method_16_code (4 : Nat) (Option.none : Option Jvm.ClassFile.FieldType), Jvm.Cond.code ({ cls := "java/lang/Math", name := "max", desc := "(II)I" } : Jvm.MethodName) jdk_29_method_65_code (2 : Nat) (Option.some Jvm.ClassFile.FieldType.int), Jvm.Cond.code ({ cls := "com/example/berthline/berthline/engine/replay/EstimatedEnds", name := "rotateRight", desc := "(I)I" } : Jvm.MethodName) prog_107_method_14_code (3 : Nat) (Option.some Jvm.ClassFile.FieldType.int), Jvm.Cond.code ({ cls := "com/example/berthline/berthline/engine/replay/EstimatedEndsEndingByPinLaw", name := "held", desc := "(JJJ)J" } : Jvm.MethodName) method_2_code (6 : Nat) (Option.some Jvm.ClassFile.FieldType.long), Jvm.Cond.code ({ cls := "com/example/berthline/berthline/engine/replay/EstimatedEnds", name := "rotateLeft", desc := "(I)I" } : Jvm.MethodName) prog_107_method_15_code (3 : Nat) (Option.some Jvm.ClassFile.FieldType.int)]
set_option maxRecDepth 65536 in
theorem codes_eq : words1.filter isCode = codes1 := rfl
theorem w_codes : ∀ c ∈ words1.filter isCode, c.before args0 about1 = true := by
  rw [codes_eq]
  intro c hc
  simp only [codes1, List.mem_cons, List.not_mem_nil, or_false] at hc
  rcases hc with rfl | rfl | rfl | rfl | rfl | rfl | rfl | rfl | rfl | rfl | rfl | rfl | rfl
  · exact w_c0
  · exact w_c1
  · exact w_c2
  · exact w_c3
  · exact w_c4
  · exact w_c5
  · exact w_c6
  · exact w_c7
  · exact w_c8
  · exact w_c9
  · exact w_c10
  · exact w_c11
  · exact w_c12
set_option maxRecDepth 65536 in
theorem w_t1 : (words1.take 24).all (fun c => isCode c || c.before args0 about1) = true := by decide +kernel
set_option maxRecDepth 65536 in
theorem w_t2 : ((words1.drop 24).take 24).all (fun c => isCode c || c.before args0 about1) = true := by decide +kernel
set_option maxRecDepth 65536 in
theorem w_t3 : ((words1.drop 24).drop 24).all (fun c => isCode c || c.before args0 about1) = true := by decide +kernel
theorem w_tables : (allAtoms (Jvm.Cond.code x code maxLocals ret :: tables_1)).before args0 about1 = true := by
  rw [allAtoms_all]
  show words1.all (fun c => c.before args0 about1) = true
  refine all_split ?_ w_codes
  rw [← List.take_append_drop 24 words1, List.all_append, w_t1, ← List.take_append_drop 24 (words1.drop 24), List.all_append, w_t2, w_t3]
  rfl
set_option maxRecDepth 65536 in
theorem w_case : (Jvm.Cond.and given_1 narrow_1).before args0 about1 = true := by decide +kernel
theorem w_applies : (headSpec (Jvm.Cond.code x code maxLocals ret :: tables_1) room_1).applies x e0.platform about1 = true :=
  (Spec.applies_iff w_frames).mpr ⟨w_running, w_runnable, w_alone, w_named, w_hears, w_ripe, w_room, w_tables⟩
theorem atStart : AtStart classFile x code maxLocals ret World_1 tables_1 room_1 Calls_1 rest_1 Pre_1 launch0 p0 e0 about1 theMethod args0 below0 :=
  ⟨lists_1, trivial, launch0.admits_env _ _ _, launch0.least_env, fairChoices_fair.cas, fairChoices_fair.clock, w_frames, w_args, w_heap, w_applies, trivial, trivial, w_case⟩
end start1
theorem witness_1 : WitnessClaimed_1 := ⟨start1.p0, start1.e0, start1.about1, start1.theMethod, start1.args0, start1.below0, start1.atStart⟩
end Jvm.Pilot.@@N@@
