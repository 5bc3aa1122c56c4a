import JvmDerived
import JvmDerived.Pilot.@@N@@Statement
import JvmDerived.Pilot.@@N@@Code
set_option linter.unusedVariables false
set_option linter.unusedSimpArgs false
@@BLOCK:NumsL.lean.txt@@
namespace Jvm.RoadKit
open Sem ClassFile Op Lib Jvm.Stand Jvm.Free Jvm.LawKit
section New
variable {p : Program} {l : Launch} {e : Env} {R : Room} {s : State} {m : MethodId} {args : Array Value} {below : List Frame} {meth : Method} {c : Code} {T : State} {locs : List Loc} {cells slots : Nat}
theorem retI (X : Stand p l e R s m args below meth c T locs cells slots) (hx : p.tables.exec = Jvm.exec) {pc : Nat} {Ls : Array Slot} {z : Int32} {rest : List Value} (hret : meth.sig.returnType = some .int) (hd : decode c.code pc = .ok (.ireturn, 1)) {fs : List Frame}
    (hl : ∀ (f : JFrame) (acts : List Action), f.method = m → f.locked = none → f.entered = [] → (doReturn e (T.setTop f) acts (some (.int z))).1 = T.setFrames fs) : Steps p.tables e below (T.setTop (mkF m pc Ls (.int z :: rest))) (T.setFrames fs) := by
  have hm' : T.vm.method? m = some meth := X.method'
  have hn : narrow .int (.int z) = .int z := rfl
  show Steps p.tables e below (T.setTop { method := m, pc := pc, locals := Ls, stack := _ :: rest, locked := none }) _
  jvm_step X.here [X.here.top, hx, hd, hm', hret, hn]
  first | (intro acts; rw [hl _ acts rfl rfl rfl]) | rw [hl _ _ rfl rfl rfl]
  exact Steps.refl _
end New
end Jvm.RoadKit
namespace Jvm.Pilot.@@N@@
open Jvm Jvm.ClassFile Sem Op Lib Jvm.Free Jvm.Stand Jvm.LawKit Jvm.RoadKit Bundle Jvm.Pilot.@@N@@.Jvm.D

/-! arrays by their contents -/
section OwnArr
def own_upd {α : Type} (f : Nat → α) (i : Nat) (x : α) : Nat → α := fun j => if j = i then x else f j
theorem own_upd_same {α : Type} (f : Nat → α) (i : Nat) (x : α) : own_upd f i x i = x := if_pos rfl
theorem own_upd_ne {α : Type} (f : Nat → α) {i j : Nat} (x : α) (h : j ≠ i) : own_upd f i x j = f j := if_neg h
def JA (Z : State) (h : Heap) (a : Addr) (n : Nat) (f : Nat → Int64) : Prop := ∃ cl : Cell, Arr Z h a cl .long ∧ cl.slots.size = n ∧ ∀ i, i < n → cl.slots[i]? = some (.long (f i))
def IA (Z : State) (h : Heap) (a : Addr) (n : Nat) (f : Nat → Nat) : Prop := ∃ cl : Cell, Arr Z h a cl .int ∧ cl.slots.size = n ∧ ∀ i, i < n → cl.slots[i]? = some (.int (Int32.ofNat (f i)))
variable {p : Program} {l : Launch} {e : Env} {R : Room} {s : State} {m : MethodId} {args : Array Value} {below : List Frame} {meth : Method} {c : Code} {T : State} {locs : List Loc} {cells slots : Nat} {Z : State} {h h' : Heap} {a b : Addr} {n sl : Nat} {v : Value} {ws : List Addr} {f : Nat → Int64} {k : Nat → Nat}
theorem JA.lt (F : JA Z h a n f) : a < h.size := by obtain ⟨_, A, -⟩ := F; exact A.lt
theorem JA.ext (F : JA Z h a n f) (E : Ext h h') : JA Z h' a n f := by obtain ⟨q, A, r⟩ := F; exact ⟨q, A.ext E, r⟩
theorem JA.other (F : JA Z h b n f) (W : Wr h h' a sl v) (q : b ≠ a) : JA Z h' b n f := by obtain ⟨u, A, r⟩ := F; exact ⟨u, A.other W q, r⟩
theorem JA.keep (F : JA Z h a n f) (K : Keep h h' ws) (q : a ∉ ws) : JA Z h' a n f := by obtain ⟨u, A, r⟩ := F; exact ⟨u, ⟨K.2.1 a u A.1 q, A.2⟩, r⟩
theorem IA.lt (F : IA Z h a n k) : a < h.size := by obtain ⟨_, A, -⟩ := F; exact A.lt
theorem IA.ext (F : IA Z h a n k) (E : Ext h h') : IA Z h' a n k := by obtain ⟨q, A, r⟩ := F; exact ⟨q, A.ext E, r⟩
theorem IA.other (F : IA Z h b n k) (W : Wr h h' a sl v) (q : b ≠ a) : IA Z h' b n k := by obtain ⟨u, A, r⟩ := F; exact ⟨u, A.other W q, r⟩
theorem IA.keep (F : IA Z h a n k) (K : Keep h h' ws) (q : a ∉ ws) : IA Z h' a n k := by obtain ⟨u, A, r⟩ := F; exact ⟨u, ⟨K.2.1 a u A.1 q, A.2⟩, r⟩
theorem JA.set {i : Nat} {x : Int64} (F : JA Z h a n f) (W : Wr h h' a i (.long x)) : JA Z h' a n (own_upd f i x) := by
  obtain ⟨u, A, r1, r2⟩ := F
  refine ⟨_, A.same W, by rw [sz_set]; exact r1, fun j hj => ?_⟩
  by_cases q : j = i
  · subst q; rw [own_upd_same]; simp [Cell.setSlot, r1, hj]
  · rw [own_upd_ne f x q, ← r2 j hj]; exact Array.getElem?_setIfInBounds_ne (Ne.symm q)
theorem IA.set {i x : Nat} (F : IA Z h a n k) (W : Wr h h' a i (.int (Int32.ofNat x))) : IA Z h' a n (own_upd k i x) := by
  obtain ⟨u, A, r1, r2⟩ := F
  refine ⟨_, A.same W, by rw [sz_set]; exact r1, fun j hj => ?_⟩
  by_cases q : j = i
  · subst q; rw [own_upd_same]; simp [Cell.setSlot, r1, hj]
  · rw [own_upd_ne k x q, ← r2 j hj]; exact Array.getElem?_setIfInBounds_ne (Ne.symm q)
theorem own_inb {u : Cell} {j : Int32} {i : Nat} (r1 : u.slots.size = n) (hj : j.toNatClampNeg = i) (h0 : ¬ j < 0) (hi : i < n) : ¬ (j < 0 ∨ u.slots.size ≤ j.toNatClampNeg) := by
  rw [hj, r1]; exact fun q => q.elim h0 fun q => absurd hi (Nat.not_lt.mpr q)
theorem JA.load (X : Stand p l e R s m args below meth c T locs cells slots) (hx : p.tables.exec = Jvm.exec) (hZ : Z.Warmed39 s.vm) (eT : T.heap = h) (F : JA Z h a n f) {j : Int32} (i : Nat) (hj : j.toNatClampNeg = i) (h0 : ¬ j < 0) (hi : i < n)
    {g : JFrame} (hg : g.method = m) {rest : List Value} (hs : g.stack = .int j :: .ref a :: rest) (hd : decode c.code g.pc = .ok (.laload, 1)) (target : State)
    (hr : Steps p.tables e below (T.setTop { g with pc := g.pc + 1, stack := .long (f i) :: rest }) target) : Steps p.tables e below (T.setTop g) target := by
  obtain ⟨u, A, r1, r2⟩ := F
  exact X.laload hx (by rw [eT]; exact A.1) (State.isArrayOf_alike hZ.alike A.2.1) A.2.2 (own_inb r1 hj h0 hi) (by rw [hj]; exact r2 i hi) hg hs hd target hr
theorem IA.load (X : Stand p l e R s m args below meth c T locs cells slots) (hx : p.tables.exec = Jvm.exec) (hZ : Z.Warmed39 s.vm) (eT : T.heap = h) (F : IA Z h a n k) {j : Int32} (i : Nat) (hj : j.toNatClampNeg = i) (h0 : ¬ j < 0) (hi : i < n)
    {g : JFrame} (hg : g.method = m) {rest : List Value} (hs : g.stack = .int j :: .ref a :: rest) (hd : decode c.code g.pc = .ok (.iaload, 1)) (target : State)
    (hr : Steps p.tables e below (T.setTop { g with pc := g.pc + 1, stack := .int (Int32.ofNat (k i)) :: rest }) target) : Steps p.tables e below (T.setTop g) target := by
  obtain ⟨u, A, r1, r2⟩ := F
  exact X.iaload hx (by rw [eT]; exact A.1) (State.isArrayOf_alike hZ.alike A.2.1) A.2.2 (own_inb r1 hj h0 hi) (by rw [hj]; exact r2 i hi) hg hs hd target hr
theorem JA.store (X : Stand p l e R s m args below meth c T locs cells slots) (hx : p.tables.exec = Jvm.exec) (hZ : Z.Warmed39 s.vm) (eT : T.heap = h) (F : JA Z h a n f) {j : Int32} (i : Nat) (hj : j.toNatClampNeg = i) (h0 : ¬ j < 0) (hi : i < n) {x : Int64}
    {g : JFrame} (hg : g.method = m) {rest : List Value} (hs : g.stack = .long x :: .int j :: .ref a :: rest) (hd : decode c.code g.pc = .ok (.lastore, 1)) :
    ∃ T' h', Stand p l e R s m args below meth c T' (locs ++ [⟨a, i⟩]) cells slots ∧ T'.heap = h' ∧ Wr h h' a i (.long x) ∧ JA Z h' a n (own_upd f i x) ∧ ∀ target, Steps p.tables e below (T'.setTop { g with pc := g.pc + 1, stack := rest }) target → Steps p.tables e below (T.setTop g) target := by
  obtain ⟨u, A, r1, r2⟩ := id F
  obtain ⟨T', h', X', q1, q2, q3⟩ := stJ X hx hZ eT A (own_inb r1 hj h0 hi) hg hs hd
  rw [hj] at X' q2
  exact ⟨T', h', X', q1, q2, F.set q2, q3⟩
theorem IA.store (X : Stand p l e R s m args below meth c T locs cells slots) (hx : p.tables.exec = Jvm.exec) (hZ : Z.Warmed39 s.vm) (eT : T.heap = h) (F : IA Z h a n k) {j : Int32} (i : Nat) (hj : j.toNatClampNeg = i) (h0 : ¬ j < 0) (hi : i < n) {x : Nat}
    {g : JFrame} (hg : g.method = m) {rest : List Value} (hs : g.stack = .int (Int32.ofNat x) :: .int j :: .ref a :: rest) (hd : decode c.code g.pc = .ok (.iastore, 1)) :
    ∃ T' h', Stand p l e R s m args below meth c T' (locs ++ [⟨a, i⟩]) cells slots ∧ T'.heap = h' ∧ Wr h h' a i (.int (Int32.ofNat x)) ∧ IA Z h' a n (own_upd k i x) ∧ ∀ target, Steps p.tables e below (T'.setTop { g with pc := g.pc + 1, stack := rest }) target → Steps p.tables e below (T.setTop g) target := by
  obtain ⟨u, A, r1, r2⟩ := id F
  obtain ⟨T', h', X', q1, q2, q3⟩ := stI X hx hZ eT A (own_inb r1 hj h0 hi) hg hs hd
  rw [hj] at X' q2
  exact ⟨T', h', X', q1, q2, F.set q2, q3⟩
theorem JA.make {a0 : Array Value} (X : Stand p l e R s m args below meth c T locs cells slots) (hx : p.tables.exec = Jvm.exec) (hZ : Z.Warmed39 s.vm) (w : (Jvm.Cond.arrayClass .long).before a0 Z = true) (eT : T.heap = h) {g : JFrame} (hg : g.method = m) (hd : decode c.code g.pc = .ok (.newarray .long, 2)) {nn : Int32} {rest : List Value} (hs : g.stack = .int nn :: rest)
    (n : Nat) (hn : nn.toNatClampNeg = n) (h0 : ¬ nn < 0) (hb : n * 8 ≤ 536870912) (hc : cells + 1 ≤ R.cells) (hl : slots + n ≤ R.slots) :
    ∃ T' h', Stand p l e R s m args below meth c T' locs (cells + 1) (slots + n) ∧ T'.heap = h' ∧ Ext h h' ∧ JA Z h' h.size n (fun _ => 0) ∧ ∀ target, Steps p.tables e below (T'.setTop { g with pc := g.pc + 2, stack := .ref h.size :: rest }) target → Steps p.tables e below (T.setTop g) target := by
  obtain ⟨T', h', cA, X', q1, q2, q3, q4⟩ := newP (aty := .long) X hx hZ w eT hg hd hs h0 (cap := n) (Nat.le_of_eq hn) hb hc hl
  exact ⟨T', h', X', q1, q2, ⟨_, q3, by rw [sz_new, hn], fun i hi => by subst hn; simp [newA, hi]; rfl⟩, q4⟩
theorem IA.make {a0 : Array Value} (X : Stand p l e R s m args below meth c T locs cells slots) (hx : p.tables.exec = Jvm.exec) (hZ : Z.Warmed39 s.vm) (w : (Jvm.Cond.arrayClass .int).before a0 Z = true) (eT : T.heap = h) {g : JFrame} (hg : g.method = m) (hd : decode c.code g.pc = .ok (.newarray .int, 2)) {nn : Int32} {rest : List Value} (hs : g.stack = .int nn :: rest)
    (n : Nat) (hn : nn.toNatClampNeg = n) (h0 : ¬ nn < 0) (hb : n * 8 ≤ 536870912) (hc : cells + 1 ≤ R.cells) (hl : slots + n ≤ R.slots) :
    ∃ T' h', Stand p l e R s m args below meth c T' locs (cells + 1) (slots + n) ∧ T'.heap = h' ∧ Ext h h' ∧ IA Z h' h.size n (fun _ => 0) ∧ ∀ target, Steps p.tables e below (T'.setTop { g with pc := g.pc + 2, stack := .ref h.size :: rest }) target → Steps p.tables e below (T.setTop g) target := by
  obtain ⟨T', h', cA, X', q1, q2, q3, q4⟩ := newP (aty := .int) X hx hZ w eT hg hd hs h0 (cap := n) (Nat.le_of_eq hn) hb hc hl
  exact ⟨T', h', X', q1, q2, ⟨_, q3, by rw [sz_new, hn], fun i hi => by subst hn; simp [newA, hi]; rfl⟩, q4⟩
theorem own_len {ty : FieldType} (X : Stand p l e R s m args below meth c T locs cells slots) (hx : p.tables.exec = Jvm.exec) (hZ : Z.Warmed39 s.vm) (eT : T.heap = h) (F : ∃ cl : Cell, Arr Z h a cl ty ∧ cl.slots.size = n) {z : Int32} (hz : n.toInt32 = z)
    {g : JFrame} (hg : g.method = m) {rest : List Value} (hs : g.stack = .ref a :: rest) (hd : decode c.code g.pc = .ok (.arraylength, 1)) (target : State)
    (hr : Steps p.tables e below (T.setTop { g with pc := g.pc + 1, stack := .int z :: rest }) target) : Steps p.tables e below (T.setTop g) target := by
  obtain ⟨u, A, r1⟩ := F
  exact X.arraylength hx (by rw [eT]; exact A.1) (State.isArrayOf_alike hZ.alike A.2.1) hg hs hd target (by rw [r1, hz]; exact hr)
theorem JA.cell (F : JA Z h a n f) : ∃ cl : Cell, Arr Z h a cl .long ∧ cl.slots.size = n := by obtain ⟨u, A, r, -⟩ := F; exact ⟨u, A, r⟩
theorem IA.cell (F : IA Z h a n k) : ∃ cl : Cell, Arr Z h a cl .int ∧ cl.slots.size = n := by obtain ⟨u, A, r, -⟩ := F; exact ⟨u, A, r⟩
end OwnArr
theorem own_toInt {k n : Nat} (hk : k < n) (hn : n ≤ 2 ^ 31) : (Int32.ofNat k).toInt = (k : Int) := toInt_of rfl (Nat.lt_of_lt_of_le hk hn)
theorem own_cl {k n : Nat} (hk : k < n) (hn : n ≤ 2 ^ 31) : (Int32.ofNat k).toNatClampNeg = k := clamp_of rfl (Nat.lt_of_lt_of_le hk hn)
theorem own_nn {k n : Nat} (hk : k < n) (hn : n ≤ 2 ^ 31) : ¬ Int32.ofNat k < 0 := by rw [Int32.lt_iff_toInt_lt, own_toInt hk hn, Int32.toInt_zero]; omega

section OwnDbl
def DA (Z : State) (h : Heap) (a : Addr) (n : Nat) (f : Nat → UInt64) : Prop := ∃ cl : Cell, Arr Z h a cl .double ∧ cl.slots.size = n ∧ ∀ i, i < n → cl.slots[i]? = some (.double (f i))
variable {p : Program} {l : Launch} {e : Env} {R : Room} {s : State} {m : MethodId} {args : Array Value} {below : List Frame} {meth : Method} {c : Code} {T : State} {locs : List Loc} {cells slots : Nat} {Z : State} {h h' : Heap} {a b : Addr} {n sl : Nat} {v : Value} {ws : List Addr} {f : Nat → UInt64}
theorem DA.lt (F : DA Z h a n f) : a < h.size := by obtain ⟨_, A, -⟩ := F; exact A.lt
theorem DA.ext (F : DA Z h a n f) (E : Ext h h') : DA Z h' a n f := by obtain ⟨q, A, r⟩ := F; exact ⟨q, A.ext E, r⟩
theorem DA.other (F : DA Z h b n f) (W : Wr h h' a sl v) (q : b ≠ a) : DA Z h' b n f := by obtain ⟨u, A, r⟩ := F; exact ⟨u, A.other W q, r⟩
theorem DA.keep (F : DA Z h a n f) (K : Keep h h' ws) (q : a ∉ ws) : DA Z h' a n f := by obtain ⟨u, A, r⟩ := F; exact ⟨u, ⟨K.2.1 a u A.1 q, A.2⟩, r⟩
theorem DA.set {i : Nat} {x : UInt64} (F : DA Z h a n f) (W : Wr h h' a i (.double x)) : DA Z h' a n (own_upd f i x) := by
  obtain ⟨u, A, r1, r2⟩ := F
  refine ⟨_, A.same W, by rw [sz_set]; exact r1, fun j hj => ?_⟩
  by_cases q : j = i
  · subst q; rw [own_upd_same]; simp [Cell.setSlot, r1, hj]
  · rw [own_upd_ne f x q, ← r2 j hj]; exact Array.getElem?_setIfInBounds_ne (Ne.symm q)
theorem DA.load (X : Stand p l e R s m args below meth c T locs cells slots) (hx : p.tables.exec = Jvm.exec) (hZ : Z.Warmed39 s.vm) (eT : T.heap = h) (F : DA Z h a n f) {j : Int32} (i : Nat) (hj : j.toNatClampNeg = i) (h0 : ¬ j < 0) (hi : i < n)
    {g : JFrame} (hg : g.method = m) {rest : List Value} (hs : g.stack = .int j :: .ref a :: rest) (hd : decode c.code g.pc = .ok (.daload, 1)) (target : State)
    (hr : Steps p.tables e below (T.setTop { g with pc := g.pc + 1, stack := .double (f i) :: rest }) target) : Steps p.tables e below (T.setTop g) target := by
  obtain ⟨u, A, r1, r2⟩ := F
  exact X.daload hx (by rw [eT]; exact A.1) (State.isArrayOf_alike hZ.alike A.2.1) A.2.2 (own_inb r1 hj h0 hi) (by rw [hj]; exact r2 i hi) hg hs hd target hr
theorem DA.store (X : Stand p l e R s m args below meth c T locs cells slots) (hx : p.tables.exec = Jvm.exec) (hZ : Z.Warmed39 s.vm) (eT : T.heap = h) (F : DA Z h a n f) {j : Int32} (i : Nat) (hj : j.toNatClampNeg = i) (h0 : ¬ j < 0) (hi : i < n) {x : UInt64}
    {g : JFrame} (hg : g.method = m) {rest : List Value} (hs : g.stack = .double x :: .int j :: .ref a :: rest) (hd : decode c.code g.pc = .ok (.dastore, 1)) :
    ∃ T' h', Stand p l e R s m args below meth c T' (locs ++ [⟨a, i⟩]) cells slots ∧ T'.heap = h' ∧ Wr h h' a i (.double x) ∧ DA Z h' a n (own_upd f i x) ∧ ∀ target, Steps p.tables e below (T'.setTop { g with pc := g.pc + 1, stack := rest }) target → Steps p.tables e below (T.setTop g) target := by
  obtain ⟨u, A, r1, r2⟩ := id F
  obtain ⟨T', h', X', q1, q2, q3⟩ := stD X hx hZ eT A (own_inb r1 hj h0 hi) hg hs hd
  rw [hj] at X' q2
  exact ⟨T', h', X', q1, q2, F.set q2, q3⟩
theorem DA.make {a0 : Array Value} (X : Stand p l e R s m args below meth c T locs cells slots) (hx : p.tables.exec = Jvm.exec) (hZ : Z.Warmed39 s.vm) (w : (Jvm.Cond.arrayClass .double).before a0 Z = true) (eT : T.heap = h) {g : JFrame} (hg : g.method = m) (hd : decode c.code g.pc = .ok (.newarray .double, 2)) {nn : Int32} {rest : List Value} (hs : g.stack = .int nn :: rest)
    (n : Nat) (hn : nn.toNatClampNeg = n) (h0 : ¬ nn < 0) (hb : n * 8 ≤ 536870912) (hc : cells + 1 ≤ R.cells) (hl : slots + n ≤ R.slots) :
    ∃ T' h', Stand p l e R s m args below meth c T' locs (cells + 1) (slots + n) ∧ T'.heap = h' ∧ Ext h h' ∧ DA Z h' h.size n (fun _ => 0) ∧ ∀ target, Steps p.tables e below (T'.setTop { g with pc := g.pc + 2, stack := .ref h.size :: rest }) target → Steps p.tables e below (T.setTop g) target := by
  obtain ⟨T', h', cA, X', q1, q2, q3, q4⟩ := newP (aty := .double) X hx hZ w eT hg hd hs h0 (cap := n) (Nat.le_of_eq hn) hb hc hl
  exact ⟨T', h', X', q1, q2, ⟨_, q3, by rw [sz_new, hn], fun i hi => by subst hn; simp [newA, hi]; rfl⟩, q4⟩
theorem DA.cell (F : DA Z h a n f) : ∃ cl : Cell, Arr Z h a cl .double ∧ cl.slots.size = n := by obtain ⟨u, A, r, -⟩ := F; exact ⟨u, A, r⟩
end OwnDbl

/-! doubles that stand for n / 1024, exactly -/
section OwnFp
open Jvm.FP.Core
def own_k : Nat := 1064
theorem own_k_eq : own_k = 1064 := rfl
theorem own_ten : (2 : Nat) ^ 10 = 1024 := rfl
def own_dv (a : UInt64) (n : Nat) : Prop := ∃ c q, val64 a = .fin false c q ∧ b64.qmin ≤ q ∧ inUnits c q b64.qmin = n * 2 ^ own_k
theorem own_qmin : b64.qmin = -1074 := by decide +kernel
theorem own_qmax : b64.qmax = 971 := by decide +kernel
theorem own_bp : b64.p = 53 := rfl
theorem own_of_round {a : UInt64} {n : Nat} (h : val64 a = round b64 (.fin false n (-10))) (hn : n < 2 ^ 53) : own_dv a n := by
  obtain ⟨c, q, h1, h2⟩ := round_exact good_b64 false (c := n) (q := -10) (by rw [own_bp]; exact hn) (by rw [own_qmin]; decide) (by rw [own_qmax]; decide)
  have hf := round_fits good_b64 (.fin false n (-10))
  rw [h1] at hf h
  refine ⟨c, q, h, hf.2.1, h2.trans ?_⟩
  unfold inUnits; rw [own_qmin, show ((-10 : Int) - -1074).toNat = own_k from rfl]
theorem own_round_eq {c n : Nat} {q : Int} (hq : b64.qmin ≤ q) (h : inUnits c q b64.qmin = n * 2 ^ own_k) : roundRatio b64 false c 1 q = roundRatio b64 false n 1 (-10) := by
  rw [own_qmin] at hq
  unfold inUnits at h
  rw [own_qmin] at h
  refine roundRatio_congr (by decide) (by decide) ?_
  rw [Nat.mul_one, Nat.mul_one]
  by_cases k : q ≤ -10
  · rw [show (q - -10).toNat = 0 by omega, Nat.pow_zero, Nat.mul_one]
    refine Nat.eq_of_mul_eq_mul_right (Nat.two_pow_pos (q - -1074).toNat) ?_
    rw [h, Nat.mul_assoc, ← Nat.pow_add, show (-10 - q).toNat + (q - -1074).toNat = own_k by have := own_k_eq; omega]
  · rw [show (-10 - q).toNat = 0 by omega, Nat.pow_zero, Nat.mul_one]
    refine Nat.eq_of_mul_eq_mul_right (Nat.two_pow_pos own_k) ?_
    rw [Nat.mul_assoc, ← Nat.pow_add, show (q - -10).toNat + own_k = (q - -1074).toNat by have := own_k_eq; omega, h]
theorem own_dv_i2d {a : Int32} {n : Nat} (h : a.toInt = (n : Int)) : own_dv (Jvm.FP.i2d a) (n * 1024) := by
  have b := rng32 a
  refine own_of_round ?_ (by omega)
  show val64 (i2d a) = _
  rw [val64_i2d, h]
  show roundRatio b64 (decide ((n : Int) < 0)) n 1 0 = roundRatio b64 false (n * 1024) 1 (-10)
  rw [show decide ((n : Int) < 0) = false from decide_eq_false (by omega)]
  refine own_round_eq (by rw [own_qmin]; decide) ?_
  unfold inUnits
  rw [own_qmin, show ((0 : Int) - -1074).toNat = 10 + own_k from rfl, Nat.pow_add, ← Nat.mul_assoc, own_ten]
theorem own_dv_l2d {a : Int64} {n : Nat} (h : a.toInt = (n : Int)) (hn : n < 2 ^ 43) : own_dv (Jvm.FP.l2d a) (n * 1024) := by
  refine own_of_round ?_ (by omega)
  show val64 (l2d a) = _
  rw [val64_l2d, h]
  show roundRatio b64 (decide ((n : Int) < 0)) n 1 0 = roundRatio b64 false (n * 1024) 1 (-10)
  rw [show decide ((n : Int) < 0) = false from decide_eq_false (by omega)]
  refine own_round_eq (by rw [own_qmin]; decide) ?_
  unfold inUnits
  rw [own_qmin, show ((0 : Int) - -1074).toNat = 10 + own_k from rfl, Nat.pow_add, ← Nat.mul_assoc, own_ten]
theorem own_val_1024 : val64 (4652218415073722368 : UInt64) = .fin false (2 ^ 52) (-42) := by decide +kernel
theorem own_dv_div {a : UInt64} {n : Nat} (h : own_dv a (n * 1024)) (hn : n < 2 ^ 53) : own_dv (Jvm.FP.ddiv a (4652218415073722368 : UInt64)) n := by
  obtain ⟨c, q, h1, h2, h3⟩ := h
  refine own_of_round ?_ hn
  show val64 (ddiv a (4652218415073722368 : UInt64)) = _
  rw [val64_ddiv, h1, own_val_1024]
  show (if (2 : Nat) ^ 52 = 0 then (if c = 0 then Datum.nan else Datum.inf (false != false)) else roundRatio b64 false c (2 ^ 52) (q - -42)) = roundRatio b64 false n 1 (-10)
  rw [if_neg (by decide)]
  rw [own_qmin] at h2
  unfold inUnits at h3
  rw [own_qmin] at h3
  refine roundRatio_congr (by decide) (by decide) ?_
  rw [Nat.mul_one]
  have hk := own_k_eq
  have e : c * 2 ^ (q - -1074).toNat = n * 2 ^ (10 + own_k) := by rw [h3, Nat.pow_add, ← Nat.mul_assoc, own_ten]
  by_cases k : q - -42 ≤ -10
  · rw [show (q - -42 - -10).toNat = 0 by omega, Nat.pow_zero, Nat.mul_one]
    refine Nat.eq_of_mul_eq_mul_right (Nat.two_pow_pos (q - -1074).toNat) ?_
    rw [e, Nat.mul_assoc, Nat.mul_assoc, ← Nat.pow_add, ← Nat.pow_add, show 52 + ((-10 - (q - -42)).toNat + (q - -1074).toNat) = 10 + own_k by omega]
  · rw [show (-10 - (q - -42)).toNat = 0 by omega, Nat.pow_zero, Nat.mul_one]
    refine Nat.eq_of_mul_eq_mul_right (Nat.two_pow_pos 1022) ?_
    rw [Nat.mul_assoc, ← Nat.pow_add, show (q - -42 - -10).toNat + 1022 = (q - -1074).toNat by omega, e, Nat.mul_assoc, ← Nat.pow_add, show 52 + 1022 = 10 + own_k by omega]
theorem own_dv_mul {a b : UInt64} {k w : Nat} (ha : own_dv a (k * 1024)) (hb : own_dv b w) (hn : k * w < 2 ^ 53) : own_dv (Jvm.FP.dmul a b) (k * w) := by
  obtain ⟨c, q, a1, a2, a3⟩ := ha
  obtain ⟨d, r, b1, b2, b3⟩ := hb
  refine own_of_round ?_ hn
  show val64 (dmul a b) = _
  rw [val64_dmul, a1, b1]
  show roundRatio b64 false (c * d) 1 (q + r) = roundRatio b64 false (k * w) 1 (-10)
  rw [own_qmin] at a2 b2
  unfold inUnits at a3 b3
  rw [own_qmin] at a3 b3
  have e : c * d * 2 ^ ((q - -1074).toNat + (r - -1074).toNat) = k * w * 2 ^ (10 + own_k + own_k) := by
    rw [Nat.pow_add, show c * d * (2 ^ (q - -1074).toNat * 2 ^ (r - -1074).toNat) = (c * 2 ^ (q - -1074).toNat) * (d * 2 ^ (r - -1074).toNat) by ac_rfl, a3, b3, Nat.pow_add, Nat.pow_add, own_ten]
    generalize 2 ^ own_k = E
    ac_rfl
  have hk := own_k_eq
  refine roundRatio_congr (by decide) (by decide) ?_
  rw [Nat.mul_one, Nat.mul_one]
  by_cases z : q + r ≤ -10
  · rw [show (q + r - -10).toNat = 0 by omega, Nat.pow_zero, Nat.mul_one]
    refine Nat.eq_of_mul_eq_mul_right (Nat.two_pow_pos ((q - -1074).toNat + (r - -1074).toNat)) ?_
    rw [e, Nat.mul_assoc (k * w), ← Nat.pow_add, show (-10 - (q + r)).toNat + ((q - -1074).toNat + (r - -1074).toNat) = 10 + own_k + own_k by omega]
  · rw [show (-10 - (q + r)).toNat = 0 by omega, Nat.pow_zero, Nat.mul_one]
    refine Nat.eq_of_mul_eq_mul_right (Nat.two_pow_pos (10 + own_k + own_k)) ?_
    rw [Nat.mul_assoc (c * d), ← Nat.pow_add, show (q + r - -10).toNat + (10 + own_k + own_k) = (q - -1074).toNat + (r - -1074).toNat by omega, e]
theorem own_units {c : Nat} {q e : Int} (h1 : b64.qmin ≤ e) (h2 : e ≤ q) : inUnits c q b64.qmin = inUnits c q e * 2 ^ (e - b64.qmin).toNat := by
  unfold inUnits
  rw [Nat.mul_assoc, ← Nat.pow_add, show (q - e).toNat + (e - b64.qmin).toNat = (q - b64.qmin).toNat by omega]
theorem own_dv_add {a b : UInt64} {m n : Nat} (ha : own_dv a m) (hb : own_dv b n) (hn : m + n < 2 ^ 53) : own_dv (Jvm.FP.dadd a b) (m + n) := by
  obtain ⟨c, q, a1, a2, a3⟩ := ha
  obtain ⟨d, r, b1, b2, b3⟩ := hb
  refine own_of_round ?_ hn
  show val64 (dadd a b) = _
  rw [val64_dadd, a1, b1]
  show roundRatio b64 (sumSign false false (sumUnits false c q false d r (min q r))) (sumUnits false c q false d r (min q r)).natAbs 1 (min q r) = roundRatio b64 false (m + n) 1 (-10)
  have hm : b64.qmin ≤ min q r := by omega
  have s1 : sumUnits false c q false d r (min q r) = ((inUnits c q (min q r) + inUnits d r (min q r) : Nat) : Int) := by
    unfold sumUnits signed; simp
  have s2 : sumSign false false (sumUnits false c q false d r (min q r)) = false := by
    rw [s1]; unfold sumSign; split
    · rfl
    · exact decide_eq_false (by omega)
  rw [s2, s1, Int.natAbs_natCast]
  refine own_round_eq hm ?_
  have u1 := own_units (c := c) hm (Int.min_le_left q r)
  have u2 := own_units (c := d) hm (Int.min_le_right q r)
  show (inUnits c q (min q r) + inUnits d r (min q r)) * 2 ^ (min q r - b64.qmin).toNat = _
  rw [Nat.add_mul, ← u1, ← u2, a3, b3, Nat.add_mul]
theorem own_dv_cmp {a b : UInt64} {n : Nat} (ha : own_dv a n) (hb : own_dv b n) : Jvm.FP.dcmp a b = some .eq := by
  obtain ⟨c, q, a1, a2, a3⟩ := ha
  obtain ⟨d, r, b1, b2, b3⟩ := hb
  show order (val64 a) (val64 b) = some .eq
  rw [a1, b1]
  show some (compare (signed false (inUnits c q (min q r))) (signed false (inUnits d r (min q r)))) = some .eq
  have hm : b64.qmin ≤ min q r := by omega
  have e : inUnits c q (min q r) = inUnits d r (min q r) := by
    have u1 := own_units (c := c) hm (Int.min_le_left q r)
    have u2 := own_units (c := d) hm (Int.min_le_right q r)
    refine Nat.eq_of_mul_eq_mul_right (Nat.two_pow_pos (min q r - b64.qmin).toNat) ?_
    rw [← u1, ← u2, a3, b3]
  rw [e]
  simp
theorem own_dv_zero : own_dv Jvm.FP.dconst0 0 := ⟨0, b64.qmin, val64_dconst0, Int.le_refl _, by unfold inUnits; simp⟩
theorem own_dv_num {a : UInt64} {n : Nat} (h : own_dv a n) : a &&& 0x7fffffffffffffff ≤ 0x7ff0000000000000 := by
  obtain ⟨c, q, a1, -⟩ := h
  have k := (ne_nan a).mp (by rw [a1]; intro z; cases z)
  rw [UInt64.le_iff_toNat_le, mask_toNat]
  exact k
end OwnFp

def own_minI (x y : Int32) : Int32 := if y < x then y else x
def own_mean (k : Nat) (m : Nat → Nat) : Nat → Nat
  | 0 => 0
  | j + 1 => own_mean k m j + (k + j) * m j
theorem own_mul_le {a b : Nat} (ha : a < 2147483648) (hb : b ≤ 1024) : a * b ≤ 2199023255552 := Nat.le_trans (Nat.mul_le_mul (Nat.le_of_lt ha) hb) (by decide)
theorem own_mean_le {k n : Nat} {m : Nat → Nat} (hk : k + n ≤ 2147483648) (hm : ∀ i, i < n → m i ≤ 1024) : ∀ j, j ≤ n → own_mean k m j ≤ j * 2199023255552
  | 0, _ => Nat.zero_le _
  | j + 1, h => by
    have h1 := own_mean_le hk hm j (by omega)
    have h2 := own_mul_le (a := k + j) (b := m j) (by omega) (hm j (by omega))
    show own_mean k m j + (k + j) * m j ≤ _
    omega
theorem own_inc (k : Nat) : Int32.ofNat k + (1 : Int32) = Int32.ofNat (k + 1) := (inc_ofNat k).symm
theorem own_lt {i n : Nat} (h : i < n) (hn : n ≤ 4) : Int32.ofNat i < Int32.ofNat n := by
  rw [Int32.lt_iff_toInt_lt, own_toInt (n := 5) (by omega) (by decide), own_toInt (n := 5) (by omega) (by decide)]; omega
theorem own_nlt (n : Nat) : ¬ Int32.ofNat n < Int32.ofNat n := by rw [Int32.lt_iff_toInt_lt]; omega
theorem own_at {xl : Int32} {kk nn i : Nat} (hk : xl.toInt = (kk : Int)) (hkn : kk + nn ≤ 2147483648) (hn : nn ≤ 4) (hi : i < nn) : (xl + Int32.ofNat i).toInt = ((kk + i : Nat) : Int) := by
  have c := c_iadd xl (Int32.ofNat i)
  have r := rng32 (xl + Int32.ofNat i)
  rw [hk, own_toInt (k := i) (n := 5) (by omega) (by decide)] at c
  omega
theorem own_n4 (x : Int32) : (1 : Int32) + (x &&& 3) = 1 ∨ (1 : Int32) + (x &&& 3) = 2 ∨ (1 : Int32) + (x &&& 3) = 3 ∨ (1 : Int32) + (x &&& 3) = 4 := by
  have e : (x &&& 3).toInt = x.toInt % 2 ^ 2 := Jvm.Kit.i32_mask x 3 (k := 2) (by decide) (by decide)
  have c := c_iadd 1 (x &&& 3)
  have r := rng32 ((1 : Int32) + (x &&& 3))
  have h1 : (1 : Int32).toInt = 1 := by decide
  have h2 : (2 : Int32).toInt = 2 := by decide
  have h3 : (3 : Int32).toInt = 3 := by decide
  have h4 : (4 : Int32).toInt = 4 := by decide
  rw [e, h1] at c
  simp only [← Int32.toInt_inj, h1, h2, h3, h4]
  omega
theorem own_mask (x : Int32) : (x &&& (2147483647 : Int32)).toInt = x.toInt % 2147483648 := Jvm.Kit.i32_mask x 2147483647 (k := 31) (by decide) (by decide)
theorem own_least (x d : Int32) {j : Nat} (hd : d.toInt = (j : Int)) (hj : j ≤ 3) : ∃ k : Nat, (own_minI (x &&& (2147483647 : Int32)) ((2147483647 : Int32) - d)).toInt = (k : Int) ∧ k + j ≤ 2147483647 := by
  have e := own_mask x
  have hM : (2147483647 : Int32).toInt = 2147483647 := by decide
  have c := c_isub (2147483647 : Int32) d
  have r := rng32 ((2147483647 : Int32) - d)
  rw [hM, hd] at c
  unfold own_minI
  by_cases q : (2147483647 : Int32) - d < x &&& (2147483647 : Int32)
  · rw [if_pos q]; exact ⟨((2147483647 : Int32) - d).toInt.toNat, by omega, by omega⟩
  · rw [if_neg q]
    rw [Int32.lt_iff_toInt_lt] at q
    exact ⟨(x &&& (2147483647 : Int32)).toInt.toNat, by omega, by omega⟩
theorem own_rem (x y : Int32) {b : Nat} (hy : y.toInt = (b : Int)) (hb : 0 < b) : ∃ k : Nat, ((x &&& (2147483647 : Int32)) % y).toInt = (k : Int) ∧ k < b := by
  have e := own_mask x
  have h : ((x &&& (2147483647 : Int32)) % y).toInt = (x &&& (2147483647 : Int32)).toInt.tmod y.toInt := Int32.toInt_mod _ _
  rw [Int.tmod_eq_emod_of_nonneg (by omega), hy] at h
  have h1 := Int.emod_nonneg (x &&& (2147483647 : Int32)).toInt (b := (b : Int)) (by omega)
  have h2 := Int.emod_lt_of_pos (x &&& (2147483647 : Int32)).toInt (b := (b : Int)) (by omega)
  exact ⟨((x &&& (2147483647 : Int32)) % y).toInt.toNat, by omega, by omega⟩
theorem own_sub {x y : Int32} {a b : Nat} (hx : x.toInt = (a : Int)) (hy : y.toInt = (b : Int)) (h : b ≤ a) : (x - y).toInt = ((a - b : Nat) : Int) := by
  have c := c_isub x y
  have r := rng32 (x - y)
  have r' := rng32 x
  rw [hx, hy] at c
  omega
theorem own_nz {x : Int32} {a : Nat} (hx : x.toInt = (a : Int)) (h : 0 < a) : x ≠ 0 := fun q => by rw [q, Int32.toInt_zero] at hx; omega
theorem own_num {l w1 w2 w3 : Int32} {k a b d : Nat} (hl : l.toInt = (k : Int)) (h1 : w1.toInt = (a : Int)) (h2 : w2.toInt = (b : Int)) (h3 : w3.toInt = (d : Int)) (ha : a ≤ 1024) (hb : b ≤ 1024) (hd : d ≤ 1024) :
    ((((l.toInt64 * (1024 : Int64)) + w1.toInt64) + ((2 : Int64) * w2.toInt64)) + ((3 : Int64) * w3.toInt64)).toInt = ((k * 1024 + a + 2 * b + 3 * d : Nat) : Int) := by
  have r := rng32 l
  have e1 : (1024 : Int64).toInt = 1024 := by decide
  have e2 : (2 : Int64).toInt = 2 := by decide
  have e3 : (3 : Int64).toInt = 3 := by decide
  have m1 : (l.toInt64 * (1024 : Int64)).toInt = k * 1024 := by rw [Jvm.Kit.i64_mul, Jvm.Kit.i64_of_i32, hl, e1] <;> rw [Jvm.Kit.i64_of_i32, hl, e1] <;> omega
  have m2 : ((2 : Int64) * w2.toInt64).toInt = 2 * b := by rw [Jvm.Kit.i64_mul, Jvm.Kit.i64_of_i32, h2, e2] <;> rw [Jvm.Kit.i64_of_i32, h2, e2] <;> omega
  have m3 : ((3 : Int64) * w3.toInt64).toInt = 3 * d := by rw [Jvm.Kit.i64_mul, Jvm.Kit.i64_of_i32, h3, e3] <;> rw [Jvm.Kit.i64_of_i32, h3, e3] <;> omega
  have s1 : (l.toInt64 * (1024 : Int64) + w1.toInt64).toInt = k * 1024 + a := by rw [Jvm.Kit.i64_add, Jvm.Kit.i64_of_i32, h1, m1] <;> rw [Jvm.Kit.i64_of_i32, h1, m1] <;> omega
  have s2 : (l.toInt64 * (1024 : Int64) + w1.toInt64 + (2 : Int64) * w2.toInt64).toInt = k * 1024 + a + 2 * b := by rw [Jvm.Kit.i64_add, s1, m2] <;> rw [s1, m2] <;> omega
  have s3 : (l.toInt64 * (1024 : Int64) + w1.toInt64 + (2 : Int64) * w2.toInt64 + (3 : Int64) * w3.toInt64).toInt = k * 1024 + a + 2 * b + 3 * d := by rw [Jvm.Kit.i64_add, s2, m3] <;> rw [s2, m3] <;> omega
  rw [s3]; omega
theorem own_ref {x : Int64} {n : Nat} (h : x.toInt = (n : Int)) (hn : n < 2 ^ 43) : own_dv (Jvm.FP.ddiv (Jvm.FP.l2d x) (4652218415073722368 : UInt64)) n := own_dv_div (own_dv_l2d h hn) (by omega)
theorem own_prob {w : Int32} {n : Nat} (h : w.toInt = (n : Int)) (hn : n ≤ 1024) : own_dv (Jvm.FP.ddiv (Jvm.FP.i2d w) (4652218415073722368 : UInt64)) n := own_dv_div (own_dv_i2d h) (by omega)
def own_l4 (a b c d : Nat) : Nat → Nat := fun i => if i = 0 then a else if i = 1 then b else if i = 2 then c else d
theorem own_eq {x y : UInt64} {n m : Nat} (hx : own_dv x n) (hy : own_dv y m) (h : n = m) : cmpValue (Jvm.FP.dcmp x y) .l = (0 : Int32) := by
  subst h; rw [own_dv_cmp hx hy]; rfl
theorem own_mean4 {k a b c d n : Nat} (hn : n = 1 ∨ n = 2 ∨ n = 3 ∨ n = 4) (hb : n ≤ 1 → b = 0) (hc : n ≤ 2 → c = 0) (hd : n ≤ 3 → d = 0) (h : a + b + c + d = 1024) : own_mean k (own_l4 a b c d) n = k * 1024 + b + 2 * c + 3 * d := by
  have e : k * 1024 = k * a + k * b + k * c + k * d := by rw [← h, Nat.mul_add, Nat.mul_add, Nat.mul_add]
  have u0 : own_mean k (own_l4 a b c d) 1 = 0 + (k + 0) * a := rfl
  have u1 : own_mean k (own_l4 a b c d) 2 = 0 + (k + 0) * a + (k + 1) * b := rfl
  have u2 : own_mean k (own_l4 a b c d) 3 = 0 + (k + 0) * a + (k + 1) * b + (k + 2) * c := rfl
  have u3 : own_mean k (own_l4 a b c d) 4 = 0 + (k + 0) * a + (k + 1) * b + (k + 2) * c + (k + 3) * d := rfl
  rw [e]
  rcases hn with rfl | rfl | rfl | rfl
  · have := hb (by decide); have := hc (by decide); have := hd (by decide); subst b c d
    rw [u0]; simp only [Nat.add_mul, Nat.mul_zero]; omega
  · have := hc (by decide); have := hd (by decide); subst c d
    rw [u1]; simp only [Nat.add_mul, Nat.mul_zero]; omega
  · have := hd (by decide); subst d
    rw [u2]; simp only [Nat.add_mul, Nat.mul_zero]; omega
  · rw [u3]; simp only [Nat.add_mul]; omega

theorem d1_0 : decode jdk_29_method_69_code 0 = .ok (.iload_n 0, 1) := by decide +kernel
theorem d1_1 : decode jdk_29_method_69_code 1 = .ok (.iload_n 1, 1) := by decide +kernel
theorem d1_2 : decode jdk_29_method_69_code 2 = .ok (.if_icmp .gt 7, 3) := by decide +kernel
theorem d1_9 : decode jdk_29_method_69_code 9 = .ok (.iload_n 1, 1) := by decide +kernel
theorem d1_10 : decode jdk_29_method_69_code 10 = .ok (.ireturn, 1) := by decide +kernel
theorem d1_5 : decode jdk_29_method_69_code 5 = .ok (.iload_n 0, 1) := by decide +kernel
theorem d1_6 : decode jdk_29_method_69_code 6 = .ok (.goto 4, 3) := by decide +kernel
theorem ef_1 (m : MethodId) (xx : Int32) (xy : Int32) : entryFrame m #[(.int xx), (.int xy)] 2 = mkF m 0 #[.val (.int xx), .val (.int xy)] [] := by first | (simp [entryFrame, mkF, argsToLocals, Value.category]; done) | rfl
def Q1 (Z : State) (xx : Int32) (xy : Int32) (h0 : Heap) (n0 : Nat) (v : Option Value) (h : Heap) (L : List Loc) : Prop := v = some (.int (own_minI xx xy)) ∧ Fr n0 L ∧ h = h0
set_option maxRecDepth 65536 in
set_option maxHeartbeats 40000000 in
theorem rm1 (l : Launch) (Z : State) (a0 : Array Value) (hw : ∀ d ∈ tables_1, d.before a0 Z = true) (ws : List Jvm.Cond) (xx : Int32) (xy : Int32) (h0 : Heap) (n0 : Nat) (Z0 : n0 ≤ h0.size) :
    MetFree l (⟨"java/lang/Math", "min", "(II)I"⟩ : MethodName) (head1 (Jvm.Cond.code (⟨"java/lang/Math", "min", "(II)I"⟩ : MethodName) jdk_29_method_69_code 2 (some .int) :: ws) ({ frames := 0, cells := 0, slots := 0, locals := 0 } : Room)) (fun a U => a = #[(.int xx), (.int xy)] ∧ Z.Warmed39 U.vm ∧ U.heap = h0) (fun _ _ _ _ _ => True) (fun _ U o U' => ∃ v L, o = .returned v ∧ Q1 Z xx xy h0 n0 v U'.heap L ∧ FrameEnd U o U' L ({ frames := 0, cells := 0, slots := 0, locals := 0 } : Room).cells ({ frames := 0, cells := 0, slots := 0, locals := 0 } : Room).slots) := by
  refine MetFree.of_bodySF (Jvm.Free.JP.mathPlain rfl (by decide +kernel)) hisR ?_
  intro p e s m args below meth c s₁ Bd hml0 hP hK
  obtain ⟨rfl, hZ, hh⟩ := hP
  have hx := Bd.exec
  have hby := Bd.bytes
  have hml : c.maxLocals = 2 := hml0
  have hown : s.vm.findClass "java/lang/Math" = some m.cls := findClass_of_methodNamed Bd.named
  have hnm := (name_of_methodNamed Bd.named Bd.method).1
  have X0 : Stand p l e ({ frames := 0, cells := 0, slots := 0, locals := 0 } : Room) s m #[(.int xx), (.int xy)] below meth c s₁ [] 0 0 := Stand.of_body Bd
  have e0 : s₁.heap = h0 := by rw [← hh, Bd.state]; rfl
  have N0 := Fr.nil n0
  have pre0 : ∀ t, Steps p.tables e below (s₁.setTop (mkF m 0 #[.val (.int xx), .val (.int xy)] [])) t → Steps p.tables e below (s₁.setTop (entryFrame m #[(.int xx), (.int xy)] 2)) t := fun t k => castTop (ef_1 m xx xy) k
  by_cases hc1 : xy < xx
  · obtain ⟨fs, hr, hrun, hended, hW, hsame⟩ := X0.leave (v := some (.int xy)) (fun h => by rw [Bd.returns] at h; cases h)
    refine ⟨_, _, pre0 _ ?_, hrun, hended, _, _, rfl, ?_, ⟨_, rfl⟩, hW, hsame.mono (by decide) (by decide)⟩
    · show Steps p.tables e below (s₁.setTop (mkF m 0 #[.val (.int xx), .val (.int xy)] [])) _
      refine XS.iloadN X0.here hx rfl (hb hby d1_0) rfl ?_
      show Steps p.tables e below (s₁.setTop (mkF m 1 #[.val (.int xx), .val (.int xy)] [(.int xx)])) _
      refine XS.iloadN X0.here hx rfl (hb hby d1_1) rfl ?_
      show Steps p.tables e below (s₁.setTop (mkF m 2 #[.val (.int xx), .val (.int xy)] [(.int xy), (.int xx)])) _
      refine XS.icmpYes X0.here hx rfl (pc0 := 2) (pc' := 9) rfl (hb hby d1_2) rfl (tlt hc1).2.2.1 (by decide) (by decide) ?_
      show Steps p.tables e below (s₁.setTop (mkF m 9 #[.val (.int xx), .val (.int xy)] [])) _
      refine XS.iloadN X0.here hx rfl (hb hby d1_9) rfl ?_
      show Steps p.tables e below (s₁.setTop (mkF m 10 #[.val (.int xx), .val (.int xy)] [(.int xy)])) _
      exact retI X0 hx Bd.returns (hb hby d1_10) hr
    · show Q1 Z xx xy h0 n0 _ s₁.heap _
      rw [e0]
      exact ⟨(congrArg some (congrArg Value.int (by simp [own_minI, hc1]))), N0, rfl⟩
  · obtain ⟨fs, hr, hrun, hended, hW, hsame⟩ := X0.leave (v := some (.int xx)) (fun h => by rw [Bd.returns] at h; cases h)
    refine ⟨_, _, pre0 _ ?_, hrun, hended, _, _, rfl, ?_, ⟨_, rfl⟩, hW, hsame.mono (by decide) (by decide)⟩
    · show Steps p.tables e below (s₁.setTop (mkF m 0 #[.val (.int xx), .val (.int xy)] [])) _
      refine XS.iloadN X0.here hx rfl (hb hby d1_0) rfl ?_
      show Steps p.tables e below (s₁.setTop (mkF m 1 #[.val (.int xx), .val (.int xy)] [(.int xx)])) _
      refine XS.iloadN X0.here hx rfl (hb hby d1_1) rfl ?_
      show Steps p.tables e below (s₁.setTop (mkF m 2 #[.val (.int xx), .val (.int xy)] [(.int xy), (.int xx)])) _
      refine XS.icmpNo X0.here hx rfl (hb hby d1_2) rfl (flt hc1).2.2.1 ?_
      show Steps p.tables e below (s₁.setTop (mkF m 5 #[.val (.int xx), .val (.int xy)] [])) _
      refine XS.iloadN X0.here hx rfl (hb hby d1_5) rfl ?_
      show Steps p.tables e below (s₁.setTop (mkF m 6 #[.val (.int xx), .val (.int xy)] [(.int xx)])) _
      refine XS.goto X0.here hx rfl (pc0 := 6) (pc' := 10) rfl (hb hby d1_6) (by decide) (by decide) ?_
      show Steps p.tables e below (s₁.setTop (mkF m 10 #[.val (.int xx), .val (.int xy)] [(.int xx)])) _
      exact retI X0 hx Bd.returns (hb hby d1_10) hr
    · show Q1 Z xx xy h0 n0 _ s₁.heap _
      rw [e0]
      exact ⟨(congrArg some (congrArg Value.int (by simp [own_minI, hc1]))), N0, rfl⟩

theorem d2_0 : decode prog_90_method_1_code 0 = .ok (.aload_n 0, 1) := by decide +kernel
theorem d2_1 : decode prog_90_method_1_code 1 = .ok (.invokespecial 1, 3) := by decide +kernel
theorem d2_4 : decode prog_90_method_1_code 4 = .ok (.aload_n 0, 1) := by decide +kernel
theorem d2_5 : decode prog_90_method_1_code 5 = .ok (.iload_n 1, 1) := by decide +kernel
theorem d2_6 : decode prog_90_method_1_code 6 = .ok (.putfield 7, 3) := by decide +kernel
theorem d2_9 : decode prog_90_method_1_code 9 = .ok (.aload_n 0, 1) := by decide +kernel
theorem d2_10 : decode prog_90_method_1_code 10 = .ok (.aload_n 2, 1) := by decide +kernel
theorem d2_11 : decode prog_90_method_1_code 11 = .ok (.putfield 13, 3) := by decide +kernel
theorem d2_14 : decode prog_90_method_1_code 14 = .ok (.return_, 1) := by decide +kernel
theorem pn_com_example_berthline_berthline_engine_pool_NextJobs : plainName "com/example/berthline/berthline/engine/pool/NextJobs" = true := by first | (simp [plainName, overriddenIn]; done) | decide +kernel
theorem ef_2 (m : MethodId) (aa : Addr) (xl : Int32) (ab : Addr) : entryFrame m #[(.ref aa), (.int xl), (.ref ab)] 3 = mkF m 0 #[.val (.ref aa), .val (.int xl), .val (.ref ab)] [] := by first | (simp [entryFrame, mkF, argsToLocals, Value.category]; done) | rfl
def Q2 (Z : State) (aa : Addr) (xl : Int32) (ab : Addr) (h0 : Heap) (n0 : Nat) (v : Option Value) (h : Heap) (L : List Loc) : Prop := v = none ∧ Fr n0 L ∧ Keep h0 h [aa] ∧ Exa Z h aa "com/example/berthline/berthline/engine/pool/NextJobs" ∧ Fld Z h aa "com/example/berthline/berthline/engine/pool/NextJobs" "least" "I" (.int xl) ∧ Fld Z h aa "com/example/berthline/berthline/engine/pool/NextJobs" "probabilities" "[D" (.ref ab)
set_option maxRecDepth 65536 in
set_option maxHeartbeats 40000000 in
theorem rm2 (l : Launch) (Z : State) (a0 : Array Value) (hw : ∀ d ∈ tables_1, d.before a0 Z = true) (ws : List Jvm.Cond) (aa : Addr) (xl : Int32) (ab : Addr) (h0 : Heap) (n0 : Nat) (Z0 : n0 ≤ h0.size) (E_a : Exa Z h0 aa "com/example/berthline/berthline/engine/pool/NextJobs") (F_l : Fld Z h0 aa "com/example/berthline/berthline/engine/pool/NextJobs" "least" "I" (.int (0 : Int32))) (F_p : Fld Z h0 aa "com/example/berthline/berthline/engine/pool/NextJobs" "probabilities" "[D" .null) (g_a : n0 ≤ aa) :
    MetFree l (⟨"com/example/berthline/berthline/engine/pool/NextJobs", "<init>", "(I[D)V"⟩ : MethodName) (head1 (Jvm.Cond.code (⟨"com/example/berthline/berthline/engine/pool/NextJobs", "<init>", "(I[D)V"⟩ : MethodName) prog_90_method_1_code 3 none :: ws) ({ frames := 1, cells := 0, slots := 0, locals := 12 } : Room)) (fun a U => a = #[(.ref aa), (.int xl), (.ref ab)] ∧ Z.Warmed39 U.vm ∧ U.heap = h0) (fun _ _ _ _ _ => True) (fun _ U o U' => ∃ v L, o = .returned v ∧ Q2 Z aa xl ab h0 n0 v U'.heap L ∧ FrameEnd U o U' L ({ frames := 1, cells := 0, slots := 0, locals := 12 } : Room).cells ({ frames := 1, cells := 0, slots := 0, locals := 12 } : Room).slots) := by
  refine MetFree.of_bodySF (plainFor_of_name pn_com_example_berthline_berthline_engine_pool_NextJobs) hisR ?_
  intro p e s m args below meth c s₁ Bd hml0 hP hK
  obtain ⟨rfl, hZ, hh⟩ := hP
  have hx := Bd.exec
  have hby := Bd.bytes
  have hml : c.maxLocals = 3 := hml0
  have hown : s.vm.findClass "com/example/berthline/berthline/engine/pool/NextJobs" = some m.cls := findClass_of_methodNamed Bd.named
  have hnm := (name_of_methodNamed Bd.named Bd.method).1
  have X0 : Stand p l e ({ frames := 1, cells := 0, slots := 0, locals := 12 } : Room) s m #[(.ref aa), (.int xl), (.ref ab)] below meth c s₁ [] 0 0 := Stand.of_body Bd
  have e0 : s₁.heap = h0 := by rw [← hh, Bd.state]; rfl
  have N0 := Fr.nil n0
  have pre0 : ∀ t, Steps p.tables e below (s₁.setTop (mkF m 0 #[.val (.ref aa), .val (.int xl), .val (.ref ab)] [])) t → Steps p.tables e below (s₁.setTop (entryFrame m #[(.ref aa), (.int xl), (.ref ab)] 3)) t := fun t k => castTop (ef_2 m aa xl ab) k
  obtain ⟨T2, X2, e2, st2⟩ := initO X0 hx hZ hown (hw _ (List.mem_of_getElem? (i := 13) rfl)) (hw _ (List.mem_of_getElem? (i := 14) rfl)) (hw _ (List.mem_of_getElem? (i := 15) rfl)) e0 (g := (mkF m 1 #[.val (.ref aa), .val (.int xl), .val (.ref ab)] [(.ref aa)])) rfl (by rw [hml]; rfl) rfl (hb hby d2_1) (by decide) (W := 0) (by show 2 * 0 + _ ≤ _; exact Nat.le_of_eq rfl) (by decide)
  obtain ⟨T3, h3, X3, e3, W3, st3⟩ := putF X2 hx hZ hown (host := "") (Or.inl (hw _ (List.mem_of_getElem? (i := 16) rfl))) Via.refl e2 F_l E_a (Or.inr ⟨(hw _ (List.mem_of_getElem? (i := 17) rfl)), rfl, hnm⟩) (hw _ (List.mem_of_getElem? (i := 8) rfl)) (ty := .int) (by decide) rfl rfl (g := (mkF m 6 #[.val (.ref aa), .val (.int xl), .val (.ref ab)] [(.int xl), (.ref aa)])) rfl rfl (hb hby d2_6)
  have Fw3 : Fld Z h3 aa "com/example/berthline/berthline/engine/pool/NextJobs" "least" "I" (.int xl) := Fld.same W3 F_l
  have E_4 := E_a.wr W3
  have F_5 := F_p.other W3 (Or.inr (slot_ne (Or.inr (hw _ (List.mem_of_getElem? (i := 19) rfl))) (Or.inr (hw _ (List.mem_of_getElem? (i := 17) rfl))) (by decide) (t := (.array .double)) (t' := .int) (by decide) (by decide)))
  have N3 := Fr.snoc X3 N0 g_a
  have Z3 : n0 ≤ h3.size := Nat.le_trans Z0 (Keep.of_wr W3).1
  have K3 : Keep h0 h3 [aa] := (Keep.refl h0 [aa]).wr W3 (Or.inl (List.mem_of_getElem? (i := 0) rfl))
  obtain ⟨T6, h6, X6, e6, W6, st6⟩ := putF X3 hx hZ hown (host := "") (Or.inl (hw _ (List.mem_of_getElem? (i := 18) rfl))) Via.refl e3 F_5 E_4 (Or.inr ⟨(hw _ (List.mem_of_getElem? (i := 19) rfl)), rfl, hnm⟩) (hw _ (List.mem_of_getElem? (i := 8) rfl)) (ty := (.array .double)) (by decide) rfl rfl (g := (mkF m 11 #[.val (.ref aa), .val (.int xl), .val (.ref ab)] [(.ref ab), (.ref aa)])) rfl rfl (hb hby d2_11)
  have Fw6 : Fld Z h6 aa "com/example/berthline/berthline/engine/pool/NextJobs" "probabilities" "[D" (.ref ab) := Fld.same W6 F_5
  have E_7 := E_4.wr W6
  have F_8 := Fw3.other W6 (Or.inr (slot_ne (Or.inr (hw _ (List.mem_of_getElem? (i := 17) rfl))) (Or.inr (hw _ (List.mem_of_getElem? (i := 19) rfl))) (by decide) (t := .int) (t' := (.array .double)) (by decide) (by decide)))
  have N6 := Fr.snoc X6 N3 g_a
  have Z6 : n0 ≤ h6.size := Nat.le_trans Z3 (Keep.of_wr W6).1
  have K6 : Keep h0 h6 [aa] := K3.wr W6 (Or.inl (List.mem_of_getElem? (i := 0) rfl))
  obtain ⟨fs, hr, hrun, hended, hW, hsame⟩ := X6.leave (v := none) (fun _ => rfl)
  refine ⟨_, _, pre0 _ ?_, hrun, hended, _, _, rfl, ?_, ⟨_, rfl⟩, hW, hsame.mono (by decide) (by decide)⟩
  · show Steps p.tables e below (s₁.setTop (mkF m 0 #[.val (.ref aa), .val (.int xl), .val (.ref ab)] [])) _
    refine XS.aloadN X0.here hx rfl (hb hby d2_0) rfl rfl ?_
    show Steps p.tables e below (s₁.setTop (mkF m 1 #[.val (.ref aa), .val (.int xl), .val (.ref ab)] [(.ref aa)])) _
    refine st2 _ ?_
    show Steps p.tables e below (T2.setTop (mkF m 4 #[.val (.ref aa), .val (.int xl), .val (.ref ab)] [])) _
    refine XS.aloadN X2.here hx rfl (hb hby d2_4) rfl rfl ?_
    show Steps p.tables e below (T2.setTop (mkF m 5 #[.val (.ref aa), .val (.int xl), .val (.ref ab)] [(.ref aa)])) _
    refine XS.iloadN X2.here hx rfl (hb hby d2_5) rfl ?_
    show Steps p.tables e below (T2.setTop (mkF m 6 #[.val (.ref aa), .val (.int xl), .val (.ref ab)] [(.int xl), (.ref aa)])) _
    refine st3 _ ?_
    show Steps p.tables e below (T3.setTop (mkF m 9 #[.val (.ref aa), .val (.int xl), .val (.ref ab)] [])) _
    refine XS.aloadN X3.here hx rfl (hb hby d2_9) rfl rfl ?_
    show Steps p.tables e below (T3.setTop (mkF m 10 #[.val (.ref aa), .val (.int xl), .val (.ref ab)] [(.ref aa)])) _
    refine XS.aloadN X3.here hx rfl (hb hby d2_10) rfl rfl ?_
    show Steps p.tables e below (T3.setTop (mkF m 11 #[.val (.ref aa), .val (.int xl), .val (.ref ab)] [(.ref ab), (.ref aa)])) _
    refine st6 _ ?_
    show Steps p.tables e below (T6.setTop (mkF m 14 #[.val (.ref aa), .val (.int xl), .val (.ref ab)] [])) _
    exact X6.returnOut hx Bd.returns (hb hby d2_14) hr
  · show Q2 Z aa xl ab h0 n0 _ T6.heap _
    rw [e6]
    exact ⟨rfl, N6, K6, E_7, F_8, Fw6⟩

theorem d4_4 : decode prog_90_method_8_code 4 = .ok (.iload_n 3, 1) := by decide +kernel
theorem d4_5 : decode prog_90_method_8_code 5 = .ok (.aload_n 0, 1) := by decide +kernel
theorem d4_6 : decode prog_90_method_8_code 6 = .ok (.getfield 13, 3) := by decide +kernel
theorem d4_9 : decode prog_90_method_8_code 9 = .ok (.arraylength, 1) := by decide +kernel
theorem d4_10 : decode prog_90_method_8_code 10 = .ok (.if_icmp .ge 26, 3) := by decide +kernel
theorem d4_13 : decode prog_90_method_8_code 13 = .ok (.dload_n 1, 1) := by decide +kernel
theorem d4_14 : decode prog_90_method_8_code 14 = .ok (.aload_n 0, 1) := by decide +kernel
theorem d4_15 : decode prog_90_method_8_code 15 = .ok (.getfield 7, 3) := by decide +kernel
theorem d4_18 : decode prog_90_method_8_code 18 = .ok (.iload_n 3, 1) := by decide +kernel
theorem d4_19 : decode prog_90_method_8_code 19 = .ok (.iadd, 1) := by decide +kernel
theorem d4_20 : decode prog_90_method_8_code 20 = .ok (.i2d, 1) := by decide +kernel
theorem d4_21 : decode prog_90_method_8_code 21 = .ok (.aload_n 0, 1) := by decide +kernel
theorem d4_22 : decode prog_90_method_8_code 22 = .ok (.getfield 13, 3) := by decide +kernel
theorem d4_25 : decode prog_90_method_8_code 25 = .ok (.iload_n 3, 1) := by decide +kernel
theorem d4_26 : decode prog_90_method_8_code 26 = .ok (.daload, 1) := by decide +kernel
theorem d4_27 : decode prog_90_method_8_code 27 = .ok (.dmul, 1) := by decide +kernel
theorem d4_28 : decode prog_90_method_8_code 28 = .ok (.dadd, 1) := by decide +kernel
theorem d4_29 : decode prog_90_method_8_code 29 = .ok (.dstore_n 1, 1) := by decide +kernel
theorem d4_30 : decode prog_90_method_8_code 30 = .ok (.iinc 3 1, 3) := by decide +kernel
theorem d4_33 : decode prog_90_method_8_code 33 = .ok (.goto (-29), 3) := by decide +kernel
theorem d4_0 : decode prog_90_method_8_code 0 = .ok (.dconst 0, 1) := by decide +kernel
theorem d4_1 : decode prog_90_method_8_code 1 = .ok (.dstore_n 1, 1) := by decide +kernel
theorem d4_2 : decode prog_90_method_8_code 2 = .ok (.iconst 0, 1) := by decide +kernel
theorem d4_3 : decode prog_90_method_8_code 3 = .ok (.istore_n 3, 1) := by decide +kernel
theorem d4_36 : decode prog_90_method_8_code 36 = .ok (.dload_n 1, 1) := by decide +kernel
theorem d4_37 : decode prog_90_method_8_code 37 = .ok (.dreturn, 1) := by decide +kernel
theorem ef_4 (m : MethodId) (aa : Addr) : entryFrame m #[(.ref aa)] 4 = mkF m 0 #[.val (.ref aa), .unset, .unset, .unset] [] := by first | (simp [entryFrame, mkF, argsToLocals, Value.category]; done) | rfl
def Q4 (Z : State) (aa : Addr) (xl : Int32) (ab : Addr) (nn : Nat) (ff : Nat → UInt64) (kk : Nat) (mm : Nat → Nat) (h0 : Heap) (n0 : Nat) (v : Option Value) (h : Heap) (L : List Loc) : Prop := ∃ (rr : UInt64), v = some (.double rr) ∧ Fr n0 L ∧ h = h0 ∧ own_dv rr (own_mean kk mm nn)
set_option maxRecDepth 65536 in
set_option maxHeartbeats 40000000 in
theorem rm4 (l : Launch) (Z : State) (a0 : Array Value) (hw : ∀ d ∈ tables_1, d.before a0 Z = true) (ws : List Jvm.Cond) (aa : Addr) (xl : Int32) (ab : Addr) (nn : Nat) (ff : Nat → UInt64) (kk : Nat) (mm : Nat → Nat) (h0 : Heap) (n0 : Nat) (Z0 : n0 ≤ h0.size) (F_l : Fld Z h0 aa "com/example/berthline/berthline/engine/pool/NextJobs" "least" "I" (.int xl)) (F_p : Fld Z h0 aa "com/example/berthline/berthline/engine/pool/NextJobs" "probabilities" "[D" (.ref ab)) (V_p : DA Z h0 ab nn ff) (hk : xl.toInt = (kk : Int)) (hkn : kk + nn ≤ 2147483648) (hn : nn ≤ 4) (hf : ∀ i, i < nn → own_dv (ff i) (mm i)) (hm : ∀ i, i < nn → mm i ≤ 1024) :
    MetFree l (⟨"com/example/berthline/berthline/engine/pool/NextJobs", "mean", "()D"⟩ : MethodName) (head1 (Jvm.Cond.code (⟨"com/example/berthline/berthline/engine/pool/NextJobs", "mean", "()D"⟩ : MethodName) prog_90_method_8_code 4 (some .double) :: ws) ({ frames := 0, cells := 0, slots := 0, locals := 0 } : Room)) (fun a U => a = #[(.ref aa)] ∧ Z.Warmed39 U.vm ∧ U.heap = h0) (fun _ _ _ _ _ => True) (fun _ U o U' => ∃ v L, o = .returned v ∧ Q4 Z aa xl ab nn ff kk mm h0 n0 v U'.heap L ∧ FrameEnd U o U' L ({ frames := 0, cells := 0, slots := 0, locals := 0 } : Room).cells ({ frames := 0, cells := 0, slots := 0, locals := 0 } : Room).slots) := by
  refine MetFree.of_bodySF (plainFor_of_name pn_com_example_berthline_berthline_engine_pool_NextJobs) hisR ?_
  intro p e s m args below meth c s₁ Bd hml0 hP hK
  obtain ⟨rfl, hZ, hh⟩ := hP
  have hx := Bd.exec
  have hby := Bd.bytes
  have hml : c.maxLocals = 4 := hml0
  have hown : s.vm.findClass "com/example/berthline/berthline/engine/pool/NextJobs" = some m.cls := findClass_of_methodNamed Bd.named
  have hnm := (name_of_methodNamed Bd.named Bd.method).1
  have X0 : Stand p l e ({ frames := 0, cells := 0, slots := 0, locals := 0 } : Room) s m #[(.ref aa)] below meth c s₁ [] 0 0 := Stand.of_body Bd
  have e0 : s₁.heap = h0 := by rw [← hh, Bd.state]; rfl
  have N0 := Fr.nil n0
  have pre0 : ∀ t, Steps p.tables e below (s₁.setTop (mkF m 0 #[.val (.ref aa), .unset, .unset, .unset] [])) t → Steps p.tables e below (s₁.setTop (entryFrame m #[(.ref aa)] 4)) t := fun t k => castTop (ef_4 m aa) k
  have loop : ∀ (r i : Nat) (acc : UInt64) (TL : State), i + r = nn → own_dv acc (own_mean kk mm i) → Stand p l e ({ frames := 0, cells := 0, slots := 0, locals := 0 } : Room) s m #[(.ref aa)] below meth c TL [] 0 0 → TL.heap = h0 → ∃ (T' : State) (rr : UInt64), Stand p l e ({ frames := 0, cells := 0, slots := 0, locals := 0 } : Room) s m #[(.ref aa)] below meth c T' [] 0 0 ∧ T'.heap = h0 ∧ own_dv rr (own_mean kk mm nn) ∧ ∀ t, Steps p.tables e below (T'.setTop (mkF m 36 #[.val (.ref aa), .val (.double rr), .second, .val (.int (Int32.ofNat nn))] [])) t → Steps p.tables e below (TL.setTop (mkF m 4 #[.val (.ref aa), .val (.double acc), .second, .val (.int (Int32.ofNat i))] [])) t := by
    intro r
    induction r with
    | zero =>
      intro i acc TL hir hacc XL eL
      obtain rfl : i = nn := by omega
      obtain ⟨T9, X9, e9, st9⟩ := getF XL hx hZ hown (host := "") (Or.inl (hw _ (List.mem_of_getElem? (i := 18) rfl))) Via.refl eL F_p (g := (mkF m 6 #[.val (.ref aa), .val (.double acc), .second, .val (.int (Int32.ofNat i))] [(.ref aa), (.int (Int32.ofNat i))])) rfl rfl (hb hby d4_6)
      refine ⟨T9, _, X9, e9, hacc, fun t kt => ?_⟩
      show Steps p.tables e below (TL.setTop (mkF m 4 #[.val (.ref aa), .val (.double acc), .second, .val (.int (Int32.ofNat i))] [])) _
      refine XS.iloadN XL.here hx rfl (hb hby d4_4) rfl ?_
      show Steps p.tables e below (TL.setTop (mkF m 5 #[.val (.ref aa), .val (.double acc), .second, .val (.int (Int32.ofNat i))] [(.int (Int32.ofNat i))])) _
      refine XS.aloadN XL.here hx rfl (hb hby d4_5) rfl rfl ?_
      show Steps p.tables e below (TL.setTop (mkF m 6 #[.val (.ref aa), .val (.double acc), .second, .val (.int (Int32.ofNat i))] [(.ref aa), (.int (Int32.ofNat i))])) _
      refine st9 _ ?_
      show Steps p.tables e below (T9.setTop (mkF m 9 #[.val (.ref aa), .val (.double acc), .second, .val (.int (Int32.ofNat i))] [(.ref ab), (.int (Int32.ofNat i))])) _
      refine own_len X9 hx hZ e9 V_p.cell (z := (Int32.ofNat i)) rfl (g := (mkF m 9 #[.val (.ref aa), .val (.double acc), .second, .val (.int (Int32.ofNat i))] [(.ref ab), (.int (Int32.ofNat i))])) rfl rfl (hb hby d4_9) _ ?_
      show Steps p.tables e below (T9.setTop (mkF m 10 #[.val (.ref aa), .val (.double acc), .second, .val (.int (Int32.ofNat i))] [(.int (Int32.ofNat i)), (.int (Int32.ofNat i))])) _
      refine XS.icmpYes X9.here hx rfl (pc0 := 10) (pc' := 36) rfl (hb hby d4_10) rfl (flt (own_nlt _)).2.1 (by decide) (by decide) ?_
      exact kt
    | succ r ih =>
      intro i acc TL hir hacc XL eL
      have hi : i < nn := by omega
      obtain ⟨T10, X10, e10, st10⟩ := getF XL hx hZ hown (host := "") (Or.inl (hw _ (List.mem_of_getElem? (i := 18) rfl))) Via.refl eL F_p (g := (mkF m 6 #[.val (.ref aa), .val (.double acc), .second, .val (.int (Int32.ofNat i))] [(.ref aa), (.int (Int32.ofNat i))])) rfl rfl (hb hby d4_6)
      obtain ⟨T11, X11, e11, st11⟩ := getF X10 hx hZ hown (host := "") (Or.inl (hw _ (List.mem_of_getElem? (i := 16) rfl))) Via.refl e10 F_l (g := (mkF m 15 #[.val (.ref aa), .val (.double acc), .second, .val (.int (Int32.ofNat i))] [(.ref aa), (.double acc)])) rfl rfl (hb hby d4_15)
      obtain ⟨T12, X12, e12, st12⟩ := getF X11 hx hZ hown (host := "") (Or.inl (hw _ (List.mem_of_getElem? (i := 18) rfl))) Via.refl e11 F_p (g := (mkF m 22 #[.val (.ref aa), .val (.double acc), .second, .val (.int (Int32.ofNat i))] [(.ref aa), (.double (Jvm.FP.i2d (xl + (Int32.ofNat i)))), (.double acc)])) rfl rfl (hb hby d4_22)
      have hprod := own_dv_mul (own_dv_i2d (own_at hk hkn hn hi)) (hf i hi) (Nat.lt_of_le_of_lt (own_mul_le (by omega) (hm i hi)) (by decide))
      have hle := own_mean_le hkn hm i (by omega)
      have hpl := own_mul_le (a := kk + i) (b := mm i) (by omega) (hm i hi)
      have hsum := own_dv_add hacc hprod (by omega)
      obtain ⟨T', rr, X', e', hrr, st'⟩ := ih (i + 1) (Jvm.FP.dadd acc (Jvm.FP.dmul (Jvm.FP.i2d (xl + (Int32.ofNat i))) (ff i))) T12 (by omega) hsum X12 e12
      refine ⟨T', rr, X', e', hrr, fun t kt => ?_⟩
      show Steps p.tables e below (TL.setTop (mkF m 4 #[.val (.ref aa), .val (.double acc), .second, .val (.int (Int32.ofNat i))] [])) _
      refine XS.iloadN XL.here hx rfl (hb hby d4_4) rfl ?_
      show Steps p.tables e below (TL.setTop (mkF m 5 #[.val (.ref aa), .val (.double acc), .second, .val (.int (Int32.ofNat i))] [(.int (Int32.ofNat i))])) _
      refine XS.aloadN XL.here hx rfl (hb hby d4_5) rfl rfl ?_
      show Steps p.tables e below (TL.setTop (mkF m 6 #[.val (.ref aa), .val (.double acc), .second, .val (.int (Int32.ofNat i))] [(.ref aa), (.int (Int32.ofNat i))])) _
      refine st10 _ ?_
      show Steps p.tables e below (T10.setTop (mkF m 9 #[.val (.ref aa), .val (.double acc), .second, .val (.int (Int32.ofNat i))] [(.ref ab), (.int (Int32.ofNat i))])) _
      refine own_len X10 hx hZ e10 V_p.cell (z := (Int32.ofNat nn)) rfl (g := (mkF m 9 #[.val (.ref aa), .val (.double acc), .second, .val (.int (Int32.ofNat i))] [(.ref ab), (.int (Int32.ofNat i))])) rfl rfl (hb hby d4_9) _ ?_
      show Steps p.tables e below (T10.setTop (mkF m 10 #[.val (.ref aa), .val (.double acc), .second, .val (.int (Int32.ofNat i))] [(.int (Int32.ofNat nn)), (.int (Int32.ofNat i))])) _
      refine XS.icmpNo X10.here hx rfl (hb hby d4_10) rfl (tlt (own_lt hi hn)).2.1 ?_
      show Steps p.tables e below (T10.setTop (mkF m 13 #[.val (.ref aa), .val (.double acc), .second, .val (.int (Int32.ofNat i))] [])) _
      refine XS.dloadN X10.here hx rfl (hb hby d4_13) rfl ?_
      show Steps p.tables e below (T10.setTop (mkF m 14 #[.val (.ref aa), .val (.double acc), .second, .val (.int (Int32.ofNat i))] [(.double acc)])) _
      refine XS.aloadN X10.here hx rfl (hb hby d4_14) rfl rfl ?_
      show Steps p.tables e below (T10.setTop (mkF m 15 #[.val (.ref aa), .val (.double acc), .second, .val (.int (Int32.ofNat i))] [(.ref aa), (.double acc)])) _
      refine st11 _ ?_
      show Steps p.tables e below (T11.setTop (mkF m 18 #[.val (.ref aa), .val (.double acc), .second, .val (.int (Int32.ofNat i))] [(.int xl), (.double acc)])) _
      refine XS.iloadN X11.here hx rfl (hb hby d4_18) rfl ?_
      show Steps p.tables e below (T11.setTop (mkF m 19 #[.val (.ref aa), .val (.double acc), .second, .val (.int (Int32.ofNat i))] [(.int (Int32.ofNat i)), (.int xl), (.double acc)])) _
      refine XS.iadd X11.here hx rfl (hb hby d4_19) rfl ?_
      show Steps p.tables e below (T11.setTop (mkF m 20 #[.val (.ref aa), .val (.double acc), .second, .val (.int (Int32.ofNat i))] [(.int (xl + (Int32.ofNat i))), (.double acc)])) _
      refine XS.i2dS X11.here hx rfl (hb hby d4_20) rfl rfl ?_
      show Steps p.tables e below (T11.setTop (mkF m 21 #[.val (.ref aa), .val (.double acc), .second, .val (.int (Int32.ofNat i))] [(.double (Jvm.FP.i2d (xl + (Int32.ofNat i)))), (.double acc)])) _
      refine XS.aloadN X11.here hx rfl (hb hby d4_21) rfl rfl ?_
      show Steps p.tables e below (T11.setTop (mkF m 22 #[.val (.ref aa), .val (.double acc), .second, .val (.int (Int32.ofNat i))] [(.ref aa), (.double (Jvm.FP.i2d (xl + (Int32.ofNat i)))), (.double acc)])) _
      refine st12 _ ?_
      show Steps p.tables e below (T12.setTop (mkF m 25 #[.val (.ref aa), .val (.double acc), .second, .val (.int (Int32.ofNat i))] [(.ref ab), (.double (Jvm.FP.i2d (xl + (Int32.ofNat i)))), (.double acc)])) _
      refine XS.iloadN X12.here hx rfl (hb hby d4_25) rfl ?_
      show Steps p.tables e below (T12.setTop (mkF m 26 #[.val (.ref aa), .val (.double acc), .second, .val (.int (Int32.ofNat i))] [(.int (Int32.ofNat i)), (.ref ab), (.double (Jvm.FP.i2d (xl + (Int32.ofNat i)))), (.double acc)])) _
      refine DA.load X12 hx hZ e12 V_p i (own_cl (n := 5) (by omega) (by decide)) (own_nn (n := 5) (by omega) (by decide)) hi (g := (mkF m 26 #[.val (.ref aa), .val (.double acc), .second, .val (.int (Int32.ofNat i))] [(.int (Int32.ofNat i)), (.ref ab), (.double (Jvm.FP.i2d (xl + (Int32.ofNat i)))), (.double acc)])) rfl rfl (hb hby d4_26) _ ?_
      show Steps p.tables e below (T12.setTop (mkF m 27 #[.val (.ref aa), .val (.double acc), .second, .val (.int (Int32.ofNat i))] [(.double (ff i)), (.double (Jvm.FP.i2d (xl + (Int32.ofNat i)))), (.double acc)])) _
      refine XS.dmulS X12.here hx rfl (hb hby d4_27) rfl (own_dv_num hprod) rfl ?_
      show Steps p.tables e below (T12.setTop (mkF m 28 #[.val (.ref aa), .val (.double acc), .second, .val (.int (Int32.ofNat i))] [(.double (Jvm.FP.dmul (Jvm.FP.i2d (xl + (Int32.ofNat i))) (ff i))), (.double acc)])) _
      refine XS.daddS X12.here hx rfl (hb hby d4_28) rfl (own_dv_num hsum) rfl ?_
      show Steps p.tables e below (T12.setTop (mkF m 29 #[.val (.ref aa), .val (.double acc), .second, .val (.int (Int32.ofNat i))] [(.double (Jvm.FP.dadd acc (Jvm.FP.dmul (Jvm.FP.i2d (xl + (Int32.ofNat i))) (ff i))))])) _
      refine XS.dstoreN X12.here hx rfl (hb hby d4_29) rfl (l' := #[.val (.ref aa), .val (.double (Jvm.FP.dadd acc (Jvm.FP.dmul (Jvm.FP.i2d (xl + (Int32.ofNat i))) (ff i)))), .second, .val (.int (Int32.ofNat i))]) rfl ?_
      show Steps p.tables e below (T12.setTop (mkF m 30 #[.val (.ref aa), .val (.double (Jvm.FP.dadd acc (Jvm.FP.dmul (Jvm.FP.i2d (xl + (Int32.ofNat i))) (ff i)))), .second, .val (.int (Int32.ofNat i))] [])) _
      refine XS.iinc X12.here hx rfl (hb hby d4_30) rfl (l' := #[.val (.ref aa), .val (.double (Jvm.FP.dadd acc (Jvm.FP.dmul (Jvm.FP.i2d (xl + (Int32.ofNat i))) (ff i)))), .second, .val (.int ((Int32.ofNat i) + (1 : Int32)))]) rfl ?_
      show Steps p.tables e below (T12.setTop (mkF m 33 #[.val (.ref aa), .val (.double (Jvm.FP.dadd acc (Jvm.FP.dmul (Jvm.FP.i2d (xl + (Int32.ofNat i))) (ff i)))), .second, .val (.int ((Int32.ofNat i) + (1 : Int32)))] [])) _
      refine castTop (g' := (mkF m 33 #[.val (.ref aa), .val (.double (Jvm.FP.dadd acc (Jvm.FP.dmul (Jvm.FP.i2d (xl + (Int32.ofNat i))) (ff i)))), .second, .val (.int (Int32.ofNat (i + 1)))] [])) (by rw [own_inc]) ?_
      show Steps p.tables e below (T12.setTop (mkF m 33 #[.val (.ref aa), .val (.double (Jvm.FP.dadd acc (Jvm.FP.dmul (Jvm.FP.i2d (xl + (Int32.ofNat i))) (ff i)))), .second, .val (.int (Int32.ofNat (i + 1)))] [])) _
      refine XS.goto X12.here hx rfl (pc0 := 33) (pc' := 4) rfl (hb hby d4_33) (by decide) (by decide) ?_
      exact st' t kt
  obtain ⟨T13, r13, X13, e13, hr13, st13⟩ := loop nn 0 Jvm.FP.dconst0 s₁ (by omega) own_dv_zero X0 e0
  obtain ⟨fs, hr, hrun, hended, hW, hsame⟩ := X13.leave (v := some (.double r13)) (fun h => by rw [Bd.returns] at h; cases h)
  refine ⟨_, _, pre0 _ ?_, hrun, hended, _, _, rfl, ?_, ⟨_, rfl⟩, hW, hsame.mono (by decide) (by decide)⟩
  · show Steps p.tables e below (s₁.setTop (mkF m 0 #[.val (.ref aa), .unset, .unset, .unset] [])) _
    refine XS.dconst0 X0.here hx rfl (hb hby d4_0) rfl ?_
    show Steps p.tables e below (s₁.setTop (mkF m 1 #[.val (.ref aa), .unset, .unset, .unset] [(.double Jvm.FP.dconst0)])) _
    refine XS.dstoreN X0.here hx rfl (hb hby d4_1) rfl (l' := #[.val (.ref aa), .val (.double Jvm.FP.dconst0), .second, .unset]) rfl ?_
    show Steps p.tables e below (s₁.setTop (mkF m 2 #[.val (.ref aa), .val (.double Jvm.FP.dconst0), .second, .unset] [])) _
    refine XS.iconst X0.here hx rfl (hb hby d4_2) ?_
    show Steps p.tables e below (s₁.setTop (mkF m 3 #[.val (.ref aa), .val (.double Jvm.FP.dconst0), .second, .unset] [(.int (0 : Int32))])) _
    refine XS.istoreN X0.here hx rfl (hb hby d4_3) rfl (l' := #[.val (.ref aa), .val (.double Jvm.FP.dconst0), .second, .val (.int (0 : Int32))]) rfl ?_
    show Steps p.tables e below (s₁.setTop (mkF m 4 #[.val (.ref aa), .val (.double Jvm.FP.dconst0), .second, .val (.int (Int32.ofNat 0))] [])) _
    refine st13 _ ?_
    show Steps p.tables e below (T13.setTop (mkF m 36 #[.val (.ref aa), .val (.double r13), .second, .val (.int (Int32.ofNat nn))] [])) _
    refine XS.dloadN X13.here hx rfl (hb hby d4_36) rfl ?_
    show Steps p.tables e below (T13.setTop (mkF m 37 #[.val (.ref aa), .val (.double r13), .second, .val (.int (Int32.ofNat nn))] [(.double r13)])) _
    jvm_step X13.here [X13.here.top, hx, (hb hby d4_37), X13.method', Bd.returns, narrow]
    first | (intro acts; rw [hr _ acts rfl rfl rfl]) | rw [hr _ _ rfl rfl rfl]
    exact Steps.refl _
  · show Q4 Z aa xl ab nn ff kk mm h0 n0 _ T13.heap _
    rw [e13]
    exact ⟨r13, rfl, N0, rfl, hr13⟩

theorem pd_710716 : parseMethodDescriptor "(II)I" = some ⟨[.int, .int], some .int⟩ := by decide +kernel
theorem pd_79383 : parseMethodDescriptor "(I[D)V" = some ⟨[.int, (.array .double)], none⟩ := by decide +kernel
theorem pd_66659 : parseMethodDescriptor "()D" = some ⟨[], some .double⟩ := by decide +kernel
theorem pn_com_example_berthline_berthline_engine_pool_NextJobsMeanPinLaw : plainName "com/example/berthline/berthline/engine/pool/NextJobsMeanPinLaw" = true := by first | (simp [plainName, overriddenIn]; done) | decide +kernel
theorem ef_0 (m : MethodId) (x0 : Int32) (x1 : Int32) (x2 : Int32) (x3 : Int32) (x4 : Int32) : entryFrame m #[(.int x0), (.int x1), (.int x2), (.int x3), (.int x4)] maxLocals = mkF m 0 #[.val (.int x0), .val (.int x1), .val (.int x2), .val (.int x3), .val (.int x4), .unset, .unset, .unset, .unset, .unset, .unset, .unset, .unset, .unset, .unset, .unset, .unset, .unset, .unset] [] := by first | (simp [entryFrame, mkF, argsToLocals, Value.category, maxLocals]; done) | rfl
def Q0 (Z : State) (x0 : Int32) (x1 : Int32) (x2 : Int32) (x3 : Int32) (x4 : Int32) (h0 : Heap) (n0 : Nat) (v : Option Value) (h : Heap) (L : List Loc) : Prop := v = some (.int 1) ∧ Fr n0 L
set_option maxRecDepth 65536 in
set_option maxHeartbeats 40000000 in
theorem rm0 (l : Launch) (Z : State) (a0 : Array Value) (hw : ∀ d ∈ tables_1, d.before a0 Z = true) (ws : List Jvm.Cond) (x0 : Int32) (x1 : Int32) (x2 : Int32) (x3 : Int32) (x4 : Int32) (h0 : Heap) (n0 : Nat) (Z0 : n0 ≤ h0.size) :
    MetFree l x (head1 (Jvm.Cond.code x code maxLocals ret :: ws) room_1) (fun a U => a = #[(.int x0), (.int x1), (.int x2), (.int x3), (.int x4)] ∧ Z.Warmed39 U.vm ∧ U.heap = h0) (fun _ _ _ _ _ => True) (fun _ U o U' => ∃ v L, o = .returned v ∧ Q0 Z x0 x1 x2 x3 x4 h0 n0 v U'.heap L ∧ FrameEnd U o U' L room_1.cells room_1.slots) := by
  refine MetFree.of_bodySF (plainFor_of_name pn_com_example_berthline_berthline_engine_pool_NextJobsMeanPinLaw) hisR ?_
  intro p e s m args below meth c s₁ Bd hml0 hP hK
  obtain ⟨rfl, hZ, hh⟩ := hP
  have hx := Bd.exec
  have hby := Bd.bytes
  have hml : c.maxLocals = 19 := hml0
  have hown : s.vm.findClass "com/example/berthline/berthline/engine/pool/NextJobsMeanPinLaw" = some m.cls := findClass_of_methodNamed Bd.named
  have hnm := (name_of_methodNamed Bd.named Bd.method).1
  have X0 : Stand p l e room_1 s m #[(.int x0), (.int x1), (.int x2), (.int x3), (.int x4)] below meth c s₁ [] 0 0 := Stand.of_body Bd
  have e0 : s₁.heap = h0 := by rw [← hh, Bd.state]; rfl
  have N0 := Fr.nil n0
  have pre0 : ∀ t, Steps p.tables e below (s₁.setTop (mkF m 0 #[.val (.int x0), .val (.int x1), .val (.int x2), .val (.int x3), .val (.int x4), .unset, .unset, .unset, .unset, .unset, .unset, .unset, .unset, .unset, .unset, .unset, .unset, .unset, .unset] [])) t → Steps p.tables e below (s₁.setTop (entryFrame m #[(.int x0), (.int x1), (.int x2), (.int x3), (.int x4)] maxLocals)) t := fun t k => castTop (ef_0 m x0 x1 x2 x3 x4) k
  rcases own_n4 x1 with hn4 | hn4 | hn4 | hn4
  · obtain ⟨_, _, ⟨T14, L14, k14, n14⟩, -, X14, ⟨Lc14, hQ14, l14, y14, z14⟩, st14⟩ := Jvm.LawKit.callS X0 hx (y := (⟨"java/lang/Math", "min", "(II)I"⟩ : MethodName)) hown (mvT hZ (hw _ (List.mem_of_getElem? (i := 1) rfl))) (mvT hZ (hw _ (List.mem_of_getElem? (i := 2) rfl))) (mvT hZ (hw _ (List.mem_of_getElem? (i := 3) rfl))) (mvT hZ (hw _ (List.mem_of_getElem? (i := 4) rfl))) (by decide) (backOf (W := 0) (rm1 l Z a0 hw [] (x0 &&& (2147483647 : Int32)) ((2147483647 : Int32) - ((1 : Int32) - (1 : Int32))) h0 n0 Z0 ) hZ (hw _ (List.mem_of_getElem? (i := 4) rfl)) (hw _ (List.mem_of_getElem? (i := 3) rfl)) (by decide) (by decide)) (g := (mkF m 18 #[.val (.int x0), .val (.int x1), .val (.int x2), .val (.int x3), .val (.int x4), .val (.int (1 : Int32)), .unset, .unset, .unset, .unset, .unset, .unset, .unset, .unset, .unset, .unset, .unset, .unset, .unset] [(.int ((2147483647 : Int32) - ((1 : Int32) - (1 : Int32)))), (.int (x0 &&& (2147483647 : Int32)))])) rfl (by rw [hml]; rfl) (argsL := [(.int (x0 &&& (2147483647 : Int32))), (.int ((2147483647 : Int32) - ((1 : Int32) - (1 : Int32))))]) (rest := []) (lenOf pd_710716 rfl) rfl (by show 2 * 0 + _ ≤ _; exact Nat.le_of_eq rfl) (hb hby at_18) (fun _ _ => ⟨rfl, e0, (by decide : 0 + 0 ≤ _), (by decide : 0 + 0 ≤ _)⟩)
    dsimp only [Pt.U, Pt.locs, Pt.cells, Pt.slots] at X14 l14 y14 z14 st14 hQ14
    subst l14 y14 z14
    obtain ⟨rfl, N14q, K14c⟩ := hQ14
    have N14 := Fr.app N0 N14q
    obtain ⟨k, ek, bk⟩ := own_least x0 ((1 : Int32) - (1 : Int32)) (j := 0) (by decide) (by decide)
    obtain ⟨ls, hls⟩ : ∃ z, z = (own_minI (x0 &&& (2147483647 : Int32)) ((2147483647 : Int32) - ((1 : Int32) - (1 : Int32)))) := ⟨_, rfl⟩
    rw [← hls] at ek
    have ew0 : ((1024 : Int32)).toInt = ((1024 : Nat) : Int) := by decide
    have bw0 : 1024 ≤ 1024 := by decide
    have ew1 : ((0 : Int32)).toInt = ((0 : Nat) : Int) := by decide
    have bw1 : 0 ≤ 1024 := by decide
    have ew2 : ((0 : Int32)).toInt = ((0 : Nat) : Int) := by decide
    have bw2 : 0 ≤ 1024 := by decide
    have ew3 : ((0 : Int32)).toInt = ((0 : Nat) : Int) := by decide
    have bw3 : 0 ≤ 1024 := by decide
    obtain ⟨T15, h15, X15, e15, E15, A15, st15⟩ := DA.make X14 hx hZ (hw _ (List.mem_of_getElem? (i := 6) rfl)) K14c (g := (mkF m 164 #[.val (.int x0), .val (.int x1), .val (.int x2), .val (.int x3), .val (.int x4), .val (.int (1 : Int32)), .val (.int ls), .val (.int (1024 : Int32)), .val (.int (0 : Int32)), .val (.int (0 : Int32)), .val (.int (0 : Int32)), .val (.double (4652218415073722368 : UInt64)), .second, .unset, .unset, .unset, .unset, .unset, .unset] [(.int (1 : Int32))])) rfl (hb hby at_164) rfl 1 (by decide) (by decide) (by decide) (by decide) (by decide)
    obtain ⟨b15, g15⟩ : ∃ z, z = h0.size := ⟨_, rfl⟩
    rw [← g15] at A15 st15
    have ge_b15 : n0 ≤ b15 := Nat.le_trans Z0 (Nat.le_of_eq g15.symm)
    have Z15 : n0 ≤ h15.size := Nat.le_trans Z0 E15.1
    obtain ⟨T16, h16, X16, e16, W16, V16, st16⟩ := DA.store X15 hx hZ e15 A15 0 (by decide) (by decide) (by decide) (x := (Jvm.FP.ddiv (Jvm.FP.i2d (1024 : Int32)) (4652218415073722368 : UInt64))) (g := (mkF m 174 #[.val (.int x0), .val (.int x1), .val (.int x2), .val (.int x3), .val (.int x4), .val (.int (1 : Int32)), .val (.int ls), .val (.int (1024 : Int32)), .val (.int (0 : Int32)), .val (.int (0 : Int32)), .val (.int (0 : Int32)), .val (.double (4652218415073722368 : UInt64)), .second, .unset, .unset, .unset, .unset, .unset, .unset] [(.double (Jvm.FP.ddiv (Jvm.FP.i2d (1024 : Int32)) (4652218415073722368 : UInt64))), (.int (0 : Int32)), (.ref b15), (.ref b15)])) rfl rfl (hb hby at_174)
    have N16 := Fr.snoc X16 N14 ge_b15
    have Z16 : n0 ≤ h16.size := Nat.le_trans Z15 (Keep.of_wr W16).1
    have hk' : ls.toInt = ((k : Nat) : Int) := ek
    have hnum := own_num hk' ew1 ew2 ew3 bw1 bw2 bw3
    have hN : k * 1024 + 0 + 2 * 0 + 3 * 0 < 2 ^ 43 := by omega
    have href := own_ref hnum hN
    obtain ⟨T17, h17, X17, e17, E17, A17, D17, -, st17⟩ := newO X16 hx hZ hown (hw _ (List.mem_of_getElem? (i := 7) rfl)) (hw _ (List.mem_of_getElem? (i := 8) rfl)) (hw _ (List.mem_of_getElem? (i := 9) rfl)) e16 (g := (mkF m 294 #[.val (.int x0), .val (.int x1), .val (.int x2), .val (.int x3), .val (.int x4), .val (.int (1 : Int32)), .val (.int ls), .val (.int (1024 : Int32)), .val (.int (0 : Int32)), .val (.int (0 : Int32)), .val (.int (0 : Int32)), .val (.double (4652218415073722368 : UInt64)), .second, .val (.ref b15), .unset, .unset, .unset, .unset, .unset] [])) rfl (hb hby at_294) (by decide) (by decide)
    obtain ⟨b17, g17⟩ : ∃ z, z = h16.size := ⟨_, rfl⟩
    rw [← g17] at A17 D17 st17
    have ne_18 : b15 ≠ b17 := Nat.ne_of_lt (Nat.lt_of_lt_of_le V16.lt (Nat.le_of_eq g17.symm))
    have V_19 := V16.ext E17
    have ge_b17 : n0 ≤ b17 := Nat.le_trans Z16 (Nat.le_of_eq g17.symm)
    have Z17 : n0 ≤ h17.size := Nat.le_trans Z16 E17.1
    have F_20 : Fld Z h17 b17 "com/example/berthline/berthline/engine/pool/NextJobs" "least" "I" (.int (0 : Int32)) := D17 (Or.inr (hw _ (List.mem_of_getElem? (i := 17) rfl))) (ty := .int) (by decide)
    have F_21 : Fld Z h17 b17 "com/example/berthline/berthline/engine/pool/NextJobs" "probabilities" "[D" .null := D17 (Or.inr (hw _ (List.mem_of_getElem? (i := 19) rfl))) (ty := (.array .double)) (by decide)
    obtain ⟨_, _, ⟨T22, L22, k22, n22⟩, -, X22, ⟨Lc22, hQ22, l22, y22, z22⟩, st22⟩ := X17.specialBack hx (y := (⟨"com/example/berthline/berthline/engine/pool/NextJobs", "<init>", "(I[D)V"⟩ : MethodName)) rfl hown (mvT hZ (hw _ (List.mem_of_getElem? (i := 10) rfl))) (mvT hZ (hw _ (List.mem_of_getElem? (i := 11) rfl))) (mvT hZ (hw _ (List.mem_of_getElem? (i := 12) rfl))) (by decide) (backOf (W := 1) (rm2 l Z a0 hw [] b17 ls b15 h17 n0 Z17 A17 F_20 F_21 ge_b17) hZ (hw _ (List.mem_of_getElem? (i := 12) rfl)) (hw _ (List.mem_of_getElem? (i := 9) rfl)) (by decide) (by decide)) (g := (mkF m 302 #[.val (.int x0), .val (.int x1), .val (.int x2), .val (.int x3), .val (.int x4), .val (.int (1 : Int32)), .val (.int ls), .val (.int (1024 : Int32)), .val (.int (0 : Int32)), .val (.int (0 : Int32)), .val (.int (0 : Int32)), .val (.double (4652218415073722368 : UInt64)), .second, .val (.ref b15), .unset, .unset, .unset, .unset, .unset] [(.ref b15), (.int ls), (.ref b17), (.ref b17)])) rfl (by rw [hml]; rfl) (Steps.refl _) (a := b17) (argsL := [(.int ls), (.ref b15)]) (rest := [(.ref b17)]) (lenOf pd_79383 rfl) rfl (by show 2 * 0 + _ ≤ _; exact Nat.le_of_eq rfl) (hb hby at_302) (fun _ _ => ⟨rfl, e17, (by decide : 2 + 0 ≤ _), (by decide : 3 + 0 ≤ _)⟩)
    dsimp only [Pt.U, Pt.locs, Pt.cells, Pt.slots] at X22 l22 y22 z22 st22 hQ22
    subst l22 y22 z22
    obtain ⟨rfl, N22q, K22c, G22_0, G22_1, G22_2⟩ := hQ22
    have N22 := Fr.app N16 N22q
    have V_23 := V_19.keep K22c (ninS ne_18 nin0)
    have E_24 := A17.keep K22c
    have Z22 : n0 ≤ T22.heap.size := Nat.le_trans Z17 K22c.1
    obtain ⟨cq25, kq25, q25a, q25b, q25c⟩ := isOf hZ rfl G22_0
    obtain ⟨_, _, ⟨T25, L25, k25, n25⟩, -, X25, ⟨Lc25, hQ25, l25, y25, z25⟩, st25⟩ := X22.virtualBack hx (y := (⟨"com/example/berthline/berthline/engine/pool/NextJobs", "mean", "()D"⟩ : MethodName)) (z := (⟨"com/example/berthline/berthline/engine/pool/NextJobs", "mean", "()D"⟩ : MethodName)) hown (mvT hZ (hw _ (List.mem_of_getElem? (i := 23) rfl))) (mvT hZ (hw _ (List.mem_of_getElem? (i := 24) rfl))) (notFace_of_selects (args := #[]) (mvT hZ (hw _ (List.mem_of_getElem? (i := 26) rfl)))) (mvT hZ (hw _ (List.mem_of_getElem? (i := 26) rfl))) (mvT hZ (hw _ (List.mem_of_getElem? (i := 25) rfl))) (by decide) (backOf (W := 0) (rm4 l Z a0 hw [] b17 ls b15 1 (own_upd (fun _ => 0) 0 (Jvm.FP.ddiv (Jvm.FP.i2d (1024 : Int32)) (4652218415073722368 : UInt64))) k (own_l4 1024 0 0 0) T22.heap n0 Z22 G22_1 G22_2 V_23 hk' (by omega) (by decide) (fun i hi => match i, hi with | 0, _ => own_prob ew0 bw0 | (i + 1), h => absurd h (by omega)) (fun i hi => match i, hi with | 0, _ => bw0 | (i + 1), h => absurd h (by omega))) hZ (hw _ (List.mem_of_getElem? (i := 27) rfl)) (hw _ (List.mem_of_getElem? (i := 9) rfl)) (by decide) (by decide)) q25a q25c (g := (mkF m 346 #[.val (.int x0), .val (.int x1), .val (.int x2), .val (.int x3), .val (.int x4), .val (.int (1 : Int32)), .val (.int ls), .val (.int (1024 : Int32)), .val (.int (0 : Int32)), .val (.int (0 : Int32)), .val (.int (0 : Int32)), .val (.double (4652218415073722368 : UInt64)), .second, .val (.ref b15), .val (.ref b17), .val (.long (((((ls.toInt64) * (1024 : Int64)) + ((0 : Int32).toInt64)) + ((2 : Int64) * ((0 : Int32).toInt64))) + ((3 : Int64) * ((0 : Int32).toInt64)))), .second, .val (.double (Jvm.FP.ddiv (Jvm.FP.l2d (((((ls.toInt64) * (1024 : Int64)) + ((0 : Int32).toInt64)) + ((2 : Int64) * ((0 : Int32).toInt64))) + ((3 : Int64) * ((0 : Int32).toInt64)))) (4652218415073722368 : UInt64))), .second] [(.ref b17)])) rfl (by rw [hml]; rfl) (Steps.refl _) (argsL := []) (rest := []) (lenOf pd_66659 rfl) rfl (by show 2 * 0 + _ ≤ _; exact Nat.le_of_eq rfl) (hb hby at_346) (fun _ _ => ⟨rfl, rfl, (by decide : 2 + 0 ≤ _), (by decide : 3 + 0 ≤ _)⟩)
    dsimp only [Pt.U, Pt.locs, Pt.cells, Pt.slots] at X25 l25 y25 z25 st25 hQ25
    subst l25 y25 z25
    obtain ⟨rr_25, rfl, N25q, K25c, G25_0⟩ := hQ25
    have N25 := Fr.app N22 N25q
    obtain ⟨fs, hr, hrun, hended, hW, hsame⟩ := X25.leave (v := some (.int (1 : Int32))) (fun h => by rw [Bd.returns] at h; cases h)
    refine ⟨_, _, pre0 _ ?_, hrun, hended, _, _, rfl, ?_, ⟨_, rfl⟩, hW, hsame.mono (by decide) (by decide)⟩
    · show Steps p.tables e below (s₁.setTop (mkF m 0 #[.val (.int x0), .val (.int x1), .val (.int x2), .val (.int x3), .val (.int x4), .unset, .unset, .unset, .unset, .unset, .unset, .unset, .unset, .unset, .unset, .unset, .unset, .unset, .unset] [])) _
      refine XS.iconst X0.here hx rfl (hb hby at_0) ?_
      show Steps p.tables e below (s₁.setTop (mkF m 1 #[.val (.int x0), .val (.int x1), .val (.int x2), .val (.int x3), .val (.int x4), .unset, .unset, .unset, .unset, .unset, .unset, .unset, .unset, .unset, .unset, .unset, .unset, .unset, .unset] [(.int (1 : Int32))])) _
      refine XS.iloadN X0.here hx rfl (hb hby at_1) rfl ?_
      show Steps p.tables e below (s₁.setTop (mkF m 2 #[.val (.int x0), .val (.int x1), .val (.int x2), .val (.int x3), .val (.int x4), .unset, .unset, .unset, .unset, .unset, .unset, .unset, .unset, .unset, .unset, .unset, .unset, .unset, .unset] [(.int x1), (.int (1 : Int32))])) _
      refine XS.iconst X0.here hx rfl (hb hby at_2) ?_
      show Steps p.tables e below (s₁.setTop (mkF m 3 #[.val (.int x0), .val (.int x1), .val (.int x2), .val (.int x3), .val (.int x4), .unset, .unset, .unset, .unset, .unset, .unset, .unset, .unset, .unset, .unset, .unset, .unset, .unset, .unset] [(.int (3 : Int32)), (.int x1), (.int (1 : Int32))])) _
      refine XS.iand X0.here hx rfl (hb hby at_3) rfl ?_
      show Steps p.tables e below (s₁.setTop (mkF m 4 #[.val (.int x0), .val (.int x1), .val (.int x2), .val (.int x3), .val (.int x4), .unset, .unset, .unset, .unset, .unset, .unset, .unset, .unset, .unset, .unset, .unset, .unset, .unset, .unset] [(.int (x1 &&& (3 : Int32))), (.int (1 : Int32))])) _
      refine XS.iadd X0.here hx rfl (hb hby at_4) rfl ?_
      show Steps p.tables e below (s₁.setTop (mkF m 5 #[.val (.int x0), .val (.int x1), .val (.int x2), .val (.int x3), .val (.int x4), .unset, .unset, .unset, .unset, .unset, .unset, .unset, .unset, .unset, .unset, .unset, .unset, .unset, .unset] [(.int ((1 : Int32) + (x1 &&& (3 : Int32))))])) _
      refine XS.istore X0.here hx rfl (hb hby at_5) rfl (l' := #[.val (.int x0), .val (.int x1), .val (.int x2), .val (.int x3), .val (.int x4), .val (.int ((1 : Int32) + (x1 &&& (3 : Int32)))), .unset, .unset, .unset, .unset, .unset, .unset, .unset, .unset, .unset, .unset, .unset, .unset, .unset]) rfl ?_
      show Steps p.tables e below (s₁.setTop (mkF m 7 #[.val (.int x0), .val (.int x1), .val (.int x2), .val (.int x3), .val (.int x4), .val (.int ((1 : Int32) + (x1 &&& (3 : Int32)))), .unset, .unset, .unset, .unset, .unset, .unset, .unset, .unset, .unset, .unset, .unset, .unset, .unset] [])) _
      refine castTop (g' := (mkF m 7 #[.val (.int x0), .val (.int x1), .val (.int x2), .val (.int x3), .val (.int x4), .val (.int (1 : Int32)), .unset, .unset, .unset, .unset, .unset, .unset, .unset, .unset, .unset, .unset, .unset, .unset, .unset] [])) (by rw [hn4]) ?_
      show Steps p.tables e below (s₁.setTop (mkF m 7 #[.val (.int x0), .val (.int x1), .val (.int x2), .val (.int x3), .val (.int x4), .val (.int (1 : Int32)), .unset, .unset, .unset, .unset, .unset, .unset, .unset, .unset, .unset, .unset, .unset, .unset, .unset] [])) _
      refine XS.iloadN X0.here hx rfl (hb hby at_7) rfl ?_
      show Steps p.tables e below (s₁.setTop (mkF m 8 #[.val (.int x0), .val (.int x1), .val (.int x2), .val (.int x3), .val (.int x4), .val (.int (1 : Int32)), .unset, .unset, .unset, .unset, .unset, .unset, .unset, .unset, .unset, .unset, .unset, .unset, .unset] [(.int x0)])) _
      refine Jvm.Stand.ldcI X0 hx hown (mvT hZ (hw _ (List.mem_of_getElem? (i := 0) rfl))) rfl (hb hby at_8) ?_
      show Steps p.tables e below (s₁.setTop (mkF m 10 #[.val (.int x0), .val (.int x1), .val (.int x2), .val (.int x3), .val (.int x4), .val (.int (1 : Int32)), .unset, .unset, .unset, .unset, .unset, .unset, .unset, .unset, .unset, .unset, .unset, .unset, .unset] [(.int (2147483647 : Int32)), (.int x0)])) _
      refine XS.iand X0.here hx rfl (hb hby at_10) rfl ?_
      show Steps p.tables e below (s₁.setTop (mkF m 11 #[.val (.int x0), .val (.int x1), .val (.int x2), .val (.int x3), .val (.int x4), .val (.int (1 : Int32)), .unset, .unset, .unset, .unset, .unset, .unset, .unset, .unset, .unset, .unset, .unset, .unset, .unset] [(.int (x0 &&& (2147483647 : Int32)))])) _
      refine Jvm.Stand.ldcI X0 hx hown (mvT hZ (hw _ (List.mem_of_getElem? (i := 0) rfl))) rfl (hb hby at_11) ?_
      show Steps p.tables e below (s₁.setTop (mkF m 13 #[.val (.int x0), .val (.int x1), .val (.int x2), .val (.int x3), .val (.int x4), .val (.int (1 : Int32)), .unset, .unset, .unset, .unset, .unset, .unset, .unset, .unset, .unset, .unset, .unset, .unset, .unset] [(.int (2147483647 : Int32)), (.int (x0 &&& (2147483647 : Int32)))])) _
      refine XS.iload X0.here hx rfl (hb hby at_13) rfl ?_
      show Steps p.tables e below (s₁.setTop (mkF m 15 #[.val (.int x0), .val (.int x1), .val (.int x2), .val (.int x3), .val (.int x4), .val (.int (1 : Int32)), .unset, .unset, .unset, .unset, .unset, .unset, .unset, .unset, .unset, .unset, .unset, .unset, .unset] [(.int (1 : Int32)), (.int (2147483647 : Int32)), (.int (x0 &&& (2147483647 : Int32)))])) _
      refine XS.iconst X0.here hx rfl (hb hby at_15) ?_
      show Steps p.tables e below (s₁.setTop (mkF m 16 #[.val (.int x0), .val (.int x1), .val (.int x2), .val (.int x3), .val (.int x4), .val (.int (1 : Int32)), .unset, .unset, .unset, .unset, .unset, .unset, .unset, .unset, .unset, .unset, .unset, .unset, .unset] [(.int (1 : Int32)), (.int (1 : Int32)), (.int (2147483647 : Int32)), (.int (x0 &&& (2147483647 : Int32)))])) _
      refine XS.isub X0.here hx rfl (hb hby at_16) rfl ?_
      show Steps p.tables e below (s₁.setTop (mkF m 17 #[.val (.int x0), .val (.int x1), .val (.int x2), .val (.int x3), .val (.int x4), .val (.int (1 : Int32)), .unset, .unset, .unset, .unset, .unset, .unset, .unset, .unset, .unset, .unset, .unset, .unset, .unset] [(.int ((1 : Int32) - (1 : Int32))), (.int (2147483647 : Int32)), (.int (x0 &&& (2147483647 : Int32)))])) _
      refine XS.isub X0.here hx rfl (hb hby at_17) rfl ?_
      show Steps p.tables e below (s₁.setTop (mkF m 18 #[.val (.int x0), .val (.int x1), .val (.int x2), .val (.int x3), .val (.int x4), .val (.int (1 : Int32)), .unset, .unset, .unset, .unset, .unset, .unset, .unset, .unset, .unset, .unset, .unset, .unset, .unset] [(.int ((2147483647 : Int32) - ((1 : Int32) - (1 : Int32)))), (.int (x0 &&& (2147483647 : Int32)))])) _
      refine st14 _ ?_
      show Steps p.tables e below (T14.setTop (mkF m 21 #[.val (.int x0), .val (.int x1), .val (.int x2), .val (.int x3), .val (.int x4), .val (.int (1 : Int32)), .unset, .unset, .unset, .unset, .unset, .unset, .unset, .unset, .unset, .unset, .unset, .unset, .unset] [(.int (own_minI (x0 &&& (2147483647 : Int32)) ((2147483647 : Int32) - ((1 : Int32) - (1 : Int32)))))])) _
      refine XS.istore X14.here hx rfl (hb hby at_21) rfl (l' := #[.val (.int x0), .val (.int x1), .val (.int x2), .val (.int x3), .val (.int x4), .val (.int (1 : Int32)), .val (.int (own_minI (x0 &&& (2147483647 : Int32)) ((2147483647 : Int32) - ((1 : Int32) - (1 : Int32))))), .unset, .unset, .unset, .unset, .unset, .unset, .unset, .unset, .unset, .unset, .unset, .unset]) rfl ?_
      show Steps p.tables e below (T14.setTop (mkF m 23 #[.val (.int x0), .val (.int x1), .val (.int x2), .val (.int x3), .val (.int x4), .val (.int (1 : Int32)), .val (.int (own_minI (x0 &&& (2147483647 : Int32)) ((2147483647 : Int32) - ((1 : Int32) - (1 : Int32))))), .unset, .unset, .unset, .unset, .unset, .unset, .unset, .unset, .unset, .unset, .unset, .unset] [])) _
      refine castTop (g' := (mkF m 23 #[.val (.int x0), .val (.int x1), .val (.int x2), .val (.int x3), .val (.int x4), .val (.int (1 : Int32)), .val (.int ls), .unset, .unset, .unset, .unset, .unset, .unset, .unset, .unset, .unset, .unset, .unset, .unset] [])) (by rw [hls]) ?_
      show Steps p.tables e below (T14.setTop (mkF m 23 #[.val (.int x0), .val (.int x1), .val (.int x2), .val (.int x3), .val (.int x4), .val (.int (1 : Int32)), .val (.int ls), .unset, .unset, .unset, .unset, .unset, .unset, .unset, .unset, .unset, .unset, .unset, .unset] [])) _
      refine XS.iload X14.here hx rfl (hb hby at_23) rfl ?_
      show Steps p.tables e below (T14.setTop (mkF m 25 #[.val (.int x0), .val (.int x1), .val (.int x2), .val (.int x3), .val (.int x4), .val (.int (1 : Int32)), .val (.int ls), .unset, .unset, .unset, .unset, .unset, .unset, .unset, .unset, .unset, .unset, .unset, .unset] [(.int (1 : Int32))])) _
      refine XS.iconst X14.here hx rfl (hb hby at_25) ?_
      show Steps p.tables e below (T14.setTop (mkF m 26 #[.val (.int x0), .val (.int x1), .val (.int x2), .val (.int x3), .val (.int x4), .val (.int (1 : Int32)), .val (.int ls), .unset, .unset, .unset, .unset, .unset, .unset, .unset, .unset, .unset, .unset, .unset, .unset] [(.int (1 : Int32)), (.int (1 : Int32))])) _
      refine XS.icmpNo X14.here hx rfl (hb hby at_26) rfl (teq (rfl : (1 : Int32) = (1 : Int32))).2 ?_
      show Steps p.tables e below (T14.setTop (mkF m 29 #[.val (.int x0), .val (.int x1), .val (.int x2), .val (.int x3), .val (.int x4), .val (.int (1 : Int32)), .val (.int ls), .unset, .unset, .unset, .unset, .unset, .unset, .unset, .unset, .unset, .unset, .unset, .unset] [])) _
      refine XS.sipush X14.here hx rfl (hb hby at_29) ?_
      show Steps p.tables e below (T14.setTop (mkF m 32 #[.val (.int x0), .val (.int x1), .val (.int x2), .val (.int x3), .val (.int x4), .val (.int (1 : Int32)), .val (.int ls), .unset, .unset, .unset, .unset, .unset, .unset, .unset, .unset, .unset, .unset, .unset, .unset] [(.int (1024 : Int32))])) _
      refine XS.goto X14.here hx rfl (pc0 := 32) (pc' := 43) rfl (hb hby at_32) (by decide) (by decide) ?_
      show Steps p.tables e below (T14.setTop (mkF m 43 #[.val (.int x0), .val (.int x1), .val (.int x2), .val (.int x3), .val (.int x4), .val (.int (1 : Int32)), .val (.int ls), .unset, .unset, .unset, .unset, .unset, .unset, .unset, .unset, .unset, .unset, .unset, .unset] [(.int (1024 : Int32))])) _
      refine XS.istore X14.here hx rfl (hb hby at_43) rfl (l' := #[.val (.int x0), .val (.int x1), .val (.int x2), .val (.int x3), .val (.int x4), .val (.int (1 : Int32)), .val (.int ls), .val (.int (1024 : Int32)), .unset, .unset, .unset, .unset, .unset, .unset, .unset, .unset, .unset, .unset, .unset]) rfl ?_
      show Steps p.tables e below (T14.setTop (mkF m 45 #[.val (.int x0), .val (.int x1), .val (.int x2), .val (.int x3), .val (.int x4), .val (.int (1 : Int32)), .val (.int ls), .val (.int (1024 : Int32)), .unset, .unset, .unset, .unset, .unset, .unset, .unset, .unset, .unset, .unset, .unset] [])) _
      refine XS.iload X14.here hx rfl (hb hby at_45) rfl ?_
      show Steps p.tables e below (T14.setTop (mkF m 47 #[.val (.int x0), .val (.int x1), .val (.int x2), .val (.int x3), .val (.int x4), .val (.int (1 : Int32)), .val (.int ls), .val (.int (1024 : Int32)), .unset, .unset, .unset, .unset, .unset, .unset, .unset, .unset, .unset, .unset, .unset] [(.int (1 : Int32))])) _
      refine XS.iconst X14.here hx rfl (hb hby at_47) ?_
      show Steps p.tables e below (T14.setTop (mkF m 48 #[.val (.int x0), .val (.int x1), .val (.int x2), .val (.int x3), .val (.int x4), .val (.int (1 : Int32)), .val (.int ls), .val (.int (1024 : Int32)), .unset, .unset, .unset, .unset, .unset, .unset, .unset, .unset, .unset, .unset, .unset] [(.int (2 : Int32)), (.int (1 : Int32))])) _
      refine XS.icmpYes X14.here hx rfl (pc0 := 48) (pc' := 60) rfl (hb hby at_48) rfl (feq (by decide : ¬ ((1 : Int32) = (2 : Int32)))).2 (by decide) (by decide) ?_
      show Steps p.tables e below (T14.setTop (mkF m 60 #[.val (.int x0), .val (.int x1), .val (.int x2), .val (.int x3), .val (.int x4), .val (.int (1 : Int32)), .val (.int ls), .val (.int (1024 : Int32)), .unset, .unset, .unset, .unset, .unset, .unset, .unset, .unset, .unset, .unset, .unset] [])) _
      refine XS.iload X14.here hx rfl (hb hby at_60) rfl ?_
      show Steps p.tables e below (T14.setTop (mkF m 62 #[.val (.int x0), .val (.int x1), .val (.int x2), .val (.int x3), .val (.int x4), .val (.int (1 : Int32)), .val (.int ls), .val (.int (1024 : Int32)), .unset, .unset, .unset, .unset, .unset, .unset, .unset, .unset, .unset, .unset, .unset] [(.int (1 : Int32))])) _
      refine XS.iconst X14.here hx rfl (hb hby at_62) ?_
      show Steps p.tables e below (T14.setTop (mkF m 63 #[.val (.int x0), .val (.int x1), .val (.int x2), .val (.int x3), .val (.int x4), .val (.int (1 : Int32)), .val (.int ls), .val (.int (1024 : Int32)), .unset, .unset, .unset, .unset, .unset, .unset, .unset, .unset, .unset, .unset, .unset] [(.int (2 : Int32)), (.int (1 : Int32))])) _
      refine XS.icmpYes X14.here hx rfl (pc0 := 63) (pc' := 80) rfl (hb hby at_63) rfl (flt (by decide : ¬ ((2 : Int32) < (1 : Int32)))).2.2.2 (by decide) (by decide) ?_
      show Steps p.tables e below (T14.setTop (mkF m 80 #[.val (.int x0), .val (.int x1), .val (.int x2), .val (.int x3), .val (.int x4), .val (.int (1 : Int32)), .val (.int ls), .val (.int (1024 : Int32)), .unset, .unset, .unset, .unset, .unset, .unset, .unset, .unset, .unset, .unset, .unset] [])) _
      refine XS.iconst X14.here hx rfl (hb hby at_80) ?_
      show Steps p.tables e below (T14.setTop (mkF m 81 #[.val (.int x0), .val (.int x1), .val (.int x2), .val (.int x3), .val (.int x4), .val (.int (1 : Int32)), .val (.int ls), .val (.int (1024 : Int32)), .unset, .unset, .unset, .unset, .unset, .unset, .unset, .unset, .unset, .unset, .unset] [(.int (0 : Int32))])) _
      refine XS.istore X14.here hx rfl (hb hby at_81) rfl (l' := #[.val (.int x0), .val (.int x1), .val (.int x2), .val (.int x3), .val (.int x4), .val (.int (1 : Int32)), .val (.int ls), .val (.int (1024 : Int32)), .val (.int (0 : Int32)), .unset, .unset, .unset, .unset, .unset, .unset, .unset, .unset, .unset, .unset]) rfl ?_
      show Steps p.tables e below (T14.setTop (mkF m 83 #[.val (.int x0), .val (.int x1), .val (.int x2), .val (.int x3), .val (.int x4), .val (.int (1 : Int32)), .val (.int ls), .val (.int (1024 : Int32)), .val (.int (0 : Int32)), .unset, .unset, .unset, .unset, .unset, .unset, .unset, .unset, .unset, .unset] [])) _
      refine XS.iload X14.here hx rfl (hb hby at_83) rfl ?_
      show Steps p.tables e below (T14.setTop (mkF m 85 #[.val (.int x0), .val (.int x1), .val (.int x2), .val (.int x3), .val (.int x4), .val (.int (1 : Int32)), .val (.int ls), .val (.int (1024 : Int32)), .val (.int (0 : Int32)), .unset, .unset, .unset, .unset, .unset, .unset, .unset, .unset, .unset, .unset] [(.int (1 : Int32))])) _
      refine XS.iconst X14.here hx rfl (hb hby at_85) ?_
      show Steps p.tables e below (T14.setTop (mkF m 86 #[.val (.int x0), .val (.int x1), .val (.int x2), .val (.int x3), .val (.int x4), .val (.int (1 : Int32)), .val (.int ls), .val (.int (1024 : Int32)), .val (.int (0 : Int32)), .unset, .unset, .unset, .unset, .unset, .unset, .unset, .unset, .unset, .unset] [(.int (3 : Int32)), (.int (1 : Int32))])) _
      refine XS.icmpYes X14.here hx rfl (pc0 := 86) (pc' := 101) rfl (hb hby at_86) rfl (feq (by decide : ¬ ((1 : Int32) = (3 : Int32)))).2 (by decide) (by decide) ?_
      show Steps p.tables e below (T14.setTop (mkF m 101 #[.val (.int x0), .val (.int x1), .val (.int x2), .val (.int x3), .val (.int x4), .val (.int (1 : Int32)), .val (.int ls), .val (.int (1024 : Int32)), .val (.int (0 : Int32)), .unset, .unset, .unset, .unset, .unset, .unset, .unset, .unset, .unset, .unset] [])) _
      refine XS.iload X14.here hx rfl (hb hby at_101) rfl ?_
      show Steps p.tables e below (T14.setTop (mkF m 103 #[.val (.int x0), .val (.int x1), .val (.int x2), .val (.int x3), .val (.int x4), .val (.int (1 : Int32)), .val (.int ls), .val (.int (1024 : Int32)), .val (.int (0 : Int32)), .unset, .unset, .unset, .unset, .unset, .unset, .unset, .unset, .unset, .unset] [(.int (1 : Int32))])) _
      refine XS.iconst X14.here hx rfl (hb hby at_103) ?_
      show Steps p.tables e below (T14.setTop (mkF m 104 #[.val (.int x0), .val (.int x1), .val (.int x2), .val (.int x3), .val (.int x4), .val (.int (1 : Int32)), .val (.int ls), .val (.int (1024 : Int32)), .val (.int (0 : Int32)), .unset, .unset, .unset, .unset, .unset, .unset, .unset, .unset, .unset, .unset] [(.int (3 : Int32)), (.int (1 : Int32))])) _
      refine XS.icmpYes X14.here hx rfl (pc0 := 104) (pc' := 125) rfl (hb hby at_104) rfl (flt (by decide : ¬ ((3 : Int32) < (1 : Int32)))).2.2.2 (by decide) (by decide) ?_
      show Steps p.tables e below (T14.setTop (mkF m 125 #[.val (.int x0), .val (.int x1), .val (.int x2), .val (.int x3), .val (.int x4), .val (.int (1 : Int32)), .val (.int ls), .val (.int (1024 : Int32)), .val (.int (0 : Int32)), .unset, .unset, .unset, .unset, .unset, .unset, .unset, .unset, .unset, .unset] [])) _
      refine XS.iconst X14.here hx rfl (hb hby at_125) ?_
      show Steps p.tables e below (T14.setTop (mkF m 126 #[.val (.int x0), .val (.int x1), .val (.int x2), .val (.int x3), .val (.int x4), .val (.int (1 : Int32)), .val (.int ls), .val (.int (1024 : Int32)), .val (.int (0 : Int32)), .unset, .unset, .unset, .unset, .unset, .unset, .unset, .unset, .unset, .unset] [(.int (0 : Int32))])) _
      refine XS.istore X14.here hx rfl (hb hby at_126) rfl (l' := #[.val (.int x0), .val (.int x1), .val (.int x2), .val (.int x3), .val (.int x4), .val (.int (1 : Int32)), .val (.int ls), .val (.int (1024 : Int32)), .val (.int (0 : Int32)), .val (.int (0 : Int32)), .unset, .unset, .unset, .unset, .unset, .unset, .unset, .unset, .unset]) rfl ?_
      show Steps p.tables e below (T14.setTop (mkF m 128 #[.val (.int x0), .val (.int x1), .val (.int x2), .val (.int x3), .val (.int x4), .val (.int (1 : Int32)), .val (.int ls), .val (.int (1024 : Int32)), .val (.int (0 : Int32)), .val (.int (0 : Int32)), .unset, .unset, .unset, .unset, .unset, .unset, .unset, .unset, .unset] [])) _
      refine XS.iload X14.here hx rfl (hb hby at_128) rfl ?_
      show Steps p.tables e below (T14.setTop (mkF m 130 #[.val (.int x0), .val (.int x1), .val (.int x2), .val (.int x3), .val (.int x4), .val (.int (1 : Int32)), .val (.int ls), .val (.int (1024 : Int32)), .val (.int (0 : Int32)), .val (.int (0 : Int32)), .unset, .unset, .unset, .unset, .unset, .unset, .unset, .unset, .unset] [(.int (1 : Int32))])) _
      refine XS.iconst X14.here hx rfl (hb hby at_130) ?_
      show Steps p.tables e below (T14.setTop (mkF m 131 #[.val (.int x0), .val (.int x1), .val (.int x2), .val (.int x3), .val (.int x4), .val (.int (1 : Int32)), .val (.int ls), .val (.int (1024 : Int32)), .val (.int (0 : Int32)), .val (.int (0 : Int32)), .unset, .unset, .unset, .unset, .unset, .unset, .unset, .unset, .unset] [(.int (4 : Int32)), (.int (1 : Int32))])) _
      refine XS.icmpYes X14.here hx rfl (pc0 := 131) (pc' := 149) rfl (hb hby at_131) rfl (feq (by decide : ¬ ((1 : Int32) = (4 : Int32)))).2 (by decide) (by decide) ?_
      show Steps p.tables e below (T14.setTop (mkF m 149 #[.val (.int x0), .val (.int x1), .val (.int x2), .val (.int x3), .val (.int x4), .val (.int (1 : Int32)), .val (.int ls), .val (.int (1024 : Int32)), .val (.int (0 : Int32)), .val (.int (0 : Int32)), .unset, .unset, .unset, .unset, .unset, .unset, .unset, .unset, .unset] [])) _
      refine XS.iconst X14.here hx rfl (hb hby at_149) ?_
      show Steps p.tables e below (T14.setTop (mkF m 150 #[.val (.int x0), .val (.int x1), .val (.int x2), .val (.int x3), .val (.int x4), .val (.int (1 : Int32)), .val (.int ls), .val (.int (1024 : Int32)), .val (.int (0 : Int32)), .val (.int (0 : Int32)), .unset, .unset, .unset, .unset, .unset, .unset, .unset, .unset, .unset] [(.int (0 : Int32))])) _
      refine XS.istore X14.here hx rfl (hb hby at_150) rfl (l' := #[.val (.int x0), .val (.int x1), .val (.int x2), .val (.int x3), .val (.int x4), .val (.int (1 : Int32)), .val (.int ls), .val (.int (1024 : Int32)), .val (.int (0 : Int32)), .val (.int (0 : Int32)), .val (.int (0 : Int32)), .unset, .unset, .unset, .unset, .unset, .unset, .unset, .unset]) rfl ?_
      show Steps p.tables e below (T14.setTop (mkF m 152 #[.val (.int x0), .val (.int x1), .val (.int x2), .val (.int x3), .val (.int x4), .val (.int (1 : Int32)), .val (.int ls), .val (.int (1024 : Int32)), .val (.int (0 : Int32)), .val (.int (0 : Int32)), .val (.int (0 : Int32)), .unset, .unset, .unset, .unset, .unset, .unset, .unset, .unset] [])) _
      refine X14.ldc2DoubleC hx hown (mvT hZ (hw _ (List.mem_of_getElem? (i := 5) rfl))) (g := (mkF m 152 #[.val (.int x0), .val (.int x1), .val (.int x2), .val (.int x3), .val (.int x4), .val (.int (1 : Int32)), .val (.int ls), .val (.int (1024 : Int32)), .val (.int (0 : Int32)), .val (.int (0 : Int32)), .val (.int (0 : Int32)), .unset, .unset, .unset, .unset, .unset, .unset, .unset, .unset] [])) rfl (hb hby at_152) _ ?_
      show Steps p.tables e below (T14.setTop (mkF m 155 #[.val (.int x0), .val (.int x1), .val (.int x2), .val (.int x3), .val (.int x4), .val (.int (1 : Int32)), .val (.int ls), .val (.int (1024 : Int32)), .val (.int (0 : Int32)), .val (.int (0 : Int32)), .val (.int (0 : Int32)), .unset, .unset, .unset, .unset, .unset, .unset, .unset, .unset] [(.double (4652218415073722368 : UInt64))])) _
      refine XS.dstore X14.here hx rfl (hb hby at_155) rfl (l' := #[.val (.int x0), .val (.int x1), .val (.int x2), .val (.int x3), .val (.int x4), .val (.int (1 : Int32)), .val (.int ls), .val (.int (1024 : Int32)), .val (.int (0 : Int32)), .val (.int (0 : Int32)), .val (.int (0 : Int32)), .val (.double (4652218415073722368 : UInt64)), .second, .unset, .unset, .unset, .unset, .unset, .unset]) rfl ?_
      show Steps p.tables e below (T14.setTop (mkF m 157 #[.val (.int x0), .val (.int x1), .val (.int x2), .val (.int x3), .val (.int x4), .val (.int (1 : Int32)), .val (.int ls), .val (.int (1024 : Int32)), .val (.int (0 : Int32)), .val (.int (0 : Int32)), .val (.int (0 : Int32)), .val (.double (4652218415073722368 : UInt64)), .second, .unset, .unset, .unset, .unset, .unset, .unset] [])) _
      refine XS.iload X14.here hx rfl (hb hby at_157) rfl ?_
      show Steps p.tables e below (T14.setTop (mkF m 159 #[.val (.int x0), .val (.int x1), .val (.int x2), .val (.int x3), .val (.int x4), .val (.int (1 : Int32)), .val (.int ls), .val (.int (1024 : Int32)), .val (.int (0 : Int32)), .val (.int (0 : Int32)), .val (.int (0 : Int32)), .val (.double (4652218415073722368 : UInt64)), .second, .unset, .unset, .unset, .unset, .unset, .unset] [(.int (1 : Int32))])) _
      refine XS.iconst X14.here hx rfl (hb hby at_159) ?_
      show Steps p.tables e below (T14.setTop (mkF m 160 #[.val (.int x0), .val (.int x1), .val (.int x2), .val (.int x3), .val (.int x4), .val (.int (1 : Int32)), .val (.int ls), .val (.int (1024 : Int32)), .val (.int (0 : Int32)), .val (.int (0 : Int32)), .val (.int (0 : Int32)), .val (.double (4652218415073722368 : UInt64)), .second, .unset, .unset, .unset, .unset, .unset, .unset] [(.int (1 : Int32)), (.int (1 : Int32))])) _
      refine XS.icmpNo X14.here hx rfl (hb hby at_160) rfl (teq (rfl : (1 : Int32) = (1 : Int32))).2 ?_
      show Steps p.tables e below (T14.setTop (mkF m 163 #[.val (.int x0), .val (.int x1), .val (.int x2), .val (.int x3), .val (.int x4), .val (.int (1 : Int32)), .val (.int ls), .val (.int (1024 : Int32)), .val (.int (0 : Int32)), .val (.int (0 : Int32)), .val (.int (0 : Int32)), .val (.double (4652218415073722368 : UInt64)), .second, .unset, .unset, .unset, .unset, .unset, .unset] [])) _
      refine XS.iconst X14.here hx rfl (hb hby at_163) ?_
      show Steps p.tables e below (T14.setTop (mkF m 164 #[.val (.int x0), .val (.int x1), .val (.int x2), .val (.int x3), .val (.int x4), .val (.int (1 : Int32)), .val (.int ls), .val (.int (1024 : Int32)), .val (.int (0 : Int32)), .val (.int (0 : Int32)), .val (.int (0 : Int32)), .val (.double (4652218415073722368 : UInt64)), .second, .unset, .unset, .unset, .unset, .unset, .unset] [(.int (1 : Int32))])) _
      refine st15 _ ?_
      show Steps p.tables e below (T15.setTop (mkF m 166 #[.val (.int x0), .val (.int x1), .val (.int x2), .val (.int x3), .val (.int x4), .val (.int (1 : Int32)), .val (.int ls), .val (.int (1024 : Int32)), .val (.int (0 : Int32)), .val (.int (0 : Int32)), .val (.int (0 : Int32)), .val (.double (4652218415073722368 : UInt64)), .second, .unset, .unset, .unset, .unset, .unset, .unset] [(.ref b15)])) _
      refine XS.dup X15.here hx rfl (hb hby at_166) rfl rfl ?_
      show Steps p.tables e below (T15.setTop (mkF m 167 #[.val (.int x0), .val (.int x1), .val (.int x2), .val (.int x3), .val (.int x4), .val (.int (1 : Int32)), .val (.int ls), .val (.int (1024 : Int32)), .val (.int (0 : Int32)), .val (.int (0 : Int32)), .val (.int (0 : Int32)), .val (.double (4652218415073722368 : UInt64)), .second, .unset, .unset, .unset, .unset, .unset, .unset] [(.ref b15), (.ref b15)])) _
      refine XS.iconst X15.here hx rfl (hb hby at_167) ?_
      show Steps p.tables e below (T15.setTop (mkF m 168 #[.val (.int x0), .val (.int x1), .val (.int x2), .val (.int x3), .val (.int x4), .val (.int (1 : Int32)), .val (.int ls), .val (.int (1024 : Int32)), .val (.int (0 : Int32)), .val (.int (0 : Int32)), .val (.int (0 : Int32)), .val (.double (4652218415073722368 : UInt64)), .second, .unset, .unset, .unset, .unset, .unset, .unset] [(.int (0 : Int32)), (.ref b15), (.ref b15)])) _
      refine XS.iload X15.here hx rfl (hb hby at_168) rfl ?_
      show Steps p.tables e below (T15.setTop (mkF m 170 #[.val (.int x0), .val (.int x1), .val (.int x2), .val (.int x3), .val (.int x4), .val (.int (1 : Int32)), .val (.int ls), .val (.int (1024 : Int32)), .val (.int (0 : Int32)), .val (.int (0 : Int32)), .val (.int (0 : Int32)), .val (.double (4652218415073722368 : UInt64)), .second, .unset, .unset, .unset, .unset, .unset, .unset] [(.int (1024 : Int32)), (.int (0 : Int32)), (.ref b15), (.ref b15)])) _
      refine XS.i2dS X15.here hx rfl (hb hby at_170) rfl rfl ?_
      show Steps p.tables e below (T15.setTop (mkF m 171 #[.val (.int x0), .val (.int x1), .val (.int x2), .val (.int x3), .val (.int x4), .val (.int (1 : Int32)), .val (.int ls), .val (.int (1024 : Int32)), .val (.int (0 : Int32)), .val (.int (0 : Int32)), .val (.int (0 : Int32)), .val (.double (4652218415073722368 : UInt64)), .second, .unset, .unset, .unset, .unset, .unset, .unset] [(.double (Jvm.FP.i2d (1024 : Int32))), (.int (0 : Int32)), (.ref b15), (.ref b15)])) _
      refine XS.dload X15.here hx rfl (hb hby at_171) rfl ?_
      show Steps p.tables e below (T15.setTop (mkF m 173 #[.val (.int x0), .val (.int x1), .val (.int x2), .val (.int x3), .val (.int x4), .val (.int (1 : Int32)), .val (.int ls), .val (.int (1024 : Int32)), .val (.int (0 : Int32)), .val (.int (0 : Int32)), .val (.int (0 : Int32)), .val (.double (4652218415073722368 : UInt64)), .second, .unset, .unset, .unset, .unset, .unset, .unset] [(.double (4652218415073722368 : UInt64)), (.double (Jvm.FP.i2d (1024 : Int32))), (.int (0 : Int32)), (.ref b15), (.ref b15)])) _
      refine XS.ddivS X15.here hx rfl (hb hby at_173) rfl (own_dv_num (own_prob ew0 bw0)) rfl ?_
      show Steps p.tables e below (T15.setTop (mkF m 174 #[.val (.int x0), .val (.int x1), .val (.int x2), .val (.int x3), .val (.int x4), .val (.int (1 : Int32)), .val (.int ls), .val (.int (1024 : Int32)), .val (.int (0 : Int32)), .val (.int (0 : Int32)), .val (.int (0 : Int32)), .val (.double (4652218415073722368 : UInt64)), .second, .unset, .unset, .unset, .unset, .unset, .unset] [(.double (Jvm.FP.ddiv (Jvm.FP.i2d (1024 : Int32)) (4652218415073722368 : UInt64))), (.int (0 : Int32)), (.ref b15), (.ref b15)])) _
      refine st16 _ ?_
      show Steps p.tables e below (T16.setTop (mkF m 175 #[.val (.int x0), .val (.int x1), .val (.int x2), .val (.int x3), .val (.int x4), .val (.int (1 : Int32)), .val (.int ls), .val (.int (1024 : Int32)), .val (.int (0 : Int32)), .val (.int (0 : Int32)), .val (.int (0 : Int32)), .val (.double (4652218415073722368 : UInt64)), .second, .unset, .unset, .unset, .unset, .unset, .unset] [(.ref b15)])) _
      refine XS.astore X16.here hx rfl (hb hby at_175) rfl rfl (l' := #[.val (.int x0), .val (.int x1), .val (.int x2), .val (.int x3), .val (.int x4), .val (.int (1 : Int32)), .val (.int ls), .val (.int (1024 : Int32)), .val (.int (0 : Int32)), .val (.int (0 : Int32)), .val (.int (0 : Int32)), .val (.double (4652218415073722368 : UInt64)), .second, .val (.ref b15), .unset, .unset, .unset, .unset, .unset]) rfl ?_
      show Steps p.tables e below (T16.setTop (mkF m 177 #[.val (.int x0), .val (.int x1), .val (.int x2), .val (.int x3), .val (.int x4), .val (.int (1 : Int32)), .val (.int ls), .val (.int (1024 : Int32)), .val (.int (0 : Int32)), .val (.int (0 : Int32)), .val (.int (0 : Int32)), .val (.double (4652218415073722368 : UInt64)), .second, .val (.ref b15), .unset, .unset, .unset, .unset, .unset] [])) _
      refine XS.goto X16.here hx rfl (pc0 := 177) (pc' := 294) rfl (hb hby at_177) (by decide) (by decide) ?_
      show Steps p.tables e below (T16.setTop (mkF m 294 #[.val (.int x0), .val (.int x1), .val (.int x2), .val (.int x3), .val (.int x4), .val (.int (1 : Int32)), .val (.int ls), .val (.int (1024 : Int32)), .val (.int (0 : Int32)), .val (.int (0 : Int32)), .val (.int (0 : Int32)), .val (.double (4652218415073722368 : UInt64)), .second, .val (.ref b15), .unset, .unset, .unset, .unset, .unset] [])) _
      refine st17 _ ?_
      show Steps p.tables e below (T17.setTop (mkF m 297 #[.val (.int x0), .val (.int x1), .val (.int x2), .val (.int x3), .val (.int x4), .val (.int (1 : Int32)), .val (.int ls), .val (.int (1024 : Int32)), .val (.int (0 : Int32)), .val (.int (0 : Int32)), .val (.int (0 : Int32)), .val (.double (4652218415073722368 : UInt64)), .second, .val (.ref b15), .unset, .unset, .unset, .unset, .unset] [(.ref b17)])) _
      refine XS.dup X17.here hx rfl (hb hby at_297) rfl rfl ?_
      show Steps p.tables e below (T17.setTop (mkF m 298 #[.val (.int x0), .val (.int x1), .val (.int x2), .val (.int x3), .val (.int x4), .val (.int (1 : Int32)), .val (.int ls), .val (.int (1024 : Int32)), .val (.int (0 : Int32)), .val (.int (0 : Int32)), .val (.int (0 : Int32)), .val (.double (4652218415073722368 : UInt64)), .second, .val (.ref b15), .unset, .unset, .unset, .unset, .unset] [(.ref b17), (.ref b17)])) _
      refine XS.iload X17.here hx rfl (hb hby at_298) rfl ?_
      show Steps p.tables e below (T17.setTop (mkF m 300 #[.val (.int x0), .val (.int x1), .val (.int x2), .val (.int x3), .val (.int x4), .val (.int (1 : Int32)), .val (.int ls), .val (.int (1024 : Int32)), .val (.int (0 : Int32)), .val (.int (0 : Int32)), .val (.int (0 : Int32)), .val (.double (4652218415073722368 : UInt64)), .second, .val (.ref b15), .unset, .unset, .unset, .unset, .unset] [(.int ls), (.ref b17), (.ref b17)])) _
      refine XS.aload X17.here hx rfl (hb hby at_300) rfl rfl ?_
      show Steps p.tables e below (T17.setTop (mkF m 302 #[.val (.int x0), .val (.int x1), .val (.int x2), .val (.int x3), .val (.int x4), .val (.int (1 : Int32)), .val (.int ls), .val (.int (1024 : Int32)), .val (.int (0 : Int32)), .val (.int (0 : Int32)), .val (.int (0 : Int32)), .val (.double (4652218415073722368 : UInt64)), .second, .val (.ref b15), .unset, .unset, .unset, .unset, .unset] [(.ref b15), (.int ls), (.ref b17), (.ref b17)])) _
      refine st22.trans ?_
      show Steps p.tables e below (T22.setTop (mkF m 305 #[.val (.int x0), .val (.int x1), .val (.int x2), .val (.int x3), .val (.int x4), .val (.int (1 : Int32)), .val (.int ls), .val (.int (1024 : Int32)), .val (.int (0 : Int32)), .val (.int (0 : Int32)), .val (.int (0 : Int32)), .val (.double (4652218415073722368 : UInt64)), .second, .val (.ref b15), .unset, .unset, .unset, .unset, .unset] [(.ref b17)])) _
      refine XS.astore X22.here hx rfl (hb hby at_305) rfl rfl (l' := #[.val (.int x0), .val (.int x1), .val (.int x2), .val (.int x3), .val (.int x4), .val (.int (1 : Int32)), .val (.int ls), .val (.int (1024 : Int32)), .val (.int (0 : Int32)), .val (.int (0 : Int32)), .val (.int (0 : Int32)), .val (.double (4652218415073722368 : UInt64)), .second, .val (.ref b15), .val (.ref b17), .unset, .unset, .unset, .unset]) rfl ?_
      show Steps p.tables e below (T22.setTop (mkF m 307 #[.val (.int x0), .val (.int x1), .val (.int x2), .val (.int x3), .val (.int x4), .val (.int (1 : Int32)), .val (.int ls), .val (.int (1024 : Int32)), .val (.int (0 : Int32)), .val (.int (0 : Int32)), .val (.int (0 : Int32)), .val (.double (4652218415073722368 : UInt64)), .second, .val (.ref b15), .val (.ref b17), .unset, .unset, .unset, .unset] [])) _
      refine XS.iload X22.here hx rfl (hb hby at_307) rfl ?_
      show Steps p.tables e below (T22.setTop (mkF m 309 #[.val (.int x0), .val (.int x1), .val (.int x2), .val (.int x3), .val (.int x4), .val (.int (1 : Int32)), .val (.int ls), .val (.int (1024 : Int32)), .val (.int (0 : Int32)), .val (.int (0 : Int32)), .val (.int (0 : Int32)), .val (.double (4652218415073722368 : UInt64)), .second, .val (.ref b15), .val (.ref b17), .unset, .unset, .unset, .unset] [(.int ls)])) _
      refine XS.i2l X22.here hx rfl (hb hby at_309) rfl ?_
      show Steps p.tables e below (T22.setTop (mkF m 310 #[.val (.int x0), .val (.int x1), .val (.int x2), .val (.int x3), .val (.int x4), .val (.int (1 : Int32)), .val (.int ls), .val (.int (1024 : Int32)), .val (.int (0 : Int32)), .val (.int (0 : Int32)), .val (.int (0 : Int32)), .val (.double (4652218415073722368 : UInt64)), .second, .val (.ref b15), .val (.ref b17), .unset, .unset, .unset, .unset] [(.long (ls.toInt64))])) _
      refine Jvm.Stand.ldc2J X22 hx hown (mvT hZ (hw _ (List.mem_of_getElem? (i := 20) rfl))) rfl (hb hby at_310) ?_
      show Steps p.tables e below (T22.setTop (mkF m 313 #[.val (.int x0), .val (.int x1), .val (.int x2), .val (.int x3), .val (.int x4), .val (.int (1 : Int32)), .val (.int ls), .val (.int (1024 : Int32)), .val (.int (0 : Int32)), .val (.int (0 : Int32)), .val (.int (0 : Int32)), .val (.double (4652218415073722368 : UInt64)), .second, .val (.ref b15), .val (.ref b17), .unset, .unset, .unset, .unset] [(.long (1024 : Int64)), (.long (ls.toInt64))])) _
      refine XS.lmul X22.here hx rfl (hb hby at_313) rfl ?_
      show Steps p.tables e below (T22.setTop (mkF m 314 #[.val (.int x0), .val (.int x1), .val (.int x2), .val (.int x3), .val (.int x4), .val (.int (1 : Int32)), .val (.int ls), .val (.int (1024 : Int32)), .val (.int (0 : Int32)), .val (.int (0 : Int32)), .val (.int (0 : Int32)), .val (.double (4652218415073722368 : UInt64)), .second, .val (.ref b15), .val (.ref b17), .unset, .unset, .unset, .unset] [(.long ((ls.toInt64) * (1024 : Int64)))])) _
      refine XS.iload X22.here hx rfl (hb hby at_314) rfl ?_
      show Steps p.tables e below (T22.setTop (mkF m 316 #[.val (.int x0), .val (.int x1), .val (.int x2), .val (.int x3), .val (.int x4), .val (.int (1 : Int32)), .val (.int ls), .val (.int (1024 : Int32)), .val (.int (0 : Int32)), .val (.int (0 : Int32)), .val (.int (0 : Int32)), .val (.double (4652218415073722368 : UInt64)), .second, .val (.ref b15), .val (.ref b17), .unset, .unset, .unset, .unset] [(.int (0 : Int32)), (.long ((ls.toInt64) * (1024 : Int64)))])) _
      refine XS.i2l X22.here hx rfl (hb hby at_316) rfl ?_
      show Steps p.tables e below (T22.setTop (mkF m 317 #[.val (.int x0), .val (.int x1), .val (.int x2), .val (.int x3), .val (.int x4), .val (.int (1 : Int32)), .val (.int ls), .val (.int (1024 : Int32)), .val (.int (0 : Int32)), .val (.int (0 : Int32)), .val (.int (0 : Int32)), .val (.double (4652218415073722368 : UInt64)), .second, .val (.ref b15), .val (.ref b17), .unset, .unset, .unset, .unset] [(.long ((0 : Int32).toInt64)), (.long ((ls.toInt64) * (1024 : Int64)))])) _
      refine XS.ladd X22.here hx rfl (hb hby at_317) rfl ?_
      show Steps p.tables e below (T22.setTop (mkF m 318 #[.val (.int x0), .val (.int x1), .val (.int x2), .val (.int x3), .val (.int x4), .val (.int (1 : Int32)), .val (.int ls), .val (.int (1024 : Int32)), .val (.int (0 : Int32)), .val (.int (0 : Int32)), .val (.int (0 : Int32)), .val (.double (4652218415073722368 : UInt64)), .second, .val (.ref b15), .val (.ref b17), .unset, .unset, .unset, .unset] [(.long (((ls.toInt64) * (1024 : Int64)) + ((0 : Int32).toInt64)))])) _
      refine Jvm.Stand.ldc2J X22 hx hown (mvT hZ (hw _ (List.mem_of_getElem? (i := 21) rfl))) rfl (hb hby at_318) ?_
      show Steps p.tables e below (T22.setTop (mkF m 321 #[.val (.int x0), .val (.int x1), .val (.int x2), .val (.int x3), .val (.int x4), .val (.int (1 : Int32)), .val (.int ls), .val (.int (1024 : Int32)), .val (.int (0 : Int32)), .val (.int (0 : Int32)), .val (.int (0 : Int32)), .val (.double (4652218415073722368 : UInt64)), .second, .val (.ref b15), .val (.ref b17), .unset, .unset, .unset, .unset] [(.long (2 : Int64)), (.long (((ls.toInt64) * (1024 : Int64)) + ((0 : Int32).toInt64)))])) _
      refine XS.iload X22.here hx rfl (hb hby at_321) rfl ?_
      show Steps p.tables e below (T22.setTop (mkF m 323 #[.val (.int x0), .val (.int x1), .val (.int x2), .val (.int x3), .val (.int x4), .val (.int (1 : Int32)), .val (.int ls), .val (.int (1024 : Int32)), .val (.int (0 : Int32)), .val (.int (0 : Int32)), .val (.int (0 : Int32)), .val (.double (4652218415073722368 : UInt64)), .second, .val (.ref b15), .val (.ref b17), .unset, .unset, .unset, .unset] [(.int (0 : Int32)), (.long (2 : Int64)), (.long (((ls.toInt64) * (1024 : Int64)) + ((0 : Int32).toInt64)))])) _
      refine XS.i2l X22.here hx rfl (hb hby at_323) rfl ?_
      show Steps p.tables e below (T22.setTop (mkF m 324 #[.val (.int x0), .val (.int x1), .val (.int x2), .val (.int x3), .val (.int x4), .val (.int (1 : Int32)), .val (.int ls), .val (.int (1024 : Int32)), .val (.int (0 : Int32)), .val (.int (0 : Int32)), .val (.int (0 : Int32)), .val (.double (4652218415073722368 : UInt64)), .second, .val (.ref b15), .val (.ref b17), .unset, .unset, .unset, .unset] [(.long ((0 : Int32).toInt64)), (.long (2 : Int64)), (.long (((ls.toInt64) * (1024 : Int64)) + ((0 : Int32).toInt64)))])) _
      refine XS.lmul X22.here hx rfl (hb hby at_324) rfl ?_
      show Steps p.tables e below (T22.setTop (mkF m 325 #[.val (.int x0), .val (.int x1), .val (.int x2), .val (.int x3), .val (.int x4), .val (.int (1 : Int32)), .val (.int ls), .val (.int (1024 : Int32)), .val (.int (0 : Int32)), .val (.int (0 : Int32)), .val (.int (0 : Int32)), .val (.double (4652218415073722368 : UInt64)), .second, .val (.ref b15), .val (.ref b17), .unset, .unset, .unset, .unset] [(.long ((2 : Int64) * ((0 : Int32).toInt64))), (.long (((ls.toInt64) * (1024 : Int64)) + ((0 : Int32).toInt64)))])) _
      refine XS.ladd X22.here hx rfl (hb hby at_325) rfl ?_
      show Steps p.tables e below (T22.setTop (mkF m 326 #[.val (.int x0), .val (.int x1), .val (.int x2), .val (.int x3), .val (.int x4), .val (.int (1 : Int32)), .val (.int ls), .val (.int (1024 : Int32)), .val (.int (0 : Int32)), .val (.int (0 : Int32)), .val (.int (0 : Int32)), .val (.double (4652218415073722368 : UInt64)), .second, .val (.ref b15), .val (.ref b17), .unset, .unset, .unset, .unset] [(.long ((((ls.toInt64) * (1024 : Int64)) + ((0 : Int32).toInt64)) + ((2 : Int64) * ((0 : Int32).toInt64))))])) _
      refine Jvm.Stand.ldc2J X22 hx hown (mvT hZ (hw _ (List.mem_of_getElem? (i := 22) rfl))) rfl (hb hby at_326) ?_
      show Steps p.tables e below (T22.setTop (mkF m 329 #[.val (.int x0), .val (.int x1), .val (.int x2), .val (.int x3), .val (.int x4), .val (.int (1 : Int32)), .val (.int ls), .val (.int (1024 : Int32)), .val (.int (0 : Int32)), .val (.int (0 : Int32)), .val (.int (0 : Int32)), .val (.double (4652218415073722368 : UInt64)), .second, .val (.ref b15), .val (.ref b17), .unset, .unset, .unset, .unset] [(.long (3 : Int64)), (.long ((((ls.toInt64) * (1024 : Int64)) + ((0 : Int32).toInt64)) + ((2 : Int64) * ((0 : Int32).toInt64))))])) _
      refine XS.iload X22.here hx rfl (hb hby at_329) rfl ?_
      show Steps p.tables e below (T22.setTop (mkF m 331 #[.val (.int x0), .val (.int x1), .val (.int x2), .val (.int x3), .val (.int x4), .val (.int (1 : Int32)), .val (.int ls), .val (.int (1024 : Int32)), .val (.int (0 : Int32)), .val (.int (0 : Int32)), .val (.int (0 : Int32)), .val (.double (4652218415073722368 : UInt64)), .second, .val (.ref b15), .val (.ref b17), .unset, .unset, .unset, .unset] [(.int (0 : Int32)), (.long (3 : Int64)), (.long ((((ls.toInt64) * (1024 : Int64)) + ((0 : Int32).toInt64)) + ((2 : Int64) * ((0 : Int32).toInt64))))])) _
      refine XS.i2l X22.here hx rfl (hb hby at_331) rfl ?_
      show Steps p.tables e below (T22.setTop (mkF m 332 #[.val (.int x0), .val (.int x1), .val (.int x2), .val (.int x3), .val (.int x4), .val (.int (1 : Int32)), .val (.int ls), .val (.int (1024 : Int32)), .val (.int (0 : Int32)), .val (.int (0 : Int32)), .val (.int (0 : Int32)), .val (.double (4652218415073722368 : UInt64)), .second, .val (.ref b15), .val (.ref b17), .unset, .unset, .unset, .unset] [(.long ((0 : Int32).toInt64)), (.long (3 : Int64)), (.long ((((ls.toInt64) * (1024 : Int64)) + ((0 : Int32).toInt64)) + ((2 : Int64) * ((0 : Int32).toInt64))))])) _
      refine XS.lmul X22.here hx rfl (hb hby at_332) rfl ?_
      show Steps p.tables e below (T22.setTop (mkF m 333 #[.val (.int x0), .val (.int x1), .val (.int x2), .val (.int x3), .val (.int x4), .val (.int (1 : Int32)), .val (.int ls), .val (.int (1024 : Int32)), .val (.int (0 : Int32)), .val (.int (0 : Int32)), .val (.int (0 : Int32)), .val (.double (4652218415073722368 : UInt64)), .second, .val (.ref b15), .val (.ref b17), .unset, .unset, .unset, .unset] [(.long ((3 : Int64) * ((0 : Int32).toInt64))), (.long ((((ls.toInt64) * (1024 : Int64)) + ((0 : Int32).toInt64)) + ((2 : Int64) * ((0 : Int32).toInt64))))])) _
      refine XS.ladd X22.here hx rfl (hb hby at_333) rfl ?_
      show Steps p.tables e below (T22.setTop (mkF m 334 #[.val (.int x0), .val (.int x1), .val (.int x2), .val (.int x3), .val (.int x4), .val (.int (1 : Int32)), .val (.int ls), .val (.int (1024 : Int32)), .val (.int (0 : Int32)), .val (.int (0 : Int32)), .val (.int (0 : Int32)), .val (.double (4652218415073722368 : UInt64)), .second, .val (.ref b15), .val (.ref b17), .unset, .unset, .unset, .unset] [(.long (((((ls.toInt64) * (1024 : Int64)) + ((0 : Int32).toInt64)) + ((2 : Int64) * ((0 : Int32).toInt64))) + ((3 : Int64) * ((0 : Int32).toInt64))))])) _
      refine XS.lstore X22.here hx rfl (hb hby at_334) rfl (l' := #[.val (.int x0), .val (.int x1), .val (.int x2), .val (.int x3), .val (.int x4), .val (.int (1 : Int32)), .val (.int ls), .val (.int (1024 : Int32)), .val (.int (0 : Int32)), .val (.int (0 : Int32)), .val (.int (0 : Int32)), .val (.double (4652218415073722368 : UInt64)), .second, .val (.ref b15), .val (.ref b17), .val (.long (((((ls.toInt64) * (1024 : Int64)) + ((0 : Int32).toInt64)) + ((2 : Int64) * ((0 : Int32).toInt64))) + ((3 : Int64) * ((0 : Int32).toInt64)))), .second, .unset, .unset]) rfl ?_
      show Steps p.tables e below (T22.setTop (mkF m 336 #[.val (.int x0), .val (.int x1), .val (.int x2), .val (.int x3), .val (.int x4), .val (.int (1 : Int32)), .val (.int ls), .val (.int (1024 : Int32)), .val (.int (0 : Int32)), .val (.int (0 : Int32)), .val (.int (0 : Int32)), .val (.double (4652218415073722368 : UInt64)), .second, .val (.ref b15), .val (.ref b17), .val (.long (((((ls.toInt64) * (1024 : Int64)) + ((0 : Int32).toInt64)) + ((2 : Int64) * ((0 : Int32).toInt64))) + ((3 : Int64) * ((0 : Int32).toInt64)))), .second, .unset, .unset] [])) _
      refine XS.lload X22.here hx rfl (hb hby at_336) rfl ?_
      show Steps p.tables e below (T22.setTop (mkF m 338 #[.val (.int x0), .val (.int x1), .val (.int x2), .val (.int x3), .val (.int x4), .val (.int (1 : Int32)), .val (.int ls), .val (.int (1024 : Int32)), .val (.int (0 : Int32)), .val (.int (0 : Int32)), .val (.int (0 : Int32)), .val (.double (4652218415073722368 : UInt64)), .second, .val (.ref b15), .val (.ref b17), .val (.long (((((ls.toInt64) * (1024 : Int64)) + ((0 : Int32).toInt64)) + ((2 : Int64) * ((0 : Int32).toInt64))) + ((3 : Int64) * ((0 : Int32).toInt64)))), .second, .unset, .unset] [(.long (((((ls.toInt64) * (1024 : Int64)) + ((0 : Int32).toInt64)) + ((2 : Int64) * ((0 : Int32).toInt64))) + ((3 : Int64) * ((0 : Int32).toInt64))))])) _
      refine XS.l2dS X22.here hx rfl (hb hby at_338) rfl rfl ?_
      show Steps p.tables e below (T22.setTop (mkF m 339 #[.val (.int x0), .val (.int x1), .val (.int x2), .val (.int x3), .val (.int x4), .val (.int (1 : Int32)), .val (.int ls), .val (.int (1024 : Int32)), .val (.int (0 : Int32)), .val (.int (0 : Int32)), .val (.int (0 : Int32)), .val (.double (4652218415073722368 : UInt64)), .second, .val (.ref b15), .val (.ref b17), .val (.long (((((ls.toInt64) * (1024 : Int64)) + ((0 : Int32).toInt64)) + ((2 : Int64) * ((0 : Int32).toInt64))) + ((3 : Int64) * ((0 : Int32).toInt64)))), .second, .unset, .unset] [(.double (Jvm.FP.l2d (((((ls.toInt64) * (1024 : Int64)) + ((0 : Int32).toInt64)) + ((2 : Int64) * ((0 : Int32).toInt64))) + ((3 : Int64) * ((0 : Int32).toInt64)))))])) _
      refine XS.dload X22.here hx rfl (hb hby at_339) rfl ?_
      show Steps p.tables e below (T22.setTop (mkF m 341 #[.val (.int x0), .val (.int x1), .val (.int x2), .val (.int x3), .val (.int x4), .val (.int (1 : Int32)), .val (.int ls), .val (.int (1024 : Int32)), .val (.int (0 : Int32)), .val (.int (0 : Int32)), .val (.int (0 : Int32)), .val (.double (4652218415073722368 : UInt64)), .second, .val (.ref b15), .val (.ref b17), .val (.long (((((ls.toInt64) * (1024 : Int64)) + ((0 : Int32).toInt64)) + ((2 : Int64) * ((0 : Int32).toInt64))) + ((3 : Int64) * ((0 : Int32).toInt64)))), .second, .unset, .unset] [(.double (4652218415073722368 : UInt64)), (.double (Jvm.FP.l2d (((((ls.toInt64) * (1024 : Int64)) + ((0 : Int32).toInt64)) + ((2 : Int64) * ((0 : Int32).toInt64))) + ((3 : Int64) * ((0 : Int32).toInt64)))))])) _
      refine XS.ddivS X22.here hx rfl (hb hby at_341) rfl (own_dv_num href) rfl ?_
      show Steps p.tables e below (T22.setTop (mkF m 342 #[.val (.int x0), .val (.int x1), .val (.int x2), .val (.int x3), .val (.int x4), .val (.int (1 : Int32)), .val (.int ls), .val (.int (1024 : Int32)), .val (.int (0 : Int32)), .val (.int (0 : Int32)), .val (.int (0 : Int32)), .val (.double (4652218415073722368 : UInt64)), .second, .val (.ref b15), .val (.ref b17), .val (.long (((((ls.toInt64) * (1024 : Int64)) + ((0 : Int32).toInt64)) + ((2 : Int64) * ((0 : Int32).toInt64))) + ((3 : Int64) * ((0 : Int32).toInt64)))), .second, .unset, .unset] [(.double (Jvm.FP.ddiv (Jvm.FP.l2d (((((ls.toInt64) * (1024 : Int64)) + ((0 : Int32).toInt64)) + ((2 : Int64) * ((0 : Int32).toInt64))) + ((3 : Int64) * ((0 : Int32).toInt64)))) (4652218415073722368 : UInt64)))])) _
      refine XS.dstore X22.here hx rfl (hb hby at_342) rfl (l' := #[.val (.int x0), .val (.int x1), .val (.int x2), .val (.int x3), .val (.int x4), .val (.int (1 : Int32)), .val (.int ls), .val (.int (1024 : Int32)), .val (.int (0 : Int32)), .val (.int (0 : Int32)), .val (.int (0 : Int32)), .val (.double (4652218415073722368 : UInt64)), .second, .val (.ref b15), .val (.ref b17), .val (.long (((((ls.toInt64) * (1024 : Int64)) + ((0 : Int32).toInt64)) + ((2 : Int64) * ((0 : Int32).toInt64))) + ((3 : Int64) * ((0 : Int32).toInt64)))), .second, .val (.double (Jvm.FP.ddiv (Jvm.FP.l2d (((((ls.toInt64) * (1024 : Int64)) + ((0 : Int32).toInt64)) + ((2 : Int64) * ((0 : Int32).toInt64))) + ((3 : Int64) * ((0 : Int32).toInt64)))) (4652218415073722368 : UInt64))), .second]) rfl ?_
      show Steps p.tables e below (T22.setTop (mkF m 344 #[.val (.int x0), .val (.int x1), .val (.int x2), .val (.int x3), .val (.int x4), .val (.int (1 : Int32)), .val (.int ls), .val (.int (1024 : Int32)), .val (.int (0 : Int32)), .val (.int (0 : Int32)), .val (.int (0 : Int32)), .val (.double (4652218415073722368 : UInt64)), .second, .val (.ref b15), .val (.ref b17), .val (.long (((((ls.toInt64) * (1024 : Int64)) + ((0 : Int32).toInt64)) + ((2 : Int64) * ((0 : Int32).toInt64))) + ((3 : Int64) * ((0 : Int32).toInt64)))), .second, .val (.double (Jvm.FP.ddiv (Jvm.FP.l2d (((((ls.toInt64) * (1024 : Int64)) + ((0 : Int32).toInt64)) + ((2 : Int64) * ((0 : Int32).toInt64))) + ((3 : Int64) * ((0 : Int32).toInt64)))) (4652218415073722368 : UInt64))), .second] [])) _
      refine XS.aload X22.here hx rfl (hb hby at_344) rfl rfl ?_
      show Steps p.tables e below (T22.setTop (mkF m 346 #[.val (.int x0), .val (.int x1), .val (.int x2), .val (.int x3), .val (.int x4), .val (.int (1 : Int32)), .val (.int ls), .val (.int (1024 : Int32)), .val (.int (0 : Int32)), .val (.int (0 : Int32)), .val (.int (0 : Int32)), .val (.double (4652218415073722368 : UInt64)), .second, .val (.ref b15), .val (.ref b17), .val (.long (((((ls.toInt64) * (1024 : Int64)) + ((0 : Int32).toInt64)) + ((2 : Int64) * ((0 : Int32).toInt64))) + ((3 : Int64) * ((0 : Int32).toInt64)))), .second, .val (.double (Jvm.FP.ddiv (Jvm.FP.l2d (((((ls.toInt64) * (1024 : Int64)) + ((0 : Int32).toInt64)) + ((2 : Int64) * ((0 : Int32).toInt64))) + ((3 : Int64) * ((0 : Int32).toInt64)))) (4652218415073722368 : UInt64))), .second] [(.ref b17)])) _
      refine st25.trans ?_
      show Steps p.tables e below (T25.setTop (mkF m 349 #[.val (.int x0), .val (.int x1), .val (.int x2), .val (.int x3), .val (.int x4), .val (.int (1 : Int32)), .val (.int ls), .val (.int (1024 : Int32)), .val (.int (0 : Int32)), .val (.int (0 : Int32)), .val (.int (0 : Int32)), .val (.double (4652218415073722368 : UInt64)), .second, .val (.ref b15), .val (.ref b17), .val (.long (((((ls.toInt64) * (1024 : Int64)) + ((0 : Int32).toInt64)) + ((2 : Int64) * ((0 : Int32).toInt64))) + ((3 : Int64) * ((0 : Int32).toInt64)))), .second, .val (.double (Jvm.FP.ddiv (Jvm.FP.l2d (((((ls.toInt64) * (1024 : Int64)) + ((0 : Int32).toInt64)) + ((2 : Int64) * ((0 : Int32).toInt64))) + ((3 : Int64) * ((0 : Int32).toInt64)))) (4652218415073722368 : UInt64))), .second] [(.double rr_25)])) _
      refine XS.dload X25.here hx rfl (hb hby at_349) rfl ?_
      show Steps p.tables e below (T25.setTop (mkF m 351 #[.val (.int x0), .val (.int x1), .val (.int x2), .val (.int x3), .val (.int x4), .val (.int (1 : Int32)), .val (.int ls), .val (.int (1024 : Int32)), .val (.int (0 : Int32)), .val (.int (0 : Int32)), .val (.int (0 : Int32)), .val (.double (4652218415073722368 : UInt64)), .second, .val (.ref b15), .val (.ref b17), .val (.long (((((ls.toInt64) * (1024 : Int64)) + ((0 : Int32).toInt64)) + ((2 : Int64) * ((0 : Int32).toInt64))) + ((3 : Int64) * ((0 : Int32).toInt64)))), .second, .val (.double (Jvm.FP.ddiv (Jvm.FP.l2d (((((ls.toInt64) * (1024 : Int64)) + ((0 : Int32).toInt64)) + ((2 : Int64) * ((0 : Int32).toInt64))) + ((3 : Int64) * ((0 : Int32).toInt64)))) (4652218415073722368 : UInt64))), .second] [(.double (Jvm.FP.ddiv (Jvm.FP.l2d (((((ls.toInt64) * (1024 : Int64)) + ((0 : Int32).toInt64)) + ((2 : Int64) * ((0 : Int32).toInt64))) + ((3 : Int64) * ((0 : Int32).toInt64)))) (4652218415073722368 : UInt64))), (.double rr_25)])) _
      refine XS.dcmpS X25.here hx rfl (hb hby at_351) rfl (v := (0 : Int32)) (own_eq G25_0 href (own_mean4 (a := 1024) (b := 0) (c := 0) (d := 0) (by decide) (by omega) (by omega) (by omega) (by omega))) ?_
      show Steps p.tables e below (T25.setTop (mkF m 352 #[.val (.int x0), .val (.int x1), .val (.int x2), .val (.int x3), .val (.int x4), .val (.int (1 : Int32)), .val (.int ls), .val (.int (1024 : Int32)), .val (.int (0 : Int32)), .val (.int (0 : Int32)), .val (.int (0 : Int32)), .val (.double (4652218415073722368 : UInt64)), .second, .val (.ref b15), .val (.ref b17), .val (.long (((((ls.toInt64) * (1024 : Int64)) + ((0 : Int32).toInt64)) + ((2 : Int64) * ((0 : Int32).toInt64))) + ((3 : Int64) * ((0 : Int32).toInt64)))), .second, .val (.double (Jvm.FP.ddiv (Jvm.FP.l2d (((((ls.toInt64) * (1024 : Int64)) + ((0 : Int32).toInt64)) + ((2 : Int64) * ((0 : Int32).toInt64))) + ((3 : Int64) * ((0 : Int32).toInt64)))) (4652218415073722368 : UInt64))), .second] [(.int (0 : Int32))])) _
      refine XS.ifNo X25.here hx rfl (hb hby at_352) rfl ((if0 _ _).trans (teq (rfl : (0 : Int32) = (0 : Int32))).2) ?_
      show Steps p.tables e below (T25.setTop (mkF m 355 #[.val (.int x0), .val (.int x1), .val (.int x2), .val (.int x3), .val (.int x4), .val (.int (1 : Int32)), .val (.int ls), .val (.int (1024 : Int32)), .val (.int (0 : Int32)), .val (.int (0 : Int32)), .val (.int (0 : Int32)), .val (.double (4652218415073722368 : UInt64)), .second, .val (.ref b15), .val (.ref b17), .val (.long (((((ls.toInt64) * (1024 : Int64)) + ((0 : Int32).toInt64)) + ((2 : Int64) * ((0 : Int32).toInt64))) + ((3 : Int64) * ((0 : Int32).toInt64)))), .second, .val (.double (Jvm.FP.ddiv (Jvm.FP.l2d (((((ls.toInt64) * (1024 : Int64)) + ((0 : Int32).toInt64)) + ((2 : Int64) * ((0 : Int32).toInt64))) + ((3 : Int64) * ((0 : Int32).toInt64)))) (4652218415073722368 : UInt64))), .second] [])) _
      refine XS.iconst X25.here hx rfl (hb hby at_355) ?_
      show Steps p.tables e below (T25.setTop (mkF m 356 #[.val (.int x0), .val (.int x1), .val (.int x2), .val (.int x3), .val (.int x4), .val (.int (1 : Int32)), .val (.int ls), .val (.int (1024 : Int32)), .val (.int (0 : Int32)), .val (.int (0 : Int32)), .val (.int (0 : Int32)), .val (.double (4652218415073722368 : UInt64)), .second, .val (.ref b15), .val (.ref b17), .val (.long (((((ls.toInt64) * (1024 : Int64)) + ((0 : Int32).toInt64)) + ((2 : Int64) * ((0 : Int32).toInt64))) + ((3 : Int64) * ((0 : Int32).toInt64)))), .second, .val (.double (Jvm.FP.ddiv (Jvm.FP.l2d (((((ls.toInt64) * (1024 : Int64)) + ((0 : Int32).toInt64)) + ((2 : Int64) * ((0 : Int32).toInt64))) + ((3 : Int64) * ((0 : Int32).toInt64)))) (4652218415073722368 : UInt64))), .second] [(.int (1 : Int32))])) _
      refine XS.goto X25.here hx rfl (pc0 := 356) (pc' := 360) rfl (hb hby at_356) (by decide) (by decide) ?_
      show Steps p.tables e below (T25.setTop (mkF m 360 #[.val (.int x0), .val (.int x1), .val (.int x2), .val (.int x3), .val (.int x4), .val (.int (1 : Int32)), .val (.int ls), .val (.int (1024 : Int32)), .val (.int (0 : Int32)), .val (.int (0 : Int32)), .val (.int (0 : Int32)), .val (.double (4652218415073722368 : UInt64)), .second, .val (.ref b15), .val (.ref b17), .val (.long (((((ls.toInt64) * (1024 : Int64)) + ((0 : Int32).toInt64)) + ((2 : Int64) * ((0 : Int32).toInt64))) + ((3 : Int64) * ((0 : Int32).toInt64)))), .second, .val (.double (Jvm.FP.ddiv (Jvm.FP.l2d (((((ls.toInt64) * (1024 : Int64)) + ((0 : Int32).toInt64)) + ((2 : Int64) * ((0 : Int32).toInt64))) + ((3 : Int64) * ((0 : Int32).toInt64)))) (4652218415073722368 : UInt64))), .second] [(.int (1 : Int32))])) _
      exact retN X25 hx (t := .boolean) Bd.returns (by simp) (hb hby at_360) hr
    · show Q0 Z x0 x1 x2 x3 x4 h0 n0 _ T25.heap _
      rw [K25c]
      exact ⟨rfl, N25⟩
  · obtain ⟨_, _, ⟨T26, L26, k26, n26⟩, -, X26, ⟨Lc26, hQ26, l26, y26, z26⟩, st26⟩ := Jvm.LawKit.callS X0 hx (y := (⟨"java/lang/Math", "min", "(II)I"⟩ : MethodName)) hown (mvT hZ (hw _ (List.mem_of_getElem? (i := 1) rfl))) (mvT hZ (hw _ (List.mem_of_getElem? (i := 2) rfl))) (mvT hZ (hw _ (List.mem_of_getElem? (i := 3) rfl))) (mvT hZ (hw _ (List.mem_of_getElem? (i := 4) rfl))) (by decide) (backOf (W := 0) (rm1 l Z a0 hw [] (x0 &&& (2147483647 : Int32)) ((2147483647 : Int32) - ((2 : Int32) - (1 : Int32))) h0 n0 Z0 ) hZ (hw _ (List.mem_of_getElem? (i := 4) rfl)) (hw _ (List.mem_of_getElem? (i := 3) rfl)) (by decide) (by decide)) (g := (mkF m 18 #[.val (.int x0), .val (.int x1), .val (.int x2), .val (.int x3), .val (.int x4), .val (.int (2 : Int32)), .unset, .unset, .unset, .unset, .unset, .unset, .unset, .unset, .unset, .unset, .unset, .unset, .unset] [(.int ((2147483647 : Int32) - ((2 : Int32) - (1 : Int32)))), (.int (x0 &&& (2147483647 : Int32)))])) rfl (by rw [hml]; rfl) (argsL := [(.int (x0 &&& (2147483647 : Int32))), (.int ((2147483647 : Int32) - ((2 : Int32) - (1 : Int32))))]) (rest := []) (lenOf pd_710716 rfl) rfl (by show 2 * 0 + _ ≤ _; exact Nat.le_of_eq rfl) (hb hby at_18) (fun _ _ => ⟨rfl, e0, (by decide : 0 + 0 ≤ _), (by decide : 0 + 0 ≤ _)⟩)
    dsimp only [Pt.U, Pt.locs, Pt.cells, Pt.slots] at X26 l26 y26 z26 st26 hQ26
    subst l26 y26 z26
    obtain ⟨rfl, N26q, K26c⟩ := hQ26
    have N26 := Fr.app N0 N26q
    obtain ⟨k, ek, bk⟩ := own_least x0 ((2 : Int32) - (1 : Int32)) (j := 1) (by decide) (by decide)
    obtain ⟨ls, hls⟩ : ∃ z, z = (own_minI (x0 &&& (2147483647 : Int32)) ((2147483647 : Int32) - ((2 : Int32) - (1 : Int32)))) := ⟨_, rfl⟩
    rw [← hls] at ek
    obtain ⟨w0, hw0⟩ : ∃ z, z = ((x2 &&& (2147483647 : Int32)) % (1025 : Int32)) := ⟨_, rfl⟩
    obtain ⟨nw0, ew0, bw0'⟩ : ∃ k : Nat, w0.toInt = (k : Int) ∧ k < 1025 := by rw [hw0]; exact own_rem x2 (1025 : Int32) (by decide) (by decide)
    have bw0 : nw0 ≤ 1024 := by omega
    obtain ⟨w1, hw1⟩ : ∃ z, z = ((1024 : Int32) - w0) := ⟨_, rfl⟩
    obtain ⟨nw1, ew1, bw1, sw1⟩ : ∃ k : Nat, w1.toInt = (k : Int) ∧ k ≤ 1024 ∧ nw0 + k = 1024 := by
      refine ⟨1024 - nw0, ?_, by omega, by omega⟩
      rw [hw1]; exact own_sub (a := 1024) (by decide) ew0 bw0
    have ew2 : ((0 : Int32)).toInt = ((0 : Nat) : Int) := by decide
    have bw2 : 0 ≤ 1024 := by decide
    have ew3 : ((0 : Int32)).toInt = ((0 : Nat) : Int) := by decide
    have bw3 : 0 ≤ 1024 := by decide
    obtain ⟨T27, h27, X27, e27, E27, A27, st27⟩ := DA.make X26 hx hZ (hw _ (List.mem_of_getElem? (i := 6) rfl)) K26c (g := (mkF m 187 #[.val (.int x0), .val (.int x1), .val (.int x2), .val (.int x3), .val (.int x4), .val (.int (2 : Int32)), .val (.int ls), .val (.int w0), .val (.int w1), .val (.int (0 : Int32)), .val (.int (0 : Int32)), .val (.double (4652218415073722368 : UInt64)), .second, .unset, .unset, .unset, .unset, .unset, .unset] [(.int (2 : Int32))])) rfl (hb hby at_187) rfl 2 (by decide) (by decide) (by decide) (by decide) (by decide)
    obtain ⟨b27, g27⟩ : ∃ z, z = h0.size := ⟨_, rfl⟩
    rw [← g27] at A27 st27
    have ge_b27 : n0 ≤ b27 := Nat.le_trans Z0 (Nat.le_of_eq g27.symm)
    have Z27 : n0 ≤ h27.size := Nat.le_trans Z0 E27.1
    obtain ⟨T28, h28, X28, e28, W28, V28, st28⟩ := DA.store X27 hx hZ e27 A27 0 (by decide) (by decide) (by decide) (x := (Jvm.FP.ddiv (Jvm.FP.i2d w0) (4652218415073722368 : UInt64))) (g := (mkF m 197 #[.val (.int x0), .val (.int x1), .val (.int x2), .val (.int x3), .val (.int x4), .val (.int (2 : Int32)), .val (.int ls), .val (.int w0), .val (.int w1), .val (.int (0 : Int32)), .val (.int (0 : Int32)), .val (.double (4652218415073722368 : UInt64)), .second, .unset, .unset, .unset, .unset, .unset, .unset] [(.double (Jvm.FP.ddiv (Jvm.FP.i2d w0) (4652218415073722368 : UInt64))), (.int (0 : Int32)), (.ref b27), (.ref b27)])) rfl rfl (hb hby at_197)
    have N28 := Fr.snoc X28 N26 ge_b27
    have Z28 : n0 ≤ h28.size := Nat.le_trans Z27 (Keep.of_wr W28).1
    obtain ⟨T29, h29, X29, e29, W29, V29, st29⟩ := DA.store X28 hx hZ e28 V28 1 (by decide) (by decide) (by decide) (x := (Jvm.FP.ddiv (Jvm.FP.i2d w1) (4652218415073722368 : UInt64))) (g := (mkF m 206 #[.val (.int x0), .val (.int x1), .val (.int x2), .val (.int x3), .val (.int x4), .val (.int (2 : Int32)), .val (.int ls), .val (.int w0), .val (.int w1), .val (.int (0 : Int32)), .val (.int (0 : Int32)), .val (.double (4652218415073722368 : UInt64)), .second, .unset, .unset, .unset, .unset, .unset, .unset] [(.double (Jvm.FP.ddiv (Jvm.FP.i2d w1) (4652218415073722368 : UInt64))), (.int (1 : Int32)), (.ref b27), (.ref b27)])) rfl rfl (hb hby at_206)
    have N29 := Fr.snoc X29 N28 ge_b27
    have Z29 : n0 ≤ h29.size := Nat.le_trans Z28 (Keep.of_wr W29).1
    have hk' : ls.toInt = ((k : Nat) : Int) := ek
    have hnum := own_num hk' ew1 ew2 ew3 bw1 bw2 bw3
    have hN : k * 1024 + nw1 + 2 * 0 + 3 * 0 < 2 ^ 43 := by omega
    have href := own_ref hnum hN
    obtain ⟨T30, h30, X30, e30, E30, A30, D30, -, st30⟩ := newO X29 hx hZ hown (hw _ (List.mem_of_getElem? (i := 7) rfl)) (hw _ (List.mem_of_getElem? (i := 8) rfl)) (hw _ (List.mem_of_getElem? (i := 9) rfl)) e29 (g := (mkF m 294 #[.val (.int x0), .val (.int x1), .val (.int x2), .val (.int x3), .val (.int x4), .val (.int (2 : Int32)), .val (.int ls), .val (.int w0), .val (.int w1), .val (.int (0 : Int32)), .val (.int (0 : Int32)), .val (.double (4652218415073722368 : UInt64)), .second, .val (.ref b27), .unset, .unset, .unset, .unset, .unset] [])) rfl (hb hby at_294) (by decide) (by decide)
    obtain ⟨b30, g30⟩ : ∃ z, z = h29.size := ⟨_, rfl⟩
    rw [← g30] at A30 D30 st30
    have ne_31 : b27 ≠ b30 := Nat.ne_of_lt (Nat.lt_of_lt_of_le V29.lt (Nat.le_of_eq g30.symm))
    have V_32 := V29.ext E30
    have ge_b30 : n0 ≤ b30 := Nat.le_trans Z29 (Nat.le_of_eq g30.symm)
    have Z30 : n0 ≤ h30.size := Nat.le_trans Z29 E30.1
    have F_33 : Fld Z h30 b30 "com/example/berthline/berthline/engine/pool/NextJobs" "least" "I" (.int (0 : Int32)) := D30 (Or.inr (hw _ (List.mem_of_getElem? (i := 17) rfl))) (ty := .int) (by decide)
    have F_34 : Fld Z h30 b30 "com/example/berthline/berthline/engine/pool/NextJobs" "probabilities" "[D" .null := D30 (Or.inr (hw _ (List.mem_of_getElem? (i := 19) rfl))) (ty := (.array .double)) (by decide)
    obtain ⟨_, _, ⟨T35, L35, k35, n35⟩, -, X35, ⟨Lc35, hQ35, l35, y35, z35⟩, st35⟩ := X30.specialBack hx (y := (⟨"com/example/berthline/berthline/engine/pool/NextJobs", "<init>", "(I[D)V"⟩ : MethodName)) rfl hown (mvT hZ (hw _ (List.mem_of_getElem? (i := 10) rfl))) (mvT hZ (hw _ (List.mem_of_getElem? (i := 11) rfl))) (mvT hZ (hw _ (List.mem_of_getElem? (i := 12) rfl))) (by decide) (backOf (W := 1) (rm2 l Z a0 hw [] b30 ls b27 h30 n0 Z30 A30 F_33 F_34 ge_b30) hZ (hw _ (List.mem_of_getElem? (i := 12) rfl)) (hw _ (List.mem_of_getElem? (i := 9) rfl)) (by decide) (by decide)) (g := (mkF m 302 #[.val (.int x0), .val (.int x1), .val (.int x2), .val (.int x3), .val (.int x4), .val (.int (2 : Int32)), .val (.int ls), .val (.int w0), .val (.int w1), .val (.int (0 : Int32)), .val (.int (0 : Int32)), .val (.double (4652218415073722368 : UInt64)), .second, .val (.ref b27), .unset, .unset, .unset, .unset, .unset] [(.ref b27), (.int ls), (.ref b30), (.ref b30)])) rfl (by rw [hml]; rfl) (Steps.refl _) (a := b30) (argsL := [(.int ls), (.ref b27)]) (rest := [(.ref b30)]) (lenOf pd_79383 rfl) rfl (by show 2 * 0 + _ ≤ _; exact Nat.le_of_eq rfl) (hb hby at_302) (fun _ _ => ⟨rfl, e30, (by decide : 2 + 0 ≤ _), (by decide : 4 + 0 ≤ _)⟩)
    dsimp only [Pt.U, Pt.locs, Pt.cells, Pt.slots] at X35 l35 y35 z35 st35 hQ35
    subst l35 y35 z35
    obtain ⟨rfl, N35q, K35c, G35_0, G35_1, G35_2⟩ := hQ35
    have N35 := Fr.app N29 N35q
    have V_36 := V_32.keep K35c (ninS ne_31 nin0)
    have E_37 := A30.keep K35c
    have Z35 : n0 ≤ T35.heap.size := Nat.le_trans Z30 K35c.1
    obtain ⟨cq38, kq38, q38a, q38b, q38c⟩ := isOf hZ rfl G35_0
    obtain ⟨_, _, ⟨T38, L38, k38, n38⟩, -, X38, ⟨Lc38, hQ38, l38, y38, z38⟩, st38⟩ := X35.virtualBack hx (y := (⟨"com/example/berthline/berthline/engine/pool/NextJobs", "mean", "()D"⟩ : MethodName)) (z := (⟨"com/example/berthline/berthline/engine/pool/NextJobs", "mean", "()D"⟩ : MethodName)) hown (mvT hZ (hw _ (List.mem_of_getElem? (i := 23) rfl))) (mvT hZ (hw _ (List.mem_of_getElem? (i := 24) rfl))) (notFace_of_selects (args := #[]) (mvT hZ (hw _ (List.mem_of_getElem? (i := 26) rfl)))) (mvT hZ (hw _ (List.mem_of_getElem? (i := 26) rfl))) (mvT hZ (hw _ (List.mem_of_getElem? (i := 25) rfl))) (by decide) (backOf (W := 0) (rm4 l Z a0 hw [] b30 ls b27 2 (own_upd (own_upd (fun _ => 0) 0 (Jvm.FP.ddiv (Jvm.FP.i2d w0) (4652218415073722368 : UInt64))) 1 (Jvm.FP.ddiv (Jvm.FP.i2d w1) (4652218415073722368 : UInt64))) k (own_l4 nw0 nw1 0 0) T35.heap n0 Z35 G35_1 G35_2 V_36 hk' (by omega) (by decide) (fun i hi => match i, hi with | 0, _ => own_prob ew0 bw0 | 1, _ => own_prob ew1 bw1 | (i + 2), h => absurd h (by omega)) (fun i hi => match i, hi with | 0, _ => bw0 | 1, _ => bw1 | (i + 2), h => absurd h (by omega))) hZ (hw _ (List.mem_of_getElem? (i := 27) rfl)) (hw _ (List.mem_of_getElem? (i := 9) rfl)) (by decide) (by decide)) q38a q38c (g := (mkF m 346 #[.val (.int x0), .val (.int x1), .val (.int x2), .val (.int x3), .val (.int x4), .val (.int (2 : Int32)), .val (.int ls), .val (.int w0), .val (.int w1), .val (.int (0 : Int32)), .val (.int (0 : Int32)), .val (.double (4652218415073722368 : UInt64)), .second, .val (.ref b27), .val (.ref b30), .val (.long (((((ls.toInt64) * (1024 : Int64)) + (w1.toInt64)) + ((2 : Int64) * ((0 : Int32).toInt64))) + ((3 : Int64) * ((0 : Int32).toInt64)))), .second, .val (.double (Jvm.FP.ddiv (Jvm.FP.l2d (((((ls.toInt64) * (1024 : Int64)) + (w1.toInt64)) + ((2 : Int64) * ((0 : Int32).toInt64))) + ((3 : Int64) * ((0 : Int32).toInt64)))) (4652218415073722368 : UInt64))), .second] [(.ref b30)])) rfl (by rw [hml]; rfl) (Steps.refl _) (argsL := []) (rest := []) (lenOf pd_66659 rfl) rfl (by show 2 * 0 + _ ≤ _; exact Nat.le_of_eq rfl) (hb hby at_346) (fun _ _ => ⟨rfl, rfl, (by decide : 2 + 0 ≤ _), (by decide : 4 + 0 ≤ _)⟩)
    dsimp only [Pt.U, Pt.locs, Pt.cells, Pt.slots] at X38 l38 y38 z38 st38 hQ38
    subst l38 y38 z38
    obtain ⟨rr_38, rfl, N38q, K38c, G38_0⟩ := hQ38
    have N38 := Fr.app N35 N38q
    obtain ⟨fs, hr, hrun, hended, hW, hsame⟩ := X38.leave (v := some (.int (1 : Int32))) (fun h => by rw [Bd.returns] at h; cases h)
    refine ⟨_, _, pre0 _ ?_, hrun, hended, _, _, rfl, ?_, ⟨_, rfl⟩, hW, hsame.mono (by decide) (by decide)⟩
    · show Steps p.tables e below (s₁.setTop (mkF m 0 #[.val (.int x0), .val (.int x1), .val (.int x2), .val (.int x3), .val (.int x4), .unset, .unset, .unset, .unset, .unset, .unset, .unset, .unset, .unset, .unset, .unset, .unset, .unset, .unset] [])) _
      refine XS.iconst X0.here hx rfl (hb hby at_0) ?_
      show Steps p.tables e below (s₁.setTop (mkF m 1 #[.val (.int x0), .val (.int x1), .val (.int x2), .val (.int x3), .val (.int x4), .unset, .unset, .unset, .unset, .unset, .unset, .unset, .unset, .unset, .unset, .unset, .unset, .unset, .unset] [(.int (1 : Int32))])) _
      refine XS.iloadN X0.here hx rfl (hb hby at_1) rfl ?_
      show Steps p.tables e below (s₁.setTop (mkF m 2 #[.val (.int x0), .val (.int x1), .val (.int x2), .val (.int x3), .val (.int x4), .unset, .unset, .unset, .unset, .unset, .unset, .unset, .unset, .unset, .unset, .unset, .unset, .unset, .unset] [(.int x1), (.int (1 : Int32))])) _
      refine XS.iconst X0.here hx rfl (hb hby at_2) ?_
      show Steps p.tables e below (s₁.setTop (mkF m 3 #[.val (.int x0), .val (.int x1), .val (.int x2), .val (.int x3), .val (.int x4), .unset, .unset, .unset, .unset, .unset, .unset, .unset, .unset, .unset, .unset, .unset, .unset, .unset, .unset] [(.int (3 : Int32)), (.int x1), (.int (1 : Int32))])) _
      refine XS.iand X0.here hx rfl (hb hby at_3) rfl ?_
      show Steps p.tables e below (s₁.setTop (mkF m 4 #[.val (.int x0), .val (.int x1), .val (.int x2), .val (.int x3), .val (.int x4), .unset, .unset, .unset, .unset, .unset, .unset, .unset, .unset, .unset, .unset, .unset, .unset, .unset, .unset] [(.int (x1 &&& (3 : Int32))), (.int (1 : Int32))])) _
      refine XS.iadd X0.here hx rfl (hb hby at_4) rfl ?_
      show Steps p.tables e below (s₁.setTop (mkF m 5 #[.val (.int x0), .val (.int x1), .val (.int x2), .val (.int x3), .val (.int x4), .unset, .unset, .unset, .unset, .unset, .unset, .unset, .unset, .unset, .unset, .unset, .unset, .unset, .unset] [(.int ((1 : Int32) + (x1 &&& (3 : Int32))))])) _
      refine XS.istore X0.here hx rfl (hb hby at_5) rfl (l' := #[.val (.int x0), .val (.int x1), .val (.int x2), .val (.int x3), .val (.int x4), .val (.int ((1 : Int32) + (x1 &&& (3 : Int32)))), .unset, .unset, .unset, .unset, .unset, .unset, .unset, .unset, .unset, .unset, .unset, .unset, .unset]) rfl ?_
      show Steps p.tables e below (s₁.setTop (mkF m 7 #[.val (.int x0), .val (.int x1), .val (.int x2), .val (.int x3), .val (.int x4), .val (.int ((1 : Int32) + (x1 &&& (3 : Int32)))), .unset, .unset, .unset, .unset, .unset, .unset, .unset, .unset, .unset, .unset, .unset, .unset, .unset] [])) _
      refine castTop (g' := (mkF m 7 #[.val (.int x0), .val (.int x1), .val (.int x2), .val (.int x3), .val (.int x4), .val (.int (2 : Int32)), .unset, .unset, .unset, .unset, .unset, .unset, .unset, .unset, .unset, .unset, .unset, .unset, .unset] [])) (by rw [hn4]) ?_
      show Steps p.tables e below (s₁.setTop (mkF m 7 #[.val (.int x0), .val (.int x1), .val (.int x2), .val (.int x3), .val (.int x4), .val (.int (2 : Int32)), .unset, .unset, .unset, .unset, .unset, .unset, .unset, .unset, .unset, .unset, .unset, .unset, .unset] [])) _
      refine XS.iloadN X0.here hx rfl (hb hby at_7) rfl ?_
      show Steps p.tables e below (s₁.setTop (mkF m 8 #[.val (.int x0), .val (.int x1), .val (.int x2), .val (.int x3), .val (.int x4), .val (.int (2 : Int32)), .unset, .unset, .unset, .unset, .unset, .unset, .unset, .unset, .unset, .unset, .unset, .unset, .unset] [(.int x0)])) _
      refine Jvm.Stand.ldcI X0 hx hown (mvT hZ (hw _ (List.mem_of_getElem? (i := 0) rfl))) rfl (hb hby at_8) ?_
      show Steps p.tables e below (s₁.setTop (mkF m 10 #[.val (.int x0), .val (.int x1), .val (.int x2), .val (.int x3), .val (.int x4), .val (.int (2 : Int32)), .unset, .unset, .unset, .unset, .unset, .unset, .unset, .unset, .unset, .unset, .unset, .unset, .unset] [(.int (2147483647 : Int32)), (.int x0)])) _
      refine XS.iand X0.here hx rfl (hb hby at_10) rfl ?_
      show Steps p.tables e below (s₁.setTop (mkF m 11 #[.val (.int x0), .val (.int x1), .val (.int x2), .val (.int x3), .val (.int x4), .val (.int (2 : Int32)), .unset, .unset, .unset, .unset, .unset, .unset, .unset, .unset, .unset, .unset, .unset, .unset, .unset] [(.int (x0 &&& (2147483647 : Int32)))])) _
      refine Jvm.Stand.ldcI X0 hx hown (mvT hZ (hw _ (List.mem_of_getElem? (i := 0) rfl))) rfl (hb hby at_11) ?_
      show Steps p.tables e below (s₁.setTop (mkF m 13 #[.val (.int x0), .val (.int x1), .val (.int x2), .val (.int x3), .val (.int x4), .val (.int (2 : Int32)), .unset, .unset, .unset, .unset, .unset, .unset, .unset, .unset, .unset, .unset, .unset, .unset, .unset] [(.int (2147483647 : Int32)), (.int (x0 &&& (2147483647 : Int32)))])) _
      refine XS.iload X0.here hx rfl (hb hby at_13) rfl ?_
      show Steps p.tables e below (s₁.setTop (mkF m 15 #[.val (.int x0), .val (.int x1), .val (.int x2), .val (.int x3), .val (.int x4), .val (.int (2 : Int32)), .unset, .unset, .unset, .unset, .unset, .unset, .unset, .unset, .unset, .unset, .unset, .unset, .unset] [(.int (2 : Int32)), (.int (2147483647 : Int32)), (.int (x0 &&& (2147483647 : Int32)))])) _
      refine XS.iconst X0.here hx rfl (hb hby at_15) ?_
      show Steps p.tables e below (s₁.setTop (mkF m 16 #[.val (.int x0), .val (.int x1), .val (.int x2), .val (.int x3), .val (.int x4), .val (.int (2 : Int32)), .unset, .unset, .unset, .unset, .unset, .unset, .unset, .unset, .unset, .unset, .unset, .unset, .unset] [(.int (1 : Int32)), (.int (2 : Int32)), (.int (2147483647 : Int32)), (.int (x0 &&& (2147483647 : Int32)))])) _
      refine XS.isub X0.here hx rfl (hb hby at_16) rfl ?_
      show Steps p.tables e below (s₁.setTop (mkF m 17 #[.val (.int x0), .val (.int x1), .val (.int x2), .val (.int x3), .val (.int x4), .val (.int (2 : Int32)), .unset, .unset, .unset, .unset, .unset, .unset, .unset, .unset, .unset, .unset, .unset, .unset, .unset] [(.int ((2 : Int32) - (1 : Int32))), (.int (2147483647 : Int32)), (.int (x0 &&& (2147483647 : Int32)))])) _
      refine XS.isub X0.here hx rfl (hb hby at_17) rfl ?_
      show Steps p.tables e below (s₁.setTop (mkF m 18 #[.val (.int x0), .val (.int x1), .val (.int x2), .val (.int x3), .val (.int x4), .val (.int (2 : Int32)), .unset, .unset, .unset, .unset, .unset, .unset, .unset, .unset, .unset, .unset, .unset, .unset, .unset] [(.int ((2147483647 : Int32) - ((2 : Int32) - (1 : Int32)))), (.int (x0 &&& (2147483647 : Int32)))])) _
      refine st26 _ ?_
      show Steps p.tables e below (T26.setTop (mkF m 21 #[.val (.int x0), .val (.int x1), .val (.int x2), .val (.int x3), .val (.int x4), .val (.int (2 : Int32)), .unset, .unset, .unset, .unset, .unset, .unset, .unset, .unset, .unset, .unset, .unset, .unset, .unset] [(.int (own_minI (x0 &&& (2147483647 : Int32)) ((2147483647 : Int32) - ((2 : Int32) - (1 : Int32)))))])) _
      refine XS.istore X26.here hx rfl (hb hby at_21) rfl (l' := #[.val (.int x0), .val (.int x1), .val (.int x2), .val (.int x3), .val (.int x4), .val (.int (2 : Int32)), .val (.int (own_minI (x0 &&& (2147483647 : Int32)) ((2147483647 : Int32) - ((2 : Int32) - (1 : Int32))))), .unset, .unset, .unset, .unset, .unset, .unset, .unset, .unset, .unset, .unset, .unset, .unset]) rfl ?_
      show Steps p.tables e below (T26.setTop (mkF m 23 #[.val (.int x0), .val (.int x1), .val (.int x2), .val (.int x3), .val (.int x4), .val (.int (2 : Int32)), .val (.int (own_minI (x0 &&& (2147483647 : Int32)) ((2147483647 : Int32) - ((2 : Int32) - (1 : Int32))))), .unset, .unset, .unset, .unset, .unset, .unset, .unset, .unset, .unset, .unset, .unset, .unset] [])) _
      refine castTop (g' := (mkF m 23 #[.val (.int x0), .val (.int x1), .val (.int x2), .val (.int x3), .val (.int x4), .val (.int (2 : Int32)), .val (.int ls), .unset, .unset, .unset, .unset, .unset, .unset, .unset, .unset, .unset, .unset, .unset, .unset] [])) (by rw [hls]) ?_
      show Steps p.tables e below (T26.setTop (mkF m 23 #[.val (.int x0), .val (.int x1), .val (.int x2), .val (.int x3), .val (.int x4), .val (.int (2 : Int32)), .val (.int ls), .unset, .unset, .unset, .unset, .unset, .unset, .unset, .unset, .unset, .unset, .unset, .unset] [])) _
      refine XS.iload X26.here hx rfl (hb hby at_23) rfl ?_
      show Steps p.tables e below (T26.setTop (mkF m 25 #[.val (.int x0), .val (.int x1), .val (.int x2), .val (.int x3), .val (.int x4), .val (.int (2 : Int32)), .val (.int ls), .unset, .unset, .unset, .unset, .unset, .unset, .unset, .unset, .unset, .unset, .unset, .unset] [(.int (2 : Int32))])) _
      refine XS.iconst X26.here hx rfl (hb hby at_25) ?_
      show Steps p.tables e below (T26.setTop (mkF m 26 #[.val (.int x0), .val (.int x1), .val (.int x2), .val (.int x3), .val (.int x4), .val (.int (2 : Int32)), .val (.int ls), .unset, .unset, .unset, .unset, .unset, .unset, .unset, .unset, .unset, .unset, .unset, .unset] [(.int (1 : Int32)), (.int (2 : Int32))])) _
      refine XS.icmpYes X26.here hx rfl (pc0 := 26) (pc' := 35) rfl (hb hby at_26) rfl (feq (by decide : ¬ ((2 : Int32) = (1 : Int32)))).2 (by decide) (by decide) ?_
      show Steps p.tables e below (T26.setTop (mkF m 35 #[.val (.int x0), .val (.int x1), .val (.int x2), .val (.int x3), .val (.int x4), .val (.int (2 : Int32)), .val (.int ls), .unset, .unset, .unset, .unset, .unset, .unset, .unset, .unset, .unset, .unset, .unset, .unset] [])) _
      refine XS.iloadN X26.here hx rfl (hb hby at_35) rfl ?_
      show Steps p.tables e below (T26.setTop (mkF m 36 #[.val (.int x0), .val (.int x1), .val (.int x2), .val (.int x3), .val (.int x4), .val (.int (2 : Int32)), .val (.int ls), .unset, .unset, .unset, .unset, .unset, .unset, .unset, .unset, .unset, .unset, .unset, .unset] [(.int x2)])) _
      refine Jvm.Stand.ldcI X26 hx hown (mvT hZ (hw _ (List.mem_of_getElem? (i := 0) rfl))) rfl (hb hby at_36) ?_
      show Steps p.tables e below (T26.setTop (mkF m 38 #[.val (.int x0), .val (.int x1), .val (.int x2), .val (.int x3), .val (.int x4), .val (.int (2 : Int32)), .val (.int ls), .unset, .unset, .unset, .unset, .unset, .unset, .unset, .unset, .unset, .unset, .unset, .unset] [(.int (2147483647 : Int32)), (.int x2)])) _
      refine XS.iand X26.here hx rfl (hb hby at_38) rfl ?_
      show Steps p.tables e below (T26.setTop (mkF m 39 #[.val (.int x0), .val (.int x1), .val (.int x2), .val (.int x3), .val (.int x4), .val (.int (2 : Int32)), .val (.int ls), .unset, .unset, .unset, .unset, .unset, .unset, .unset, .unset, .unset, .unset, .unset, .unset] [(.int (x2 &&& (2147483647 : Int32)))])) _
      refine XS.sipush X26.here hx rfl (hb hby at_39) ?_
      show Steps p.tables e below (T26.setTop (mkF m 42 #[.val (.int x0), .val (.int x1), .val (.int x2), .val (.int x3), .val (.int x4), .val (.int (2 : Int32)), .val (.int ls), .unset, .unset, .unset, .unset, .unset, .unset, .unset, .unset, .unset, .unset, .unset, .unset] [(.int (1025 : Int32)), (.int (x2 &&& (2147483647 : Int32)))])) _
      refine iremM X26 hx rfl (hb hby at_42) rfl (by decide) ?_
      show Steps p.tables e below (T26.setTop (mkF m 43 #[.val (.int x0), .val (.int x1), .val (.int x2), .val (.int x3), .val (.int x4), .val (.int (2 : Int32)), .val (.int ls), .unset, .unset, .unset, .unset, .unset, .unset, .unset, .unset, .unset, .unset, .unset, .unset] [(.int ((x2 &&& (2147483647 : Int32)) % (1025 : Int32)))])) _
      refine XS.istore X26.here hx rfl (hb hby at_43) rfl (l' := #[.val (.int x0), .val (.int x1), .val (.int x2), .val (.int x3), .val (.int x4), .val (.int (2 : Int32)), .val (.int ls), .val (.int ((x2 &&& (2147483647 : Int32)) % (1025 : Int32))), .unset, .unset, .unset, .unset, .unset, .unset, .unset, .unset, .unset, .unset, .unset]) rfl ?_
      show Steps p.tables e below (T26.setTop (mkF m 45 #[.val (.int x0), .val (.int x1), .val (.int x2), .val (.int x3), .val (.int x4), .val (.int (2 : Int32)), .val (.int ls), .val (.int ((x2 &&& (2147483647 : Int32)) % (1025 : Int32))), .unset, .unset, .unset, .unset, .unset, .unset, .unset, .unset, .unset, .unset, .unset] [])) _
      refine castTop (g' := (mkF m 45 #[.val (.int x0), .val (.int x1), .val (.int x2), .val (.int x3), .val (.int x4), .val (.int (2 : Int32)), .val (.int ls), .val (.int w0), .unset, .unset, .unset, .unset, .unset, .unset, .unset, .unset, .unset, .unset, .unset] [])) (by rw [hw0]) ?_
      show Steps p.tables e below (T26.setTop (mkF m 45 #[.val (.int x0), .val (.int x1), .val (.int x2), .val (.int x3), .val (.int x4), .val (.int (2 : Int32)), .val (.int ls), .val (.int w0), .unset, .unset, .unset, .unset, .unset, .unset, .unset, .unset, .unset, .unset, .unset] [])) _
      refine XS.iload X26.here hx rfl (hb hby at_45) rfl ?_
      show Steps p.tables e below (T26.setTop (mkF m 47 #[.val (.int x0), .val (.int x1), .val (.int x2), .val (.int x3), .val (.int x4), .val (.int (2 : Int32)), .val (.int ls), .val (.int w0), .unset, .unset, .unset, .unset, .unset, .unset, .unset, .unset, .unset, .unset, .unset] [(.int (2 : Int32))])) _
      refine XS.iconst X26.here hx rfl (hb hby at_47) ?_
      show Steps p.tables e below (T26.setTop (mkF m 48 #[.val (.int x0), .val (.int x1), .val (.int x2), .val (.int x3), .val (.int x4), .val (.int (2 : Int32)), .val (.int ls), .val (.int w0), .unset, .unset, .unset, .unset, .unset, .unset, .unset, .unset, .unset, .unset, .unset] [(.int (2 : Int32)), (.int (2 : Int32))])) _
      refine XS.icmpNo X26.here hx rfl (hb hby at_48) rfl (teq (rfl : (2 : Int32) = (2 : Int32))).2 ?_
      show Steps p.tables e below (T26.setTop (mkF m 51 #[.val (.int x0), .val (.int x1), .val (.int x2), .val (.int x3), .val (.int x4), .val (.int (2 : Int32)), .val (.int ls), .val (.int w0), .unset, .unset, .unset, .unset, .unset, .unset, .unset, .unset, .unset, .unset, .unset] [])) _
      refine XS.sipush X26.here hx rfl (hb hby at_51) ?_
      show Steps p.tables e below (T26.setTop (mkF m 54 #[.val (.int x0), .val (.int x1), .val (.int x2), .val (.int x3), .val (.int x4), .val (.int (2 : Int32)), .val (.int ls), .val (.int w0), .unset, .unset, .unset, .unset, .unset, .unset, .unset, .unset, .unset, .unset, .unset] [(.int (1024 : Int32))])) _
      refine XS.iload X26.here hx rfl (hb hby at_54) rfl ?_
      show Steps p.tables e below (T26.setTop (mkF m 56 #[.val (.int x0), .val (.int x1), .val (.int x2), .val (.int x3), .val (.int x4), .val (.int (2 : Int32)), .val (.int ls), .val (.int w0), .unset, .unset, .unset, .unset, .unset, .unset, .unset, .unset, .unset, .unset, .unset] [(.int w0), (.int (1024 : Int32))])) _
      refine XS.isub X26.here hx rfl (hb hby at_56) rfl ?_
      show Steps p.tables e below (T26.setTop (mkF m 57 #[.val (.int x0), .val (.int x1), .val (.int x2), .val (.int x3), .val (.int x4), .val (.int (2 : Int32)), .val (.int ls), .val (.int w0), .unset, .unset, .unset, .unset, .unset, .unset, .unset, .unset, .unset, .unset, .unset] [(.int ((1024 : Int32) - w0))])) _
      refine XS.goto X26.here hx rfl (pc0 := 57) (pc' := 81) rfl (hb hby at_57) (by decide) (by decide) ?_
      show Steps p.tables e below (T26.setTop (mkF m 81 #[.val (.int x0), .val (.int x1), .val (.int x2), .val (.int x3), .val (.int x4), .val (.int (2 : Int32)), .val (.int ls), .val (.int w0), .unset, .unset, .unset, .unset, .unset, .unset, .unset, .unset, .unset, .unset, .unset] [(.int ((1024 : Int32) - w0))])) _
      refine XS.istore X26.here hx rfl (hb hby at_81) rfl (l' := #[.val (.int x0), .val (.int x1), .val (.int x2), .val (.int x3), .val (.int x4), .val (.int (2 : Int32)), .val (.int ls), .val (.int w0), .val (.int ((1024 : Int32) - w0)), .unset, .unset, .unset, .unset, .unset, .unset, .unset, .unset, .unset, .unset]) rfl ?_
      show Steps p.tables e below (T26.setTop (mkF m 83 #[.val (.int x0), .val (.int x1), .val (.int x2), .val (.int x3), .val (.int x4), .val (.int (2 : Int32)), .val (.int ls), .val (.int w0), .val (.int ((1024 : Int32) - w0)), .unset, .unset, .unset, .unset, .unset, .unset, .unset, .unset, .unset, .unset] [])) _
      refine castTop (g' := (mkF m 83 #[.val (.int x0), .val (.int x1), .val (.int x2), .val (.int x3), .val (.int x4), .val (.int (2 : Int32)), .val (.int ls), .val (.int w0), .val (.int w1), .unset, .unset, .unset, .unset, .unset, .unset, .unset, .unset, .unset, .unset] [])) (by rw [hw1]) ?_
      show Steps p.tables e below (T26.setTop (mkF m 83 #[.val (.int x0), .val (.int x1), .val (.int x2), .val (.int x3), .val (.int x4), .val (.int (2 : Int32)), .val (.int ls), .val (.int w0), .val (.int w1), .unset, .unset, .unset, .unset, .unset, .unset, .unset, .unset, .unset, .unset] [])) _
      refine XS.iload X26.here hx rfl (hb hby at_83) rfl ?_
      show Steps p.tables e below (T26.setTop (mkF m 85 #[.val (.int x0), .val (.int x1), .val (.int x2), .val (.int x3), .val (.int x4), .val (.int (2 : Int32)), .val (.int ls), .val (.int w0), .val (.int w1), .unset, .unset, .unset, .unset, .unset, .unset, .unset, .unset, .unset, .unset] [(.int (2 : Int32))])) _
      refine XS.iconst X26.here hx rfl (hb hby at_85) ?_
      show Steps p.tables e below (T26.setTop (mkF m 86 #[.val (.int x0), .val (.int x1), .val (.int x2), .val (.int x3), .val (.int x4), .val (.int (2 : Int32)), .val (.int ls), .val (.int w0), .val (.int w1), .unset, .unset, .unset, .unset, .unset, .unset, .unset, .unset, .unset, .unset] [(.int (3 : Int32)), (.int (2 : Int32))])) _
      refine XS.icmpYes X26.here hx rfl (pc0 := 86) (pc' := 101) rfl (hb hby at_86) rfl (feq (by decide : ¬ ((2 : Int32) = (3 : Int32)))).2 (by decide) (by decide) ?_
      show Steps p.tables e below (T26.setTop (mkF m 101 #[.val (.int x0), .val (.int x1), .val (.int x2), .val (.int x3), .val (.int x4), .val (.int (2 : Int32)), .val (.int ls), .val (.int w0), .val (.int w1), .unset, .unset, .unset, .unset, .unset, .unset, .unset, .unset, .unset, .unset] [])) _
      refine XS.iload X26.here hx rfl (hb hby at_101) rfl ?_
      show Steps p.tables e below (T26.setTop (mkF m 103 #[.val (.int x0), .val (.int x1), .val (.int x2), .val (.int x3), .val (.int x4), .val (.int (2 : Int32)), .val (.int ls), .val (.int w0), .val (.int w1), .unset, .unset, .unset, .unset, .unset, .unset, .unset, .unset, .unset, .unset] [(.int (2 : Int32))])) _
      refine XS.iconst X26.here hx rfl (hb hby at_103) ?_
      show Steps p.tables e below (T26.setTop (mkF m 104 #[.val (.int x0), .val (.int x1), .val (.int x2), .val (.int x3), .val (.int x4), .val (.int (2 : Int32)), .val (.int ls), .val (.int w0), .val (.int w1), .unset, .unset, .unset, .unset, .unset, .unset, .unset, .unset, .unset, .unset] [(.int (3 : Int32)), (.int (2 : Int32))])) _
      refine XS.icmpYes X26.here hx rfl (pc0 := 104) (pc' := 125) rfl (hb hby at_104) rfl (flt (by decide : ¬ ((3 : Int32) < (2 : Int32)))).2.2.2 (by decide) (by decide) ?_
      show Steps p.tables e below (T26.setTop (mkF m 125 #[.val (.int x0), .val (.int x1), .val (.int x2), .val (.int x3), .val (.int x4), .val (.int (2 : Int32)), .val (.int ls), .val (.int w0), .val (.int w1), .unset, .unset, .unset, .unset, .unset, .unset, .unset, .unset, .unset, .unset] [])) _
      refine XS.iconst X26.here hx rfl (hb hby at_125) ?_
      show Steps p.tables e below (T26.setTop (mkF m 126 #[.val (.int x0), .val (.int x1), .val (.int x2), .val (.int x3), .val (.int x4), .val (.int (2 : Int32)), .val (.int ls), .val (.int w0), .val (.int w1), .unset, .unset, .unset, .unset, .unset, .unset, .unset, .unset, .unset, .unset] [(.int (0 : Int32))])) _
      refine XS.istore X26.here hx rfl (hb hby at_126) rfl (l' := #[.val (.int x0), .val (.int x1), .val (.int x2), .val (.int x3), .val (.int x4), .val (.int (2 : Int32)), .val (.int ls), .val (.int w0), .val (.int w1), .val (.int (0 : Int32)), .unset, .unset, .unset, .unset, .unset, .unset, .unset, .unset, .unset]) rfl ?_
      show Steps p.tables e below (T26.setTop (mkF m 128 #[.val (.int x0), .val (.int x1), .val (.int x2), .val (.int x3), .val (.int x4), .val (.int (2 : Int32)), .val (.int ls), .val (.int w0), .val (.int w1), .val (.int (0 : Int32)), .unset, .unset, .unset, .unset, .unset, .unset, .unset, .unset, .unset] [])) _
      refine XS.iload X26.here hx rfl (hb hby at_128) rfl ?_
      show Steps p.tables e below (T26.setTop (mkF m 130 #[.val (.int x0), .val (.int x1), .val (.int x2), .val (.int x3), .val (.int x4), .val (.int (2 : Int32)), .val (.int ls), .val (.int w0), .val (.int w1), .val (.int (0 : Int32)), .unset, .unset, .unset, .unset, .unset, .unset, .unset, .unset, .unset] [(.int (2 : Int32))])) _
      refine XS.iconst X26.here hx rfl (hb hby at_130) ?_
      show Steps p.tables e below (T26.setTop (mkF m 131 #[.val (.int x0), .val (.int x1), .val (.int x2), .val (.int x3), .val (.int x4), .val (.int (2 : Int32)), .val (.int ls), .val (.int w0), .val (.int w1), .val (.int (0 : Int32)), .unset, .unset, .unset, .unset, .unset, .unset, .unset, .unset, .unset] [(.int (4 : Int32)), (.int (2 : Int32))])) _
      refine XS.icmpYes X26.here hx rfl (pc0 := 131) (pc' := 149) rfl (hb hby at_131) rfl (feq (by decide : ¬ ((2 : Int32) = (4 : Int32)))).2 (by decide) (by decide) ?_
      show Steps p.tables e below (T26.setTop (mkF m 149 #[.val (.int x0), .val (.int x1), .val (.int x2), .val (.int x3), .val (.int x4), .val (.int (2 : Int32)), .val (.int ls), .val (.int w0), .val (.int w1), .val (.int (0 : Int32)), .unset, .unset, .unset, .unset, .unset, .unset, .unset, .unset, .unset] [])) _
      refine XS.iconst X26.here hx rfl (hb hby at_149) ?_
      show Steps p.tables e below (T26.setTop (mkF m 150 #[.val (.int x0), .val (.int x1), .val (.int x2), .val (.int x3), .val (.int x4), .val (.int (2 : Int32)), .val (.int ls), .val (.int w0), .val (.int w1), .val (.int (0 : Int32)), .unset, .unset, .unset, .unset, .unset, .unset, .unset, .unset, .unset] [(.int (0 : Int32))])) _
      refine XS.istore X26.here hx rfl (hb hby at_150) rfl (l' := #[.val (.int x0), .val (.int x1), .val (.int x2), .val (.int x3), .val (.int x4), .val (.int (2 : Int32)), .val (.int ls), .val (.int w0), .val (.int w1), .val (.int (0 : Int32)), .val (.int (0 : Int32)), .unset, .unset, .unset, .unset, .unset, .unset, .unset, .unset]) rfl ?_
      show Steps p.tables e below (T26.setTop (mkF m 152 #[.val (.int x0), .val (.int x1), .val (.int x2), .val (.int x3), .val (.int x4), .val (.int (2 : Int32)), .val (.int ls), .val (.int w0), .val (.int w1), .val (.int (0 : Int32)), .val (.int (0 : Int32)), .unset, .unset, .unset, .unset, .unset, .unset, .unset, .unset] [])) _
      refine X26.ldc2DoubleC hx hown (mvT hZ (hw _ (List.mem_of_getElem? (i := 5) rfl))) (g := (mkF m 152 #[.val (.int x0), .val (.int x1), .val (.int x2), .val (.int x3), .val (.int x4), .val (.int (2 : Int32)), .val (.int ls), .val (.int w0), .val (.int w1), .val (.int (0 : Int32)), .val (.int (0 : Int32)), .unset, .unset, .unset, .unset, .unset, .unset, .unset, .unset] [])) rfl (hb hby at_152) _ ?_
      show Steps p.tables e below (T26.setTop (mkF m 155 #[.val (.int x0), .val (.int x1), .val (.int x2), .val (.int x3), .val (.int x4), .val (.int (2 : Int32)), .val (.int ls), .val (.int w0), .val (.int w1), .val (.int (0 : Int32)), .val (.int (0 : Int32)), .unset, .unset, .unset, .unset, .unset, .unset, .unset, .unset] [(.double (4652218415073722368 : UInt64))])) _
      refine XS.dstore X26.here hx rfl (hb hby at_155) rfl (l' := #[.val (.int x0), .val (.int x1), .val (.int x2), .val (.int x3), .val (.int x4), .val (.int (2 : Int32)), .val (.int ls), .val (.int w0), .val (.int w1), .val (.int (0 : Int32)), .val (.int (0 : Int32)), .val (.double (4652218415073722368 : UInt64)), .second, .unset, .unset, .unset, .unset, .unset, .unset]) rfl ?_
      show Steps p.tables e below (T26.setTop (mkF m 157 #[.val (.int x0), .val (.int x1), .val (.int x2), .val (.int x3), .val (.int x4), .val (.int (2 : Int32)), .val (.int ls), .val (.int w0), .val (.int w1), .val (.int (0 : Int32)), .val (.int (0 : Int32)), .val (.double (4652218415073722368 : UInt64)), .second, .unset, .unset, .unset, .unset, .unset, .unset] [])) _
      refine XS.iload X26.here hx rfl (hb hby at_157) rfl ?_
      show Steps p.tables e below (T26.setTop (mkF m 159 #[.val (.int x0), .val (.int x1), .val (.int x2), .val (.int x3), .val (.int x4), .val (.int (2 : Int32)), .val (.int ls), .val (.int w0), .val (.int w1), .val (.int (0 : Int32)), .val (.int (0 : Int32)), .val (.double (4652218415073722368 : UInt64)), .second, .unset, .unset, .unset, .unset, .unset, .unset] [(.int (2 : Int32))])) _
      refine XS.iconst X26.here hx rfl (hb hby at_159) ?_
      show Steps p.tables e below (T26.setTop (mkF m 160 #[.val (.int x0), .val (.int x1), .val (.int x2), .val (.int x3), .val (.int x4), .val (.int (2 : Int32)), .val (.int ls), .val (.int w0), .val (.int w1), .val (.int (0 : Int32)), .val (.int (0 : Int32)), .val (.double (4652218415073722368 : UInt64)), .second, .unset, .unset, .unset, .unset, .unset, .unset] [(.int (1 : Int32)), (.int (2 : Int32))])) _
      refine XS.icmpYes X26.here hx rfl (pc0 := 160) (pc' := 180) rfl (hb hby at_160) rfl (feq (by decide : ¬ ((2 : Int32) = (1 : Int32)))).2 (by decide) (by decide) ?_
      show Steps p.tables e below (T26.setTop (mkF m 180 #[.val (.int x0), .val (.int x1), .val (.int x2), .val (.int x3), .val (.int x4), .val (.int (2 : Int32)), .val (.int ls), .val (.int w0), .val (.int w1), .val (.int (0 : Int32)), .val (.int (0 : Int32)), .val (.double (4652218415073722368 : UInt64)), .second, .unset, .unset, .unset, .unset, .unset, .unset] [])) _
      refine XS.iload X26.here hx rfl (hb hby at_180) rfl ?_
      show Steps p.tables e below (T26.setTop (mkF m 182 #[.val (.int x0), .val (.int x1), .val (.int x2), .val (.int x3), .val (.int x4), .val (.int (2 : Int32)), .val (.int ls), .val (.int w0), .val (.int w1), .val (.int (0 : Int32)), .val (.int (0 : Int32)), .val (.double (4652218415073722368 : UInt64)), .second, .unset, .unset, .unset, .unset, .unset, .unset] [(.int (2 : Int32))])) _
      refine XS.iconst X26.here hx rfl (hb hby at_182) ?_
      show Steps p.tables e below (T26.setTop (mkF m 183 #[.val (.int x0), .val (.int x1), .val (.int x2), .val (.int x3), .val (.int x4), .val (.int (2 : Int32)), .val (.int ls), .val (.int w0), .val (.int w1), .val (.int (0 : Int32)), .val (.int (0 : Int32)), .val (.double (4652218415073722368 : UInt64)), .second, .unset, .unset, .unset, .unset, .unset, .unset] [(.int (2 : Int32)), (.int (2 : Int32))])) _
      refine XS.icmpNo X26.here hx rfl (hb hby at_183) rfl (teq (rfl : (2 : Int32) = (2 : Int32))).2 ?_
      show Steps p.tables e below (T26.setTop (mkF m 186 #[.val (.int x0), .val (.int x1), .val (.int x2), .val (.int x3), .val (.int x4), .val (.int (2 : Int32)), .val (.int ls), .val (.int w0), .val (.int w1), .val (.int (0 : Int32)), .val (.int (0 : Int32)), .val (.double (4652218415073722368 : UInt64)), .second, .unset, .unset, .unset, .unset, .unset, .unset] [])) _
      refine XS.iconst X26.here hx rfl (hb hby at_186) ?_
      show Steps p.tables e below (T26.setTop (mkF m 187 #[.val (.int x0), .val (.int x1), .val (.int x2), .val (.int x3), .val (.int x4), .val (.int (2 : Int32)), .val (.int ls), .val (.int w0), .val (.int w1), .val (.int (0 : Int32)), .val (.int (0 : Int32)), .val (.double (4652218415073722368 : UInt64)), .second, .unset, .unset, .unset, .unset, .unset, .unset] [(.int (2 : Int32))])) _
      refine st27 _ ?_
      show Steps p.tables e below (T27.setTop (mkF m 189 #[.val (.int x0), .val (.int x1), .val (.int x2), .val (.int x3), .val (.int x4), .val (.int (2 : Int32)), .val (.int ls), .val (.int w0), .val (.int w1), .val (.int (0 : Int32)), .val (.int (0 : Int32)), .val (.double (4652218415073722368 : UInt64)), .second, .unset, .unset, .unset, .unset, .unset, .unset] [(.ref b27)])) _
      refine XS.dup X27.here hx rfl (hb hby at_189) rfl rfl ?_
      show Steps p.tables e below (T27.setTop (mkF m 190 #[.val (.int x0), .val (.int x1), .val (.int x2), .val (.int x3), .val (.int x4), .val (.int (2 : Int32)), .val (.int ls), .val (.int w0), .val (.int w1), .val (.int (0 : Int32)), .val (.int (0 : Int32)), .val (.double (4652218415073722368 : UInt64)), .second, .unset, .unset, .unset, .unset, .unset, .unset] [(.ref b27), (.ref b27)])) _
      refine XS.iconst X27.here hx rfl (hb hby at_190) ?_
      show Steps p.tables e below (T27.setTop (mkF m 191 #[.val (.int x0), .val (.int x1), .val (.int x2), .val (.int x3), .val (.int x4), .val (.int (2 : Int32)), .val (.int ls), .val (.int w0), .val (.int w1), .val (.int (0 : Int32)), .val (.int (0 : Int32)), .val (.double (4652218415073722368 : UInt64)), .second, .unset, .unset, .unset, .unset, .unset, .unset] [(.int (0 : Int32)), (.ref b27), (.ref b27)])) _
      refine XS.iload X27.here hx rfl (hb hby at_191) rfl ?_
      show Steps p.tables e below (T27.setTop (mkF m 193 #[.val (.int x0), .val (.int x1), .val (.int x2), .val (.int x3), .val (.int x4), .val (.int (2 : Int32)), .val (.int ls), .val (.int w0), .val (.int w1), .val (.int (0 : Int32)), .val (.int (0 : Int32)), .val (.double (4652218415073722368 : UInt64)), .second, .unset, .unset, .unset, .unset, .unset, .unset] [(.int w0), (.int (0 : Int32)), (.ref b27), (.ref b27)])) _
      refine XS.i2dS X27.here hx rfl (hb hby at_193) rfl rfl ?_
      show Steps p.tables e below (T27.setTop (mkF m 194 #[.val (.int x0), .val (.int x1), .val (.int x2), .val (.int x3), .val (.int x4), .val (.int (2 : Int32)), .val (.int ls), .val (.int w0), .val (.int w1), .val (.int (0 : Int32)), .val (.int (0 : Int32)), .val (.double (4652218415073722368 : UInt64)), .second, .unset, .unset, .unset, .unset, .unset, .unset] [(.double (Jvm.FP.i2d w0)), (.int (0 : Int32)), (.ref b27), (.ref b27)])) _
      refine XS.dload X27.here hx rfl (hb hby at_194) rfl ?_
      show Steps p.tables e below (T27.setTop (mkF m 196 #[.val (.int x0), .val (.int x1), .val (.int x2), .val (.int x3), .val (.int x4), .val (.int (2 : Int32)), .val (.int ls), .val (.int w0), .val (.int w1), .val (.int (0 : Int32)), .val (.int (0 : Int32)), .val (.double (4652218415073722368 : UInt64)), .second, .unset, .unset, .unset, .unset, .unset, .unset] [(.double (4652218415073722368 : UInt64)), (.double (Jvm.FP.i2d w0)), (.int (0 : Int32)), (.ref b27), (.ref b27)])) _
      refine XS.ddivS X27.here hx rfl (hb hby at_196) rfl (own_dv_num (own_prob ew0 bw0)) rfl ?_
      show Steps p.tables e below (T27.setTop (mkF m 197 #[.val (.int x0), .val (.int x1), .val (.int x2), .val (.int x3), .val (.int x4), .val (.int (2 : Int32)), .val (.int ls), .val (.int w0), .val (.int w1), .val (.int (0 : Int32)), .val (.int (0 : Int32)), .val (.double (4652218415073722368 : UInt64)), .second, .unset, .unset, .unset, .unset, .unset, .unset] [(.double (Jvm.FP.ddiv (Jvm.FP.i2d w0) (4652218415073722368 : UInt64))), (.int (0 : Int32)), (.ref b27), (.ref b27)])) _
      refine st28 _ ?_
      show Steps p.tables e below (T28.setTop (mkF m 198 #[.val (.int x0), .val (.int x1), .val (.int x2), .val (.int x3), .val (.int x4), .val (.int (2 : Int32)), .val (.int ls), .val (.int w0), .val (.int w1), .val (.int (0 : Int32)), .val (.int (0 : Int32)), .val (.double (4652218415073722368 : UInt64)), .second, .unset, .unset, .unset, .unset, .unset, .unset] [(.ref b27)])) _
      refine XS.dup X28.here hx rfl (hb hby at_198) rfl rfl ?_
      show Steps p.tables e below (T28.setTop (mkF m 199 #[.val (.int x0), .val (.int x1), .val (.int x2), .val (.int x3), .val (.int x4), .val (.int (2 : Int32)), .val (.int ls), .val (.int w0), .val (.int w1), .val (.int (0 : Int32)), .val (.int (0 : Int32)), .val (.double (4652218415073722368 : UInt64)), .second, .unset, .unset, .unset, .unset, .unset, .unset] [(.ref b27), (.ref b27)])) _
      refine XS.iconst X28.here hx rfl (hb hby at_199) ?_
      show Steps p.tables e below (T28.setTop (mkF m 200 #[.val (.int x0), .val (.int x1), .val (.int x2), .val (.int x3), .val (.int x4), .val (.int (2 : Int32)), .val (.int ls), .val (.int w0), .val (.int w1), .val (.int (0 : Int32)), .val (.int (0 : Int32)), .val (.double (4652218415073722368 : UInt64)), .second, .unset, .unset, .unset, .unset, .unset, .unset] [(.int (1 : Int32)), (.ref b27), (.ref b27)])) _
      refine XS.iload X28.here hx rfl (hb hby at_200) rfl ?_
      show Steps p.tables e below (T28.setTop (mkF m 202 #[.val (.int x0), .val (.int x1), .val (.int x2), .val (.int x3), .val (.int x4), .val (.int (2 : Int32)), .val (.int ls), .val (.int w0), .val (.int w1), .val (.int (0 : Int32)), .val (.int (0 : Int32)), .val (.double (4652218415073722368 : UInt64)), .second, .unset, .unset, .unset, .unset, .unset, .unset] [(.int w1), (.int (1 : Int32)), (.ref b27), (.ref b27)])) _
      refine XS.i2dS X28.here hx rfl (hb hby at_202) rfl rfl ?_
      show Steps p.tables e below (T28.setTop (mkF m 203 #[.val (.int x0), .val (.int x1), .val (.int x2), .val (.int x3), .val (.int x4), .val (.int (2 : Int32)), .val (.int ls), .val (.int w0), .val (.int w1), .val (.int (0 : Int32)), .val (.int (0 : Int32)), .val (.double (4652218415073722368 : UInt64)), .second, .unset, .unset, .unset, .unset, .unset, .unset] [(.double (Jvm.FP.i2d w1)), (.int (1 : Int32)), (.ref b27), (.ref b27)])) _
      refine XS.dload X28.here hx rfl (hb hby at_203) rfl ?_
      show Steps p.tables e below (T28.setTop (mkF m 205 #[.val (.int x0), .val (.int x1), .val (.int x2), .val (.int x3), .val (.int x4), .val (.int (2 : Int32)), .val (.int ls), .val (.int w0), .val (.int w1), .val (.int (0 : Int32)), .val (.int (0 : Int32)), .val (.double (4652218415073722368 : UInt64)), .second, .unset, .unset, .unset, .unset, .unset, .unset] [(.double (4652218415073722368 : UInt64)), (.double (Jvm.FP.i2d w1)), (.int (1 : Int32)), (.ref b27), (.ref b27)])) _
      refine XS.ddivS X28.here hx rfl (hb hby at_205) rfl (own_dv_num (own_prob ew1 bw1)) rfl ?_
      show Steps p.tables e below (T28.setTop (mkF m 206 #[.val (.int x0), .val (.int x1), .val (.int x2), .val (.int x3), .val (.int x4), .val (.int (2 : Int32)), .val (.int ls), .val (.int w0), .val (.int w1), .val (.int (0 : Int32)), .val (.int (0 : Int32)), .val (.double (4652218415073722368 : UInt64)), .second, .unset, .unset, .unset, .unset, .unset, .unset] [(.double (Jvm.FP.ddiv (Jvm.FP.i2d w1) (4652218415073722368 : UInt64))), (.int (1 : Int32)), (.ref b27), (.ref b27)])) _
      refine st29 _ ?_
      show Steps p.tables e below (T29.setTop (mkF m 207 #[.val (.int x0), .val (.int x1), .val (.int x2), .val (.int x3), .val (.int x4), .val (.int (2 : Int32)), .val (.int ls), .val (.int w0), .val (.int w1), .val (.int (0 : Int32)), .val (.int (0 : Int32)), .val (.double (4652218415073722368 : UInt64)), .second, .unset, .unset, .unset, .unset, .unset, .unset] [(.ref b27)])) _
      refine XS.astore X29.here hx rfl (hb hby at_207) rfl rfl (l' := #[.val (.int x0), .val (.int x1), .val (.int x2), .val (.int x3), .val (.int x4), .val (.int (2 : Int32)), .val (.int ls), .val (.int w0), .val (.int w1), .val (.int (0 : Int32)), .val (.int (0 : Int32)), .val (.double (4652218415073722368 : UInt64)), .second, .val (.ref b27), .unset, .unset, .unset, .unset, .unset]) rfl ?_
      show Steps p.tables e below (T29.setTop (mkF m 209 #[.val (.int x0), .val (.int x1), .val (.int x2), .val (.int x3), .val (.int x4), .val (.int (2 : Int32)), .val (.int ls), .val (.int w0), .val (.int w1), .val (.int (0 : Int32)), .val (.int (0 : Int32)), .val (.double (4652218415073722368 : UInt64)), .second, .val (.ref b27), .unset, .unset, .unset, .unset, .unset] [])) _
      refine XS.goto X29.here hx rfl (pc0 := 209) (pc' := 294) rfl (hb hby at_209) (by decide) (by decide) ?_
      show Steps p.tables e below (T29.setTop (mkF m 294 #[.val (.int x0), .val (.int x1), .val (.int x2), .val (.int x3), .val (.int x4), .val (.int (2 : Int32)), .val (.int ls), .val (.int w0), .val (.int w1), .val (.int (0 : Int32)), .val (.int (0 : Int32)), .val (.double (4652218415073722368 : UInt64)), .second, .val (.ref b27), .unset, .unset, .unset, .unset, .unset] [])) _
      refine st30 _ ?_
      show Steps p.tables e below (T30.setTop (mkF m 297 #[.val (.int x0), .val (.int x1), .val (.int x2), .val (.int x3), .val (.int x4), .val (.int (2 : Int32)), .val (.int ls), .val (.int w0), .val (.int w1), .val (.int (0 : Int32)), .val (.int (0 : Int32)), .val (.double (4652218415073722368 : UInt64)), .second, .val (.ref b27), .unset, .unset, .unset, .unset, .unset] [(.ref b30)])) _
      refine XS.dup X30.here hx rfl (hb hby at_297) rfl rfl ?_
      show Steps p.tables e below (T30.setTop (mkF m 298 #[.val (.int x0), .val (.int x1), .val (.int x2), .val (.int x3), .val (.int x4), .val (.int (2 : Int32)), .val (.int ls), .val (.int w0), .val (.int w1), .val (.int (0 : Int32)), .val (.int (0 : Int32)), .val (.double (4652218415073722368 : UInt64)), .second, .val (.ref b27), .unset, .unset, .unset, .unset, .unset] [(.ref b30), (.ref b30)])) _
      refine XS.iload X30.here hx rfl (hb hby at_298) rfl ?_
      show Steps p.tables e below (T30.setTop (mkF m 300 #[.val (.int x0), .val (.int x1), .val (.int x2), .val (.int x3), .val (.int x4), .val (.int (2 : Int32)), .val (.int ls), .val (.int w0), .val (.int w1), .val (.int (0 : Int32)), .val (.int (0 : Int32)), .val (.double (4652218415073722368 : UInt64)), .second, .val (.ref b27), .unset, .unset, .unset, .unset, .unset] [(.int ls), (.ref b30), (.ref b30)])) _
      refine XS.aload X30.here hx rfl (hb hby at_300) rfl rfl ?_
      show Steps p.tables e below (T30.setTop (mkF m 302 #[.val (.int x0), .val (.int x1), .val (.int x2), .val (.int x3), .val (.int x4), .val (.int (2 : Int32)), .val (.int ls), .val (.int w0), .val (.int w1), .val (.int (0 : Int32)), .val (.int (0 : Int32)), .val (.double (4652218415073722368 : UInt64)), .second, .val (.ref b27), .unset, .unset, .unset, .unset, .unset] [(.ref b27), (.int ls), (.ref b30), (.ref b30)])) _
      refine st35.trans ?_
      show Steps p.tables e below (T35.setTop (mkF m 305 #[.val (.int x0), .val (.int x1), .val (.int x2), .val (.int x3), .val (.int x4), .val (.int (2 : Int32)), .val (.int ls), .val (.int w0), .val (.int w1), .val (.int (0 : Int32)), .val (.int (0 : Int32)), .val (.double (4652218415073722368 : UInt64)), .second, .val (.ref b27), .unset, .unset, .unset, .unset, .unset] [(.ref b30)])) _
      refine XS.astore X35.here hx rfl (hb hby at_305) rfl rfl (l' := #[.val (.int x0), .val (.int x1), .val (.int x2), .val (.int x3), .val (.int x4), .val (.int (2 : Int32)), .val (.int ls), .val (.int w0), .val (.int w1), .val (.int (0 : Int32)), .val (.int (0 : Int32)), .val (.double (4652218415073722368 : UInt64)), .second, .val (.ref b27), .val (.ref b30), .unset, .unset, .unset, .unset]) rfl ?_
      show Steps p.tables e below (T35.setTop (mkF m 307 #[.val (.int x0), .val (.int x1), .val (.int x2), .val (.int x3), .val (.int x4), .val (.int (2 : Int32)), .val (.int ls), .val (.int w0), .val (.int w1), .val (.int (0 : Int32)), .val (.int (0 : Int32)), .val (.double (4652218415073722368 : UInt64)), .second, .val (.ref b27), .val (.ref b30), .unset, .unset, .unset, .unset] [])) _
      refine XS.iload X35.here hx rfl (hb hby at_307) rfl ?_
      show Steps p.tables e below (T35.setTop (mkF m 309 #[.val (.int x0), .val (.int x1), .val (.int x2), .val (.int x3), .val (.int x4), .val (.int (2 : Int32)), .val (.int ls), .val (.int w0), .val (.int w1), .val (.int (0 : Int32)), .val (.int (0 : Int32)), .val (.double (4652218415073722368 : UInt64)), .second, .val (.ref b27), .val (.ref b30), .unset, .unset, .unset, .unset] [(.int ls)])) _
      refine XS.i2l X35.here hx rfl (hb hby at_309) rfl ?_
      show Steps p.tables e below (T35.setTop (mkF m 310 #[.val (.int x0), .val (.int x1), .val (.int x2), .val (.int x3), .val (.int x4), .val (.int (2 : Int32)), .val (.int ls), .val (.int w0), .val (.int w1), .val (.int (0 : Int32)), .val (.int (0 : Int32)), .val (.double (4652218415073722368 : UInt64)), .second, .val (.ref b27), .val (.ref b30), .unset, .unset, .unset, .unset] [(.long (ls.toInt64))])) _
      refine Jvm.Stand.ldc2J X35 hx hown (mvT hZ (hw _ (List.mem_of_getElem? (i := 20) rfl))) rfl (hb hby at_310) ?_
      show Steps p.tables e below (T35.setTop (mkF m 313 #[.val (.int x0), .val (.int x1), .val (.int x2), .val (.int x3), .val (.int x4), .val (.int (2 : Int32)), .val (.int ls), .val (.int w0), .val (.int w1), .val (.int (0 : Int32)), .val (.int (0 : Int32)), .val (.double (4652218415073722368 : UInt64)), .second, .val (.ref b27), .val (.ref b30), .unset, .unset, .unset, .unset] [(.long (1024 : Int64)), (.long (ls.toInt64))])) _
      refine XS.lmul X35.here hx rfl (hb hby at_313) rfl ?_
      show Steps p.tables e below (T35.setTop (mkF m 314 #[.val (.int x0), .val (.int x1), .val (.int x2), .val (.int x3), .val (.int x4), .val (.int (2 : Int32)), .val (.int ls), .val (.int w0), .val (.int w1), .val (.int (0 : Int32)), .val (.int (0 : Int32)), .val (.double (4652218415073722368 : UInt64)), .second, .val (.ref b27), .val (.ref b30), .unset, .unset, .unset, .unset] [(.long ((ls.toInt64) * (1024 : Int64)))])) _
      refine XS.iload X35.here hx rfl (hb hby at_314) rfl ?_
      show Steps p.tables e below (T35.setTop (mkF m 316 #[.val (.int x0), .val (.int x1), .val (.int x2), .val (.int x3), .val (.int x4), .val (.int (2 : Int32)), .val (.int ls), .val (.int w0), .val (.int w1), .val (.int (0 : Int32)), .val (.int (0 : Int32)), .val (.double (4652218415073722368 : UInt64)), .second, .val (.ref b27), .val (.ref b30), .unset, .unset, .unset, .unset] [(.int w1), (.long ((ls.toInt64) * (1024 : Int64)))])) _
      refine XS.i2l X35.here hx rfl (hb hby at_316) rfl ?_
      show Steps p.tables e below (T35.setTop (mkF m 317 #[.val (.int x0), .val (.int x1), .val (.int x2), .val (.int x3), .val (.int x4), .val (.int (2 : Int32)), .val (.int ls), .val (.int w0), .val (.int w1), .val (.int (0 : Int32)), .val (.int (0 : Int32)), .val (.double (4652218415073722368 : UInt64)), .second, .val (.ref b27), .val (.ref b30), .unset, .unset, .unset, .unset] [(.long (w1.toInt64)), (.long ((ls.toInt64) * (1024 : Int64)))])) _
      refine XS.ladd X35.here hx rfl (hb hby at_317) rfl ?_
      show Steps p.tables e below (T35.setTop (mkF m 318 #[.val (.int x0), .val (.int x1), .val (.int x2), .val (.int x3), .val (.int x4), .val (.int (2 : Int32)), .val (.int ls), .val (.int w0), .val (.int w1), .val (.int (0 : Int32)), .val (.int (0 : Int32)), .val (.double (4652218415073722368 : UInt64)), .second, .val (.ref b27), .val (.ref b30), .unset, .unset, .unset, .unset] [(.long (((ls.toInt64) * (1024 : Int64)) + (w1.toInt64)))])) _
      refine Jvm.Stand.ldc2J X35 hx hown (mvT hZ (hw _ (List.mem_of_getElem? (i := 21) rfl))) rfl (hb hby at_318) ?_
      show Steps p.tables e below (T35.setTop (mkF m 321 #[.val (.int x0), .val (.int x1), .val (.int x2), .val (.int x3), .val (.int x4), .val (.int (2 : Int32)), .val (.int ls), .val (.int w0), .val (.int w1), .val (.int (0 : Int32)), .val (.int (0 : Int32)), .val (.double (4652218415073722368 : UInt64)), .second, .val (.ref b27), .val (.ref b30), .unset, .unset, .unset, .unset] [(.long (2 : Int64)), (.long (((ls.toInt64) * (1024 : Int64)) + (w1.toInt64)))])) _
      refine XS.iload X35.here hx rfl (hb hby at_321) rfl ?_
      show Steps p.tables e below (T35.setTop (mkF m 323 #[.val (.int x0), .val (.int x1), .val (.int x2), .val (.int x3), .val (.int x4), .val (.int (2 : Int32)), .val (.int ls), .val (.int w0), .val (.int w1), .val (.int (0 : Int32)), .val (.int (0 : Int32)), .val (.double (4652218415073722368 : UInt64)), .second, .val (.ref b27), .val (.ref b30), .unset, .unset, .unset, .unset] [(.int (0 : Int32)), (.long (2 : Int64)), (.long (((ls.toInt64) * (1024 : Int64)) + (w1.toInt64)))])) _
      refine XS.i2l X35.here hx rfl (hb hby at_323) rfl ?_
      show Steps p.tables e below (T35.setTop (mkF m 324 #[.val (.int x0), .val (.int x1), .val (.int x2), .val (.int x3), .val (.int x4), .val (.int (2 : Int32)), .val (.int ls), .val (.int w0), .val (.int w1), .val (.int (0 : Int32)), .val (.int (0 : Int32)), .val (.double (4652218415073722368 : UInt64)), .second, .val (.ref b27), .val (.ref b30), .unset, .unset, .unset, .unset] [(.long ((0 : Int32).toInt64)), (.long (2 : Int64)), (.long (((ls.toInt64) * (1024 : Int64)) + (w1.toInt64)))])) _
      refine XS.lmul X35.here hx rfl (hb hby at_324) rfl ?_
      show Steps p.tables e below (T35.setTop (mkF m 325 #[.val (.int x0), .val (.int x1), .val (.int x2), .val (.int x3), .val (.int x4), .val (.int (2 : Int32)), .val (.int ls), .val (.int w0), .val (.int w1), .val (.int (0 : Int32)), .val (.int (0 : Int32)), .val (.double (4652218415073722368 : UInt64)), .second, .val (.ref b27), .val (.ref b30), .unset, .unset, .unset, .unset] [(.long ((2 : Int64) * ((0 : Int32).toInt64))), (.long (((ls.toInt64) * (1024 : Int64)) + (w1.toInt64)))])) _
      refine XS.ladd X35.here hx rfl (hb hby at_325) rfl ?_
      show Steps p.tables e below (T35.setTop (mkF m 326 #[.val (.int x0), .val (.int x1), .val (.int x2), .val (.int x3), .val (.int x4), .val (.int (2 : Int32)), .val (.int ls), .val (.int w0), .val (.int w1), .val (.int (0 : Int32)), .val (.int (0 : Int32)), .val (.double (4652218415073722368 : UInt64)), .second, .val (.ref b27), .val (.ref b30), .unset, .unset, .unset, .unset] [(.long ((((ls.toInt64) * (1024 : Int64)) + (w1.toInt64)) + ((2 : Int64) * ((0 : Int32).toInt64))))])) _
      refine Jvm.Stand.ldc2J X35 hx hown (mvT hZ (hw _ (List.mem_of_getElem? (i := 22) rfl))) rfl (hb hby at_326) ?_
      show Steps p.tables e below (T35.setTop (mkF m 329 #[.val (.int x0), .val (.int x1), .val (.int x2), .val (.int x3), .val (.int x4), .val (.int (2 : Int32)), .val (.int ls), .val (.int w0), .val (.int w1), .val (.int (0 : Int32)), .val (.int (0 : Int32)), .val (.double (4652218415073722368 : UInt64)), .second, .val (.ref b27), .val (.ref b30), .unset, .unset, .unset, .unset] [(.long (3 : Int64)), (.long ((((ls.toInt64) * (1024 : Int64)) + (w1.toInt64)) + ((2 : Int64) * ((0 : Int32).toInt64))))])) _
      refine XS.iload X35.here hx rfl (hb hby at_329) rfl ?_
      show Steps p.tables e below (T35.setTop (mkF m 331 #[.val (.int x0), .val (.int x1), .val (.int x2), .val (.int x3), .val (.int x4), .val (.int (2 : Int32)), .val (.int ls), .val (.int w0), .val (.int w1), .val (.int (0 : Int32)), .val (.int (0 : Int32)), .val (.double (4652218415073722368 : UInt64)), .second, .val (.ref b27), .val (.ref b30), .unset, .unset, .unset, .unset] [(.int (0 : Int32)), (.long (3 : Int64)), (.long ((((ls.toInt64) * (1024 : Int64)) + (w1.toInt64)) + ((2 : Int64) * ((0 : Int32).toInt64))))])) _
      refine XS.i2l X35.here hx rfl (hb hby at_331) rfl ?_
      show Steps p.tables e below (T35.setTop (mkF m 332 #[.val (.int x0), .val (.int x1), .val (.int x2), .val (.int x3), .val (.int x4), .val (.int (2 : Int32)), .val (.int ls), .val (.int w0), .val (.int w1), .val (.int (0 : Int32)), .val (.int (0 : Int32)), .val (.double (4652218415073722368 : UInt64)), .second, .val (.ref b27), .val (.ref b30), .unset, .unset, .unset, .unset] [(.long ((0 : Int32).toInt64)), (.long (3 : Int64)), (.long ((((ls.toInt64) * (1024 : Int64)) + (w1.toInt64)) + ((2 : Int64) * ((0 : Int32).toInt64))))])) _
      refine XS.lmul X35.here hx rfl (hb hby at_332) rfl ?_
      show Steps p.tables e below (T35.setTop (mkF m 333 #[.val (.int x0), .val (.int x1), .val (.int x2), .val (.int x3), .val (.int x4), .val (.int (2 : Int32)), .val (.int ls), .val (.int w0), .val (.int w1), .val (.int (0 : Int32)), .val (.int (0 : Int32)), .val (.double (4652218415073722368 : UInt64)), .second, .val (.ref b27), .val (.ref b30), .unset, .unset, .unset, .unset] [(.long ((3 : Int64) * ((0 : Int32).toInt64))), (.long ((((ls.toInt64) * (1024 : Int64)) + (w1.toInt64)) + ((2 : Int64) * ((0 : Int32).toInt64))))])) _
      refine XS.ladd X35.here hx rfl (hb hby at_333) rfl ?_
      show Steps p.tables e below (T35.setTop (mkF m 334 #[.val (.int x0), .val (.int x1), .val (.int x2), .val (.int x3), .val (.int x4), .val (.int (2 : Int32)), .val (.int ls), .val (.int w0), .val (.int w1), .val (.int (0 : Int32)), .val (.int (0 : Int32)), .val (.double (4652218415073722368 : UInt64)), .second, .val (.ref b27), .val (.ref b30), .unset, .unset, .unset, .unset] [(.long (((((ls.toInt64) * (1024 : Int64)) + (w1.toInt64)) + ((2 : Int64) * ((0 : Int32).toInt64))) + ((3 : Int64) * ((0 : Int32).toInt64))))])) _
      refine XS.lstore X35.here hx rfl (hb hby at_334) rfl (l' := #[.val (.int x0), .val (.int x1), .val (.int x2), .val (.int x3), .val (.int x4), .val (.int (2 : Int32)), .val (.int ls), .val (.int w0), .val (.int w1), .val (.int (0 : Int32)), .val (.int (0 : Int32)), .val (.double (4652218415073722368 : UInt64)), .second, .val (.ref b27), .val (.ref b30), .val (.long (((((ls.toInt64) * (1024 : Int64)) + (w1.toInt64)) + ((2 : Int64) * ((0 : Int32).toInt64))) + ((3 : Int64) * ((0 : Int32).toInt64)))), .second, .unset, .unset]) rfl ?_
      show Steps p.tables e below (T35.setTop (mkF m 336 #[.val (.int x0), .val (.int x1), .val (.int x2), .val (.int x3), .val (.int x4), .val (.int (2 : Int32)), .val (.int ls), .val (.int w0), .val (.int w1), .val (.int (0 : Int32)), .val (.int (0 : Int32)), .val (.double (4652218415073722368 : UInt64)), .second, .val (.ref b27), .val (.ref b30), .val (.long (((((ls.toInt64) * (1024 : Int64)) + (w1.toInt64)) + ((2 : Int64) * ((0 : Int32).toInt64))) + ((3 : Int64) * ((0 : Int32).toInt64)))), .second, .unset, .unset] [])) _
      refine XS.lload X35.here hx rfl (hb hby at_336) rfl ?_
      show Steps p.tables e below (T35.setTop (mkF m 338 #[.val (.int x0), .val (.int x1), .val (.int x2), .val (.int x3), .val (.int x4), .val (.int (2 : Int32)), .val (.int ls), .val (.int w0), .val (.int w1), .val (.int (0 : Int32)), .val (.int (0 : Int32)), .val (.double (4652218415073722368 : UInt64)), .second, .val (.ref b27), .val (.ref b30), .val (.long (((((ls.toInt64) * (1024 : Int64)) + (w1.toInt64)) + ((2 : Int64) * ((0 : Int32).toInt64))) + ((3 : Int64) * ((0 : Int32).toInt64)))), .second, .unset, .unset] [(.long (((((ls.toInt64) * (1024 : Int64)) + (w1.toInt64)) + ((2 : Int64) * ((0 : Int32).toInt64))) + ((3 : Int64) * ((0 : Int32).toInt64))))])) _
      refine XS.l2dS X35.here hx rfl (hb hby at_338) rfl rfl ?_
      show Steps p.tables e below (T35.setTop (mkF m 339 #[.val (.int x0), .val (.int x1), .val (.int x2), .val (.int x3), .val (.int x4), .val (.int (2 : Int32)), .val (.int ls), .val (.int w0), .val (.int w1), .val (.int (0 : Int32)), .val (.int (0 : Int32)), .val (.double (4652218415073722368 : UInt64)), .second, .val (.ref b27), .val (.ref b30), .val (.long (((((ls.toInt64) * (1024 : Int64)) + (w1.toInt64)) + ((2 : Int64) * ((0 : Int32).toInt64))) + ((3 : Int64) * ((0 : Int32).toInt64)))), .second, .unset, .unset] [(.double (Jvm.FP.l2d (((((ls.toInt64) * (1024 : Int64)) + (w1.toInt64)) + ((2 : Int64) * ((0 : Int32).toInt64))) + ((3 : Int64) * ((0 : Int32).toInt64)))))])) _
      refine XS.dload X35.here hx rfl (hb hby at_339) rfl ?_
      show Steps p.tables e below (T35.setTop (mkF m 341 #[.val (.int x0), .val (.int x1), .val (.int x2), .val (.int x3), .val (.int x4), .val (.int (2 : Int32)), .val (.int ls), .val (.int w0), .val (.int w1), .val (.int (0 : Int32)), .val (.int (0 : Int32)), .val (.double (4652218415073722368 : UInt64)), .second, .val (.ref b27), .val (.ref b30), .val (.long (((((ls.toInt64) * (1024 : Int64)) + (w1.toInt64)) + ((2 : Int64) * ((0 : Int32).toInt64))) + ((3 : Int64) * ((0 : Int32).toInt64)))), .second, .unset, .unset] [(.double (4652218415073722368 : UInt64)), (.double (Jvm.FP.l2d (((((ls.toInt64) * (1024 : Int64)) + (w1.toInt64)) + ((2 : Int64) * ((0 : Int32).toInt64))) + ((3 : Int64) * ((0 : Int32).toInt64)))))])) _
      refine XS.ddivS X35.here hx rfl (hb hby at_341) rfl (own_dv_num href) rfl ?_
      show Steps p.tables e below (T35.setTop (mkF m 342 #[.val (.int x0), .val (.int x1), .val (.int x2), .val (.int x3), .val (.int x4), .val (.int (2 : Int32)), .val (.int ls), .val (.int w0), .val (.int w1), .val (.int (0 : Int32)), .val (.int (0 : Int32)), .val (.double (4652218415073722368 : UInt64)), .second, .val (.ref b27), .val (.ref b30), .val (.long (((((ls.toInt64) * (1024 : Int64)) + (w1.toInt64)) + ((2 : Int64) * ((0 : Int32).toInt64))) + ((3 : Int64) * ((0 : Int32).toInt64)))), .second, .unset, .unset] [(.double (Jvm.FP.ddiv (Jvm.FP.l2d (((((ls.toInt64) * (1024 : Int64)) + (w1.toInt64)) + ((2 : Int64) * ((0 : Int32).toInt64))) + ((3 : Int64) * ((0 : Int32).toInt64)))) (4652218415073722368 : UInt64)))])) _
      refine XS.dstore X35.here hx rfl (hb hby at_342) rfl (l' := #[.val (.int x0), .val (.int x1), .val (.int x2), .val (.int x3), .val (.int x4), .val (.int (2 : Int32)), .val (.int ls), .val (.int w0), .val (.int w1), .val (.int (0 : Int32)), .val (.int (0 : Int32)), .val (.double (4652218415073722368 : UInt64)), .second, .val (.ref b27), .val (.ref b30), .val (.long (((((ls.toInt64) * (1024 : Int64)) + (w1.toInt64)) + ((2 : Int64) * ((0 : Int32).toInt64))) + ((3 : Int64) * ((0 : Int32).toInt64)))), .second, .val (.double (Jvm.FP.ddiv (Jvm.FP.l2d (((((ls.toInt64) * (1024 : Int64)) + (w1.toInt64)) + ((2 : Int64) * ((0 : Int32).toInt64))) + ((3 : Int64) * ((0 : Int32).toInt64)))) (4652218415073722368 : UInt64))), .second]) rfl ?_
      show Steps p.tables e below (T35.setTop (mkF m 344 #[.val (.int x0), .val (.int x1), .val (.int x2), .val (.int x3), .val (.int x4), .val (.int (2 : Int32)), .val (.int ls), .val (.int w0), .val (.int w1), .val (.int (0 : Int32)), .val (.int (0 : Int32)), .val (.double (4652218415073722368 : UInt64)), .second, .val (.ref b27), .val (.ref b30), .val (.long (((((ls.toInt64) * (1024 : Int64)) + (w1.toInt64)) + ((2 : Int64) * ((0 : Int32).toInt64))) + ((3 : Int64) * ((0 : Int32).toInt64)))), .second, .val (.double (Jvm.FP.ddiv (Jvm.FP.l2d (((((ls.toInt64) * (1024 : Int64)) + (w1.toInt64)) + ((2 : Int64) * ((0 : Int32).toInt64))) + ((3 : Int64) * ((0 : Int32).toInt64)))) (4652218415073722368 : UInt64))), .second] [])) _
      refine XS.aload X35.here hx rfl (hb hby at_344) rfl rfl ?_
      show Steps p.tables e below (T35.setTop (mkF m 346 #[.val (.int x0), .val (.int x1), .val (.int x2), .val (.int x3), .val (.int x4), .val (.int (2 : Int32)), .val (.int ls), .val (.int w0), .val (.int w1), .val (.int (0 : Int32)), .val (.int (0 : Int32)), .val (.double (4652218415073722368 : UInt64)), .second, .val (.ref b27), .val (.ref b30), .val (.long (((((ls.toInt64) * (1024 : Int64)) + (w1.toInt64)) + ((2 : Int64) * ((0 : Int32).toInt64))) + ((3 : Int64) * ((0 : Int32).toInt64)))), .second, .val (.double (Jvm.FP.ddiv (Jvm.FP.l2d (((((ls.toInt64) * (1024 : Int64)) + (w1.toInt64)) + ((2 : Int64) * ((0 : Int32).toInt64))) + ((3 : Int64) * ((0 : Int32).toInt64)))) (4652218415073722368 : UInt64))), .second] [(.ref b30)])) _
      refine st38.trans ?_
      show Steps p.tables e below (T38.setTop (mkF m 349 #[.val (.int x0), .val (.int x1), .val (.int x2), .val (.int x3), .val (.int x4), .val (.int (2 : Int32)), .val (.int ls), .val (.int w0), .val (.int w1), .val (.int (0 : Int32)), .val (.int (0 : Int32)), .val (.double (4652218415073722368 : UInt64)), .second, .val (.ref b27), .val (.ref b30), .val (.long (((((ls.toInt64) * (1024 : Int64)) + (w1.toInt64)) + ((2 : Int64) * ((0 : Int32).toInt64))) + ((3 : Int64) * ((0 : Int32).toInt64)))), .second, .val (.double (Jvm.FP.ddiv (Jvm.FP.l2d (((((ls.toInt64) * (1024 : Int64)) + (w1.toInt64)) + ((2 : Int64) * ((0 : Int32).toInt64))) + ((3 : Int64) * ((0 : Int32).toInt64)))) (4652218415073722368 : UInt64))), .second] [(.double rr_38)])) _
      refine XS.dload X38.here hx rfl (hb hby at_349) rfl ?_
      show Steps p.tables e below (T38.setTop (mkF m 351 #[.val (.int x0), .val (.int x1), .val (.int x2), .val (.int x3), .val (.int x4), .val (.int (2 : Int32)), .val (.int ls), .val (.int w0), .val (.int w1), .val (.int (0 : Int32)), .val (.int (0 : Int32)), .val (.double (4652218415073722368 : UInt64)), .second, .val (.ref b27), .val (.ref b30), .val (.long (((((ls.toInt64) * (1024 : Int64)) + (w1.toInt64)) + ((2 : Int64) * ((0 : Int32).toInt64))) + ((3 : Int64) * ((0 : Int32).toInt64)))), .second, .val (.double (Jvm.FP.ddiv (Jvm.FP.l2d (((((ls.toInt64) * (1024 : Int64)) + (w1.toInt64)) + ((2 : Int64) * ((0 : Int32).toInt64))) + ((3 : Int64) * ((0 : Int32).toInt64)))) (4652218415073722368 : UInt64))), .second] [(.double (Jvm.FP.ddiv (Jvm.FP.l2d (((((ls.toInt64) * (1024 : Int64)) + (w1.toInt64)) + ((2 : Int64) * ((0 : Int32).toInt64))) + ((3 : Int64) * ((0 : Int32).toInt64)))) (4652218415073722368 : UInt64))), (.double rr_38)])) _
      refine XS.dcmpS X38.here hx rfl (hb hby at_351) rfl (v := (0 : Int32)) (own_eq G38_0 href (own_mean4 (a := nw0) (b := nw1) (c := 0) (d := 0) (by decide) (by omega) (by omega) (by omega) (by omega))) ?_
      show Steps p.tables e below (T38.setTop (mkF m 352 #[.val (.int x0), .val (.int x1), .val (.int x2), .val (.int x3), .val (.int x4), .val (.int (2 : Int32)), .val (.int ls), .val (.int w0), .val (.int w1), .val (.int (0 : Int32)), .val (.int (0 : Int32)), .val (.double (4652218415073722368 : UInt64)), .second, .val (.ref b27), .val (.ref b30), .val (.long (((((ls.toInt64) * (1024 : Int64)) + (w1.toInt64)) + ((2 : Int64) * ((0 : Int32).toInt64))) + ((3 : Int64) * ((0 : Int32).toInt64)))), .second, .val (.double (Jvm.FP.ddiv (Jvm.FP.l2d (((((ls.toInt64) * (1024 : Int64)) + (w1.toInt64)) + ((2 : Int64) * ((0 : Int32).toInt64))) + ((3 : Int64) * ((0 : Int32).toInt64)))) (4652218415073722368 : UInt64))), .second] [(.int (0 : Int32))])) _
      refine XS.ifNo X38.here hx rfl (hb hby at_352) rfl ((if0 _ _).trans (teq (rfl : (0 : Int32) = (0 : Int32))).2) ?_
      show Steps p.tables e below (T38.setTop (mkF m 355 #[.val (.int x0), .val (.int x1), .val (.int x2), .val (.int x3), .val (.int x4), .val (.int (2 : Int32)), .val (.int ls), .val (.int w0), .val (.int w1), .val (.int (0 : Int32)), .val (.int (0 : Int32)), .val (.double (4652218415073722368 : UInt64)), .second, .val (.ref b27), .val (.ref b30), .val (.long (((((ls.toInt64) * (1024 : Int64)) + (w1.toInt64)) + ((2 : Int64) * ((0 : Int32).toInt64))) + ((3 : Int64) * ((0 : Int32).toInt64)))), .second, .val (.double (Jvm.FP.ddiv (Jvm.FP.l2d (((((ls.toInt64) * (1024 : Int64)) + (w1.toInt64)) + ((2 : Int64) * ((0 : Int32).toInt64))) + ((3 : Int64) * ((0 : Int32).toInt64)))) (4652218415073722368 : UInt64))), .second] [])) _
      refine XS.iconst X38.here hx rfl (hb hby at_355) ?_
      show Steps p.tables e below (T38.setTop (mkF m 356 #[.val (.int x0), .val (.int x1), .val (.int x2), .val (.int x3), .val (.int x4), .val (.int (2 : Int32)), .val (.int ls), .val (.int w0), .val (.int w1), .val (.int (0 : Int32)), .val (.int (0 : Int32)), .val (.double (4652218415073722368 : UInt64)), .second, .val (.ref b27), .val (.ref b30), .val (.long (((((ls.toInt64) * (1024 : Int64)) + (w1.toInt64)) + ((2 : Int64) * ((0 : Int32).toInt64))) + ((3 : Int64) * ((0 : Int32).toInt64)))), .second, .val (.double (Jvm.FP.ddiv (Jvm.FP.l2d (((((ls.toInt64) * (1024 : Int64)) + (w1.toInt64)) + ((2 : Int64) * ((0 : Int32).toInt64))) + ((3 : Int64) * ((0 : Int32).toInt64)))) (4652218415073722368 : UInt64))), .second] [(.int (1 : Int32))])) _
      refine XS.goto X38.here hx rfl (pc0 := 356) (pc' := 360) rfl (hb hby at_356) (by decide) (by decide) ?_
      show Steps p.tables e below (T38.setTop (mkF m 360 #[.val (.int x0), .val (.int x1), .val (.int x2), .val (.int x3), .val (.int x4), .val (.int (2 : Int32)), .val (.int ls), .val (.int w0), .val (.int w1), .val (.int (0 : Int32)), .val (.int (0 : Int32)), .val (.double (4652218415073722368 : UInt64)), .second, .val (.ref b27), .val (.ref b30), .val (.long (((((ls.toInt64) * (1024 : Int64)) + (w1.toInt64)) + ((2 : Int64) * ((0 : Int32).toInt64))) + ((3 : Int64) * ((0 : Int32).toInt64)))), .second, .val (.double (Jvm.FP.ddiv (Jvm.FP.l2d (((((ls.toInt64) * (1024 : Int64)) + (w1.toInt64)) + ((2 : Int64) * ((0 : Int32).toInt64))) + ((3 : Int64) * ((0 : Int32).toInt64)))) (4652218415073722368 : UInt64))), .second] [(.int (1 : Int32))])) _
      exact retN X38 hx (t := .boolean) Bd.returns (by simp) (hb hby at_360) hr
    · show Q0 Z x0 x1 x2 x3 x4 h0 n0 _ T38.heap _
      rw [K38c]
      exact ⟨rfl, N38⟩
  · obtain ⟨_, _, ⟨T39, L39, k39, n39⟩, -, X39, ⟨Lc39, hQ39, l39, y39, z39⟩, st39⟩ := Jvm.LawKit.callS X0 hx (y := (⟨"java/lang/Math", "min", "(II)I"⟩ : MethodName)) hown (mvT hZ (hw _ (List.mem_of_getElem? (i := 1) rfl))) (mvT hZ (hw _ (List.mem_of_getElem? (i := 2) rfl))) (mvT hZ (hw _ (List.mem_of_getElem? (i := 3) rfl))) (mvT hZ (hw _ (List.mem_of_getElem? (i := 4) rfl))) (by decide) (backOf (W := 0) (rm1 l Z a0 hw [] (x0 &&& (2147483647 : Int32)) ((2147483647 : Int32) - ((3 : Int32) - (1 : Int32))) h0 n0 Z0 ) hZ (hw _ (List.mem_of_getElem? (i := 4) rfl)) (hw _ (List.mem_of_getElem? (i := 3) rfl)) (by decide) (by decide)) (g := (mkF m 18 #[.val (.int x0), .val (.int x1), .val (.int x2), .val (.int x3), .val (.int x4), .val (.int (3 : Int32)), .unset, .unset, .unset, .unset, .unset, .unset, .unset, .unset, .unset, .unset, .unset, .unset, .unset] [(.int ((2147483647 : Int32) - ((3 : Int32) - (1 : Int32)))), (.int (x0 &&& (2147483647 : Int32)))])) rfl (by rw [hml]; rfl) (argsL := [(.int (x0 &&& (2147483647 : Int32))), (.int ((2147483647 : Int32) - ((3 : Int32) - (1 : Int32))))]) (rest := []) (lenOf pd_710716 rfl) rfl (by show 2 * 0 + _ ≤ _; exact Nat.le_of_eq rfl) (hb hby at_18) (fun _ _ => ⟨rfl, e0, (by decide : 0 + 0 ≤ _), (by decide : 0 + 0 ≤ _)⟩)
    dsimp only [Pt.U, Pt.locs, Pt.cells, Pt.slots] at X39 l39 y39 z39 st39 hQ39
    subst l39 y39 z39
    obtain ⟨rfl, N39q, K39c⟩ := hQ39
    have N39 := Fr.app N0 N39q
    obtain ⟨k, ek, bk⟩ := own_least x0 ((3 : Int32) - (1 : Int32)) (j := 2) (by decide) (by decide)
    obtain ⟨ls, hls⟩ : ∃ z, z = (own_minI (x0 &&& (2147483647 : Int32)) ((2147483647 : Int32) - ((3 : Int32) - (1 : Int32)))) := ⟨_, rfl⟩
    rw [← hls] at ek
    obtain ⟨w0, hw0⟩ : ∃ z, z = ((x2 &&& (2147483647 : Int32)) % (1025 : Int32)) := ⟨_, rfl⟩
    obtain ⟨nw0, ew0, bw0'⟩ : ∃ k : Nat, w0.toInt = (k : Int) ∧ k < 1025 := by rw [hw0]; exact own_rem x2 (1025 : Int32) (by decide) (by decide)
    have bw0 : nw0 ≤ 1024 := by omega
    obtain ⟨w1, hw1⟩ : ∃ z, z = ((x3 &&& (2147483647 : Int32)) % ((1025 : Int32) - w0)) := ⟨_, rfl⟩
    have ed1 : ((1025 : Int32) - w0).toInt = ((1025 - nw0 : Nat) : Int) := own_sub (a := 1025) (by decide) ew0 (by omega)
    obtain ⟨nw1, ew1, sw1⟩ : ∃ k : Nat, w1.toInt = (k : Int) ∧ k < 1025 - nw0 := by rw [hw1]; exact own_rem x3 _ ed1 (by omega)
    have bw1 : nw1 ≤ 1024 := by omega
    obtain ⟨w2, hw2⟩ : ∃ z, z = (((1024 : Int32) - w0) - w1) := ⟨_, rfl⟩
    obtain ⟨nw2, ew2, bw2, sw2⟩ : ∃ k : Nat, w2.toInt = (k : Int) ∧ k ≤ 1024 ∧ nw0 + nw1 + k = 1024 := by
      refine ⟨1024 - nw0 - nw1, ?_, by omega, by omega⟩
      rw [hw2]; exact own_sub (own_sub (a := 1024) (by decide) ew0 bw0) ew1 (by omega)
    have ew3 : ((0 : Int32)).toInt = ((0 : Nat) : Int) := by decide
    have bw3 : 0 ≤ 1024 := by decide
    obtain ⟨T40, h40, X40, e40, E40, A40, st40⟩ := DA.make X39 hx hZ (hw _ (List.mem_of_getElem? (i := 6) rfl)) K39c (g := (mkF m 219 #[.val (.int x0), .val (.int x1), .val (.int x2), .val (.int x3), .val (.int x4), .val (.int (3 : Int32)), .val (.int ls), .val (.int w0), .val (.int w1), .val (.int w2), .val (.int (0 : Int32)), .val (.double (4652218415073722368 : UInt64)), .second, .unset, .unset, .unset, .unset, .unset, .unset] [(.int (3 : Int32))])) rfl (hb hby at_219) rfl 3 (by decide) (by decide) (by decide) (by decide) (by decide)
    obtain ⟨b40, g40⟩ : ∃ z, z = h0.size := ⟨_, rfl⟩
    rw [← g40] at A40 st40
    have ge_b40 : n0 ≤ b40 := Nat.le_trans Z0 (Nat.le_of_eq g40.symm)
    have Z40 : n0 ≤ h40.size := Nat.le_trans Z0 E40.1
    obtain ⟨T41, h41, X41, e41, W41, V41, st41⟩ := DA.store X40 hx hZ e40 A40 0 (by decide) (by decide) (by decide) (x := (Jvm.FP.ddiv (Jvm.FP.i2d w0) (4652218415073722368 : UInt64))) (g := (mkF m 229 #[.val (.int x0), .val (.int x1), .val (.int x2), .val (.int x3), .val (.int x4), .val (.int (3 : Int32)), .val (.int ls), .val (.int w0), .val (.int w1), .val (.int w2), .val (.int (0 : Int32)), .val (.double (4652218415073722368 : UInt64)), .second, .unset, .unset, .unset, .unset, .unset, .unset] [(.double (Jvm.FP.ddiv (Jvm.FP.i2d w0) (4652218415073722368 : UInt64))), (.int (0 : Int32)), (.ref b40), (.ref b40)])) rfl rfl (hb hby at_229)
    have N41 := Fr.snoc X41 N39 ge_b40
    have Z41 : n0 ≤ h41.size := Nat.le_trans Z40 (Keep.of_wr W41).1
    obtain ⟨T42, h42, X42, e42, W42, V42, st42⟩ := DA.store X41 hx hZ e41 V41 1 (by decide) (by decide) (by decide) (x := (Jvm.FP.ddiv (Jvm.FP.i2d w1) (4652218415073722368 : UInt64))) (g := (mkF m 238 #[.val (.int x0), .val (.int x1), .val (.int x2), .val (.int x3), .val (.int x4), .val (.int (3 : Int32)), .val (.int ls), .val (.int w0), .val (.int w1), .val (.int w2), .val (.int (0 : Int32)), .val (.double (4652218415073722368 : UInt64)), .second, .unset, .unset, .unset, .unset, .unset, .unset] [(.double (Jvm.FP.ddiv (Jvm.FP.i2d w1) (4652218415073722368 : UInt64))), (.int (1 : Int32)), (.ref b40), (.ref b40)])) rfl rfl (hb hby at_238)
    have N42 := Fr.snoc X42 N41 ge_b40
    have Z42 : n0 ≤ h42.size := Nat.le_trans Z41 (Keep.of_wr W42).1
    obtain ⟨T43, h43, X43, e43, W43, V43, st43⟩ := DA.store X42 hx hZ e42 V42 2 (by decide) (by decide) (by decide) (x := (Jvm.FP.ddiv (Jvm.FP.i2d w2) (4652218415073722368 : UInt64))) (g := (mkF m 247 #[.val (.int x0), .val (.int x1), .val (.int x2), .val (.int x3), .val (.int x4), .val (.int (3 : Int32)), .val (.int ls), .val (.int w0), .val (.int w1), .val (.int w2), .val (.int (0 : Int32)), .val (.double (4652218415073722368 : UInt64)), .second, .unset, .unset, .unset, .unset, .unset, .unset] [(.double (Jvm.FP.ddiv (Jvm.FP.i2d w2) (4652218415073722368 : UInt64))), (.int (2 : Int32)), (.ref b40), (.ref b40)])) rfl rfl (hb hby at_247)
    have N43 := Fr.snoc X43 N42 ge_b40
    have Z43 : n0 ≤ h43.size := Nat.le_trans Z42 (Keep.of_wr W43).1
    have hk' : ls.toInt = ((k : Nat) : Int) := ek
    have hnum := own_num hk' ew1 ew2 ew3 bw1 bw2 bw3
    have hN : k * 1024 + nw1 + 2 * nw2 + 3 * 0 < 2 ^ 43 := by omega
    have href := own_ref hnum hN
    obtain ⟨T44, h44, X44, e44, E44, A44, D44, -, st44⟩ := newO X43 hx hZ hown (hw _ (List.mem_of_getElem? (i := 7) rfl)) (hw _ (List.mem_of_getElem? (i := 8) rfl)) (hw _ (List.mem_of_getElem? (i := 9) rfl)) e43 (g := (mkF m 294 #[.val (.int x0), .val (.int x1), .val (.int x2), .val (.int x3), .val (.int x4), .val (.int (3 : Int32)), .val (.int ls), .val (.int w0), .val (.int w1), .val (.int w2), .val (.int (0 : Int32)), .val (.double (4652218415073722368 : UInt64)), .second, .val (.ref b40), .unset, .unset, .unset, .unset, .unset] [])) rfl (hb hby at_294) (by decide) (by decide)
    obtain ⟨b44, g44⟩ : ∃ z, z = h43.size := ⟨_, rfl⟩
    rw [← g44] at A44 D44 st44
    have ne_45 : b40 ≠ b44 := Nat.ne_of_lt (Nat.lt_of_lt_of_le V43.lt (Nat.le_of_eq g44.symm))
    have V_46 := V43.ext E44
    have ge_b44 : n0 ≤ b44 := Nat.le_trans Z43 (Nat.le_of_eq g44.symm)
    have Z44 : n0 ≤ h44.size := Nat.le_trans Z43 E44.1
    have F_47 : Fld Z h44 b44 "com/example/berthline/berthline/engine/pool/NextJobs" "least" "I" (.int (0 : Int32)) := D44 (Or.inr (hw _ (List.mem_of_getElem? (i := 17) rfl))) (ty := .int) (by decide)
    have F_48 : Fld Z h44 b44 "com/example/berthline/berthline/engine/pool/NextJobs" "probabilities" "[D" .null := D44 (Or.inr (hw _ (List.mem_of_getElem? (i := 19) rfl))) (ty := (.array .double)) (by decide)
    obtain ⟨_, _, ⟨T49, L49, k49, n49⟩, -, X49, ⟨Lc49, hQ49, l49, y49, z49⟩, st49⟩ := X44.specialBack hx (y := (⟨"com/example/berthline/berthline/engine/pool/NextJobs", "<init>", "(I[D)V"⟩ : MethodName)) rfl hown (mvT hZ (hw _ (List.mem_of_getElem? (i := 10) rfl))) (mvT hZ (hw _ (List.mem_of_getElem? (i := 11) rfl))) (mvT hZ (hw _ (List.mem_of_getElem? (i := 12) rfl))) (by decide) (backOf (W := 1) (rm2 l Z a0 hw [] b44 ls b40 h44 n0 Z44 A44 F_47 F_48 ge_b44) hZ (hw _ (List.mem_of_getElem? (i := 12) rfl)) (hw _ (List.mem_of_getElem? (i := 9) rfl)) (by decide) (by decide)) (g := (mkF m 302 #[.val (.int x0), .val (.int x1), .val (.int x2), .val (.int x3), .val (.int x4), .val (.int (3 : Int32)), .val (.int ls), .val (.int w0), .val (.int w1), .val (.int w2), .val (.int (0 : Int32)), .val (.double (4652218415073722368 : UInt64)), .second, .val (.ref b40), .unset, .unset, .unset, .unset, .unset] [(.ref b40), (.int ls), (.ref b44), (.ref b44)])) rfl (by rw [hml]; rfl) (Steps.refl _) (a := b44) (argsL := [(.int ls), (.ref b40)]) (rest := [(.ref b44)]) (lenOf pd_79383 rfl) rfl (by show 2 * 0 + _ ≤ _; exact Nat.le_of_eq rfl) (hb hby at_302) (fun _ _ => ⟨rfl, e44, (by decide : 2 + 0 ≤ _), (by decide : 5 + 0 ≤ _)⟩)
    dsimp only [Pt.U, Pt.locs, Pt.cells, Pt.slots] at X49 l49 y49 z49 st49 hQ49
    subst l49 y49 z49
    obtain ⟨rfl, N49q, K49c, G49_0, G49_1, G49_2⟩ := hQ49
    have N49 := Fr.app N43 N49q
    have V_50 := V_46.keep K49c (ninS ne_45 nin0)
    have E_51 := A44.keep K49c
    have Z49 : n0 ≤ T49.heap.size := Nat.le_trans Z44 K49c.1
    obtain ⟨cq52, kq52, q52a, q52b, q52c⟩ := isOf hZ rfl G49_0
    obtain ⟨_, _, ⟨T52, L52, k52, n52⟩, -, X52, ⟨Lc52, hQ52, l52, y52, z52⟩, st52⟩ := X49.virtualBack hx (y := (⟨"com/example/berthline/berthline/engine/pool/NextJobs", "mean", "()D"⟩ : MethodName)) (z := (⟨"com/example/berthline/berthline/engine/pool/NextJobs", "mean", "()D"⟩ : MethodName)) hown (mvT hZ (hw _ (List.mem_of_getElem? (i := 23) rfl))) (mvT hZ (hw _ (List.mem_of_getElem? (i := 24) rfl))) (notFace_of_selects (args := #[]) (mvT hZ (hw _ (List.mem_of_getElem? (i := 26) rfl)))) (mvT hZ (hw _ (List.mem_of_getElem? (i := 26) rfl))) (mvT hZ (hw _ (List.mem_of_getElem? (i := 25) rfl))) (by decide) (backOf (W := 0) (rm4 l Z a0 hw [] b44 ls b40 3 (own_upd (own_upd (own_upd (fun _ => 0) 0 (Jvm.FP.ddiv (Jvm.FP.i2d w0) (4652218415073722368 : UInt64))) 1 (Jvm.FP.ddiv (Jvm.FP.i2d w1) (4652218415073722368 : UInt64))) 2 (Jvm.FP.ddiv (Jvm.FP.i2d w2) (4652218415073722368 : UInt64))) k (own_l4 nw0 nw1 nw2 0) T49.heap n0 Z49 G49_1 G49_2 V_50 hk' (by omega) (by decide) (fun i hi => match i, hi with | 0, _ => own_prob ew0 bw0 | 1, _ => own_prob ew1 bw1 | 2, _ => own_prob ew2 bw2 | (i + 3), h => absurd h (by omega)) (fun i hi => match i, hi with | 0, _ => bw0 | 1, _ => bw1 | 2, _ => bw2 | (i + 3), h => absurd h (by omega))) hZ (hw _ (List.mem_of_getElem? (i := 27) rfl)) (hw _ (List.mem_of_getElem? (i := 9) rfl)) (by decide) (by decide)) q52a q52c (g := (mkF m 346 #[.val (.int x0), .val (.int x1), .val (.int x2), .val (.int x3), .val (.int x4), .val (.int (3 : Int32)), .val (.int ls), .val (.int w0), .val (.int w1), .val (.int w2), .val (.int (0 : Int32)), .val (.double (4652218415073722368 : UInt64)), .second, .val (.ref b40), .val (.ref b44), .val (.long (((((ls.toInt64) * (1024 : Int64)) + (w1.toInt64)) + ((2 : Int64) * (w2.toInt64))) + ((3 : Int64) * ((0 : Int32).toInt64)))), .second, .val (.double (Jvm.FP.ddiv (Jvm.FP.l2d (((((ls.toInt64) * (1024 : Int64)) + (w1.toInt64)) + ((2 : Int64) * (w2.toInt64))) + ((3 : Int64) * ((0 : Int32).toInt64)))) (4652218415073722368 : UInt64))), .second] [(.ref b44)])) rfl (by rw [hml]; rfl) (Steps.refl _) (argsL := []) (rest := []) (lenOf pd_66659 rfl) rfl (by show 2 * 0 + _ ≤ _; exact Nat.le_of_eq rfl) (hb hby at_346) (fun _ _ => ⟨rfl, rfl, (by decide : 2 + 0 ≤ _), (by decide : 5 + 0 ≤ _)⟩)
    dsimp only [Pt.U, Pt.locs, Pt.cells, Pt.slots] at X52 l52 y52 z52 st52 hQ52
    subst l52 y52 z52
    obtain ⟨rr_52, rfl, N52q, K52c, G52_0⟩ := hQ52
    have N52 := Fr.app N49 N52q
    obtain ⟨fs, hr, hrun, hended, hW, hsame⟩ := X52.leave (v := some (.int (1 : Int32))) (fun h => by rw [Bd.returns] at h; cases h)
    refine ⟨_, _, pre0 _ ?_, hrun, hended, _, _, rfl, ?_, ⟨_, rfl⟩, hW, hsame.mono (by decide) (by decide)⟩
    · show Steps p.tables e below (s₁.setTop (mkF m 0 #[.val (.int x0), .val (.int x1), .val (.int x2), .val (.int x3), .val (.int x4), .unset, .unset, .unset, .unset, .unset, .unset, .unset, .unset, .unset, .unset, .unset, .unset, .unset, .unset] [])) _
      refine XS.iconst X0.here hx rfl (hb hby at_0) ?_
      show Steps p.tables e below (s₁.setTop (mkF m 1 #[.val (.int x0), .val (.int x1), .val (.int x2), .val (.int x3), .val (.int x4), .unset, .unset, .unset, .unset, .unset, .unset, .unset, .unset, .unset, .unset, .unset, .unset, .unset, .unset] [(.int (1 : Int32))])) _
      refine XS.iloadN X0.here hx rfl (hb hby at_1) rfl ?_
      show Steps p.tables e below (s₁.setTop (mkF m 2 #[.val (.int x0), .val (.int x1), .val (.int x2), .val (.int x3), .val (.int x4), .unset, .unset, .unset, .unset, .unset, .unset, .unset, .unset, .unset, .unset, .unset, .unset, .unset, .unset] [(.int x1), (.int (1 : Int32))])) _
      refine XS.iconst X0.here hx rfl (hb hby at_2) ?_
      show Steps p.tables e below (s₁.setTop (mkF m 3 #[.val (.int x0), .val (.int x1), .val (.int x2), .val (.int x3), .val (.int x4), .unset, .unset, .unset, .unset, .unset, .unset, .unset, .unset, .unset, .unset, .unset, .unset, .unset, .unset] [(.int (3 : Int32)), (.int x1), (.int (1 : Int32))])) _
      refine XS.iand X0.here hx rfl (hb hby at_3) rfl ?_
      show Steps p.tables e below (s₁.setTop (mkF m 4 #[.val (.int x0), .val (.int x1), .val (.int x2), .val (.int x3), .val (.int x4), .unset, .unset, .unset, .unset, .unset, .unset, .unset, .unset, .unset, .unset, .unset, .unset, .unset, .unset] [(.int (x1 &&& (3 : Int32))), (.int (1 : Int32))])) _
      refine XS.iadd X0.here hx rfl (hb hby at_4) rfl ?_
      show Steps p.tables e below (s₁.setTop (mkF m 5 #[.val (.int x0), .val (.int x1), .val (.int x2), .val (.int x3), .val (.int x4), .unset, .unset, .unset, .unset, .unset, .unset, .unset, .unset, .unset, .unset, .unset, .unset, .unset, .unset] [(.int ((1 : Int32) + (x1 &&& (3 : Int32))))])) _
      refine XS.istore X0.here hx rfl (hb hby at_5) rfl (l' := #[.val (.int x0), .val (.int x1), .val (.int x2), .val (.int x3), .val (.int x4), .val (.int ((1 : Int32) + (x1 &&& (3 : Int32)))), .unset, .unset, .unset, .unset, .unset, .unset, .unset, .unset, .unset, .unset, .unset, .unset, .unset]) rfl ?_
      show Steps p.tables e below (s₁.setTop (mkF m 7 #[.val (.int x0), .val (.int x1), .val (.int x2), .val (.int x3), .val (.int x4), .val (.int ((1 : Int32) + (x1 &&& (3 : Int32)))), .unset, .unset, .unset, .unset, .unset, .unset, .unset, .unset, .unset, .unset, .unset, .unset, .unset] [])) _
      refine castTop (g' := (mkF m 7 #[.val (.int x0), .val (.int x1), .val (.int x2), .val (.int x3), .val (.int x4), .val (.int (3 : Int32)), .unset, .unset, .unset, .unset, .unset, .unset, .unset, .unset, .unset, .unset, .unset, .unset, .unset] [])) (by rw [hn4]) ?_
      show Steps p.tables e below (s₁.setTop (mkF m 7 #[.val (.int x0), .val (.int x1), .val (.int x2), .val (.int x3), .val (.int x4), .val (.int (3 : Int32)), .unset, .unset, .unset, .unset, .unset, .unset, .unset, .unset, .unset, .unset, .unset, .unset, .unset] [])) _
      refine XS.iloadN X0.here hx rfl (hb hby at_7) rfl ?_
      show Steps p.tables e below (s₁.setTop (mkF m 8 #[.val (.int x0), .val (.int x1), .val (.int x2), .val (.int x3), .val (.int x4), .val (.int (3 : Int32)), .unset, .unset, .unset, .unset, .unset, .unset, .unset, .unset, .unset, .unset, .unset, .unset, .unset] [(.int x0)])) _
      refine Jvm.Stand.ldcI X0 hx hown (mvT hZ (hw _ (List.mem_of_getElem? (i := 0) rfl))) rfl (hb hby at_8) ?_
      show Steps p.tables e below (s₁.setTop (mkF m 10 #[.val (.int x0), .val (.int x1), .val (.int x2), .val (.int x3), .val (.int x4), .val (.int (3 : Int32)), .unset, .unset, .unset, .unset, .unset, .unset, .unset, .unset, .unset, .unset, .unset, .unset, .unset] [(.int (2147483647 : Int32)), (.int x0)])) _
      refine XS.iand X0.here hx rfl (hb hby at_10) rfl ?_
      show Steps p.tables e below (s₁.setTop (mkF m 11 #[.val (.int x0), .val (.int x1), .val (.int x2), .val (.int x3), .val (.int x4), .val (.int (3 : Int32)), .unset, .unset, .unset, .unset, .unset, .unset, .unset, .unset, .unset, .unset, .unset, .unset, .unset] [(.int (x0 &&& (2147483647 : Int32)))])) _
      refine Jvm.Stand.ldcI X0 hx hown (mvT hZ (hw _ (List.mem_of_getElem? (i := 0) rfl))) rfl (hb hby at_11) ?_
      show Steps p.tables e below (s₁.setTop (mkF m 13 #[.val (.int x0), .val (.int x1), .val (.int x2), .val (.int x3), .val (.int x4), .val (.int (3 : Int32)), .unset, .unset, .unset, .unset, .unset, .unset, .unset, .unset, .unset, .unset, .unset, .unset, .unset] [(.int (2147483647 : Int32)), (.int (x0 &&& (2147483647 : Int32)))])) _
      refine XS.iload X0.here hx rfl (hb hby at_13) rfl ?_
      show Steps p.tables e below (s₁.setTop (mkF m 15 #[.val (.int x0), .val (.int x1), .val (.int x2), .val (.int x3), .val (.int x4), .val (.int (3 : Int32)), .unset, .unset, .unset, .unset, .unset, .unset, .unset, .unset, .unset, .unset, .unset, .unset, .unset] [(.int (3 : Int32)), (.int (2147483647 : Int32)), (.int (x0 &&& (2147483647 : Int32)))])) _
      refine XS.iconst X0.here hx rfl (hb hby at_15) ?_
      show Steps p.tables e below (s₁.setTop (mkF m 16 #[.val (.int x0), .val (.int x1), .val (.int x2), .val (.int x3), .val (.int x4), .val (.int (3 : Int32)), .unset, .unset, .unset, .unset, .unset, .unset, .unset, .unset, .unset, .unset, .unset, .unset, .unset] [(.int (1 : Int32)), (.int (3 : Int32)), (.int (2147483647 : Int32)), (.int (x0 &&& (2147483647 : Int32)))])) _
      refine XS.isub X0.here hx rfl (hb hby at_16) rfl ?_
      show Steps p.tables e below (s₁.setTop (mkF m 17 #[.val (.int x0), .val (.int x1), .val (.int x2), .val (.int x3), .val (.int x4), .val (.int (3 : Int32)), .unset, .unset, .unset, .unset, .unset, .unset, .unset, .unset, .unset, .unset, .unset, .unset, .unset] [(.int ((3 : Int32) - (1 : Int32))), (.int (2147483647 : Int32)), (.int (x0 &&& (2147483647 : Int32)))])) _
      refine XS.isub X0.here hx rfl (hb hby at_17) rfl ?_
      show Steps p.tables e below (s₁.setTop (mkF m 18 #[.val (.int x0), .val (.int x1), .val (.int x2), .val (.int x3), .val (.int x4), .val (.int (3 : Int32)), .unset, .unset, .unset, .unset, .unset, .unset, .unset, .unset, .unset, .unset, .unset, .unset, .unset] [(.int ((2147483647 : Int32) - ((3 : Int32) - (1 : Int32)))), (.int (x0 &&& (2147483647 : Int32)))])) _
      refine st39 _ ?_
      show Steps p.tables e below (T39.setTop (mkF m 21 #[.val (.int x0), .val (.int x1), .val (.int x2), .val (.int x3), .val (.int x4), .val (.int (3 : Int32)), .unset, .unset, .unset, .unset, .unset, .unset, .unset, .unset, .unset, .unset, .unset, .unset, .unset] [(.int (own_minI (x0 &&& (2147483647 : Int32)) ((2147483647 : Int32) - ((3 : Int32) - (1 : Int32)))))])) _
      refine XS.istore X39.here hx rfl (hb hby at_21) rfl (l' := #[.val (.int x0), .val (.int x1), .val (.int x2), .val (.int x3), .val (.int x4), .val (.int (3 : Int32)), .val (.int (own_minI (x0 &&& (2147483647 : Int32)) ((2147483647 : Int32) - ((3 : Int32) - (1 : Int32))))), .unset, .unset, .unset, .unset, .unset, .unset, .unset, .unset, .unset, .unset, .unset, .unset]) rfl ?_
      show Steps p.tables e below (T39.setTop (mkF m 23 #[.val (.int x0), .val (.int x1), .val (.int x2), .val (.int x3), .val (.int x4), .val (.int (3 : Int32)), .val (.int (own_minI (x0 &&& (2147483647 : Int32)) ((2147483647 : Int32) - ((3 : Int32) - (1 : Int32))))), .unset, .unset, .unset, .unset, .unset, .unset, .unset, .unset, .unset, .unset, .unset, .unset] [])) _
      refine castTop (g' := (mkF m 23 #[.val (.int x0), .val (.int x1), .val (.int x2), .val (.int x3), .val (.int x4), .val (.int (3 : Int32)), .val (.int ls), .unset, .unset, .unset, .unset, .unset, .unset, .unset, .unset, .unset, .unset, .unset, .unset] [])) (by rw [hls]) ?_
      show Steps p.tables e below (T39.setTop (mkF m 23 #[.val (.int x0), .val (.int x1), .val (.int x2), .val (.int x3), .val (.int x4), .val (.int (3 : Int32)), .val (.int ls), .unset, .unset, .unset, .unset, .unset, .unset, .unset, .unset, .unset, .unset, .unset, .unset] [])) _
      refine XS.iload X39.here hx rfl (hb hby at_23) rfl ?_
      show Steps p.tables e below (T39.setTop (mkF m 25 #[.val (.int x0), .val (.int x1), .val (.int x2), .val (.int x3), .val (.int x4), .val (.int (3 : Int32)), .val (.int ls), .unset, .unset, .unset, .unset, .unset, .unset, .unset, .unset, .unset, .unset, .unset, .unset] [(.int (3 : Int32))])) _
      refine XS.iconst X39.here hx rfl (hb hby at_25) ?_
      show Steps p.tables e below (T39.setTop (mkF m 26 #[.val (.int x0), .val (.int x1), .val (.int x2), .val (.int x3), .val (.int x4), .val (.int (3 : Int32)), .val (.int ls), .unset, .unset, .unset, .unset, .unset, .unset, .unset, .unset, .unset, .unset, .unset, .unset] [(.int (1 : Int32)), (.int (3 : Int32))])) _
      refine XS.icmpYes X39.here hx rfl (pc0 := 26) (pc' := 35) rfl (hb hby at_26) rfl (feq (by decide : ¬ ((3 : Int32) = (1 : Int32)))).2 (by decide) (by decide) ?_
      show Steps p.tables e below (T39.setTop (mkF m 35 #[.val (.int x0), .val (.int x1), .val (.int x2), .val (.int x3), .val (.int x4), .val (.int (3 : Int32)), .val (.int ls), .unset, .unset, .unset, .unset, .unset, .unset, .unset, .unset, .unset, .unset, .unset, .unset] [])) _
      refine XS.iloadN X39.here hx rfl (hb hby at_35) rfl ?_
      show Steps p.tables e below (T39.setTop (mkF m 36 #[.val (.int x0), .val (.int x1), .val (.int x2), .val (.int x3), .val (.int x4), .val (.int (3 : Int32)), .val (.int ls), .unset, .unset, .unset, .unset, .unset, .unset, .unset, .unset, .unset, .unset, .unset, .unset] [(.int x2)])) _
      refine Jvm.Stand.ldcI X39 hx hown (mvT hZ (hw _ (List.mem_of_getElem? (i := 0) rfl))) rfl (hb hby at_36) ?_
      show Steps p.tables e below (T39.setTop (mkF m 38 #[.val (.int x0), .val (.int x1), .val (.int x2), .val (.int x3), .val (.int x4), .val (.int (3 : Int32)), .val (.int ls), .unset, .unset, .unset, .unset, .unset, .unset, .unset, .unset, .unset, .unset, .unset, .unset] [(.int (2147483647 : Int32)), (.int x2)])) _
      refine XS.iand X39.here hx rfl (hb hby at_38) rfl ?_
      show Steps p.tables e below (T39.setTop (mkF m 39 #[.val (.int x0), .val (.int x1), .val (.int x2), .val (.int x3), .val (.int x4), .val (.int (3 : Int32)), .val (.int ls), .unset, .unset, .unset, .unset, .unset, .unset, .unset, .unset, .unset, .unset, .unset, .unset] [(.int (x2 &&& (2147483647 : Int32)))])) _
      refine XS.sipush X39.here hx rfl (hb hby at_39) ?_
      show Steps p.tables e below (T39.setTop (mkF m 42 #[.val (.int x0), .val (.int x1), .val (.int x2), .val (.int x3), .val (.int x4), .val (.int (3 : Int32)), .val (.int ls), .unset, .unset, .unset, .unset, .unset, .unset, .unset, .unset, .unset, .unset, .unset, .unset] [(.int (1025 : Int32)), (.int (x2 &&& (2147483647 : Int32)))])) _
      refine iremM X39 hx rfl (hb hby at_42) rfl (by decide) ?_
      show Steps p.tables e below (T39.setTop (mkF m 43 #[.val (.int x0), .val (.int x1), .val (.int x2), .val (.int x3), .val (.int x4), .val (.int (3 : Int32)), .val (.int ls), .unset, .unset, .unset, .unset, .unset, .unset, .unset, .unset, .unset, .unset, .unset, .unset] [(.int ((x2 &&& (2147483647 : Int32)) % (1025 : Int32)))])) _
      refine XS.istore X39.here hx rfl (hb hby at_43) rfl (l' := #[.val (.int x0), .val (.int x1), .val (.int x2), .val (.int x3), .val (.int x4), .val (.int (3 : Int32)), .val (.int ls), .val (.int ((x2 &&& (2147483647 : Int32)) % (1025 : Int32))), .unset, .unset, .unset, .unset, .unset, .unset, .unset, .unset, .unset, .unset, .unset]) rfl ?_
      show Steps p.tables e below (T39.setTop (mkF m 45 #[.val (.int x0), .val (.int x1), .val (.int x2), .val (.int x3), .val (.int x4), .val (.int (3 : Int32)), .val (.int ls), .val (.int ((x2 &&& (2147483647 : Int32)) % (1025 : Int32))), .unset, .unset, .unset, .unset, .unset, .unset, .unset, .unset, .unset, .unset, .unset] [])) _
      refine castTop (g' := (mkF m 45 #[.val (.int x0), .val (.int x1), .val (.int x2), .val (.int x3), .val (.int x4), .val (.int (3 : Int32)), .val (.int ls), .val (.int w0), .unset, .unset, .unset, .unset, .unset, .unset, .unset, .unset, .unset, .unset, .unset] [])) (by rw [hw0]) ?_
      show Steps p.tables e below (T39.setTop (mkF m 45 #[.val (.int x0), .val (.int x1), .val (.int x2), .val (.int x3), .val (.int x4), .val (.int (3 : Int32)), .val (.int ls), .val (.int w0), .unset, .unset, .unset, .unset, .unset, .unset, .unset, .unset, .unset, .unset, .unset] [])) _
      refine XS.iload X39.here hx rfl (hb hby at_45) rfl ?_
      show Steps p.tables e below (T39.setTop (mkF m 47 #[.val (.int x0), .val (.int x1), .val (.int x2), .val (.int x3), .val (.int x4), .val (.int (3 : Int32)), .val (.int ls), .val (.int w0), .unset, .unset, .unset, .unset, .unset, .unset, .unset, .unset, .unset, .unset, .unset] [(.int (3 : Int32))])) _
      refine XS.iconst X39.here hx rfl (hb hby at_47) ?_
      show Steps p.tables e below (T39.setTop (mkF m 48 #[.val (.int x0), .val (.int x1), .val (.int x2), .val (.int x3), .val (.int x4), .val (.int (3 : Int32)), .val (.int ls), .val (.int w0), .unset, .unset, .unset, .unset, .unset, .unset, .unset, .unset, .unset, .unset, .unset] [(.int (2 : Int32)), (.int (3 : Int32))])) _
      refine XS.icmpYes X39.here hx rfl (pc0 := 48) (pc' := 60) rfl (hb hby at_48) rfl (feq (by decide : ¬ ((3 : Int32) = (2 : Int32)))).2 (by decide) (by decide) ?_
      show Steps p.tables e below (T39.setTop (mkF m 60 #[.val (.int x0), .val (.int x1), .val (.int x2), .val (.int x3), .val (.int x4), .val (.int (3 : Int32)), .val (.int ls), .val (.int w0), .unset, .unset, .unset, .unset, .unset, .unset, .unset, .unset, .unset, .unset, .unset] [])) _
      refine XS.iload X39.here hx rfl (hb hby at_60) rfl ?_
      show Steps p.tables e below (T39.setTop (mkF m 62 #[.val (.int x0), .val (.int x1), .val (.int x2), .val (.int x3), .val (.int x4), .val (.int (3 : Int32)), .val (.int ls), .val (.int w0), .unset, .unset, .unset, .unset, .unset, .unset, .unset, .unset, .unset, .unset, .unset] [(.int (3 : Int32))])) _
      refine XS.iconst X39.here hx rfl (hb hby at_62) ?_
      show Steps p.tables e below (T39.setTop (mkF m 63 #[.val (.int x0), .val (.int x1), .val (.int x2), .val (.int x3), .val (.int x4), .val (.int (3 : Int32)), .val (.int ls), .val (.int w0), .unset, .unset, .unset, .unset, .unset, .unset, .unset, .unset, .unset, .unset, .unset] [(.int (2 : Int32)), (.int (3 : Int32))])) _
      refine XS.icmpNo X39.here hx rfl (hb hby at_63) rfl (tlt (by decide : (2 : Int32) < (3 : Int32))).2.2.2 ?_
      show Steps p.tables e below (T39.setTop (mkF m 66 #[.val (.int x0), .val (.int x1), .val (.int x2), .val (.int x3), .val (.int x4), .val (.int (3 : Int32)), .val (.int ls), .val (.int w0), .unset, .unset, .unset, .unset, .unset, .unset, .unset, .unset, .unset, .unset, .unset] [])) _
      refine XS.iloadN X39.here hx rfl (hb hby at_66) rfl ?_
      show Steps p.tables e below (T39.setTop (mkF m 67 #[.val (.int x0), .val (.int x1), .val (.int x2), .val (.int x3), .val (.int x4), .val (.int (3 : Int32)), .val (.int ls), .val (.int w0), .unset, .unset, .unset, .unset, .unset, .unset, .unset, .unset, .unset, .unset, .unset] [(.int x3)])) _
      refine Jvm.Stand.ldcI X39 hx hown (mvT hZ (hw _ (List.mem_of_getElem? (i := 0) rfl))) rfl (hb hby at_67) ?_
      show Steps p.tables e below (T39.setTop (mkF m 69 #[.val (.int x0), .val (.int x1), .val (.int x2), .val (.int x3), .val (.int x4), .val (.int (3 : Int32)), .val (.int ls), .val (.int w0), .unset, .unset, .unset, .unset, .unset, .unset, .unset, .unset, .unset, .unset, .unset] [(.int (2147483647 : Int32)), (.int x3)])) _
      refine XS.iand X39.here hx rfl (hb hby at_69) rfl ?_
      show Steps p.tables e below (T39.setTop (mkF m 70 #[.val (.int x0), .val (.int x1), .val (.int x2), .val (.int x3), .val (.int x4), .val (.int (3 : Int32)), .val (.int ls), .val (.int w0), .unset, .unset, .unset, .unset, .unset, .unset, .unset, .unset, .unset, .unset, .unset] [(.int (x3 &&& (2147483647 : Int32)))])) _
      refine XS.sipush X39.here hx rfl (hb hby at_70) ?_
      show Steps p.tables e below (T39.setTop (mkF m 73 #[.val (.int x0), .val (.int x1), .val (.int x2), .val (.int x3), .val (.int x4), .val (.int (3 : Int32)), .val (.int ls), .val (.int w0), .unset, .unset, .unset, .unset, .unset, .unset, .unset, .unset, .unset, .unset, .unset] [(.int (1025 : Int32)), (.int (x3 &&& (2147483647 : Int32)))])) _
      refine XS.iload X39.here hx rfl (hb hby at_73) rfl ?_
      show Steps p.tables e below (T39.setTop (mkF m 75 #[.val (.int x0), .val (.int x1), .val (.int x2), .val (.int x3), .val (.int x4), .val (.int (3 : Int32)), .val (.int ls), .val (.int w0), .unset, .unset, .unset, .unset, .unset, .unset, .unset, .unset, .unset, .unset, .unset] [(.int w0), (.int (1025 : Int32)), (.int (x3 &&& (2147483647 : Int32)))])) _
      refine XS.isub X39.here hx rfl (hb hby at_75) rfl ?_
      show Steps p.tables e below (T39.setTop (mkF m 76 #[.val (.int x0), .val (.int x1), .val (.int x2), .val (.int x3), .val (.int x4), .val (.int (3 : Int32)), .val (.int ls), .val (.int w0), .unset, .unset, .unset, .unset, .unset, .unset, .unset, .unset, .unset, .unset, .unset] [(.int ((1025 : Int32) - w0)), (.int (x3 &&& (2147483647 : Int32)))])) _
      refine iremM X39 hx rfl (hb hby at_76) rfl (own_nz (own_sub (a := 1025) (by decide) ew0 (by omega)) (by omega)) ?_
      show Steps p.tables e below (T39.setTop (mkF m 77 #[.val (.int x0), .val (.int x1), .val (.int x2), .val (.int x3), .val (.int x4), .val (.int (3 : Int32)), .val (.int ls), .val (.int w0), .unset, .unset, .unset, .unset, .unset, .unset, .unset, .unset, .unset, .unset, .unset] [(.int ((x3 &&& (2147483647 : Int32)) % ((1025 : Int32) - w0)))])) _
      refine XS.goto X39.here hx rfl (pc0 := 77) (pc' := 81) rfl (hb hby at_77) (by decide) (by decide) ?_
      show Steps p.tables e below (T39.setTop (mkF m 81 #[.val (.int x0), .val (.int x1), .val (.int x2), .val (.int x3), .val (.int x4), .val (.int (3 : Int32)), .val (.int ls), .val (.int w0), .unset, .unset, .unset, .unset, .unset, .unset, .unset, .unset, .unset, .unset, .unset] [(.int ((x3 &&& (2147483647 : Int32)) % ((1025 : Int32) - w0)))])) _
      refine XS.istore X39.here hx rfl (hb hby at_81) rfl (l' := #[.val (.int x0), .val (.int x1), .val (.int x2), .val (.int x3), .val (.int x4), .val (.int (3 : Int32)), .val (.int ls), .val (.int w0), .val (.int ((x3 &&& (2147483647 : Int32)) % ((1025 : Int32) - w0))), .unset, .unset, .unset, .unset, .unset, .unset, .unset, .unset, .unset, .unset]) rfl ?_
      show Steps p.tables e below (T39.setTop (mkF m 83 #[.val (.int x0), .val (.int x1), .val (.int x2), .val (.int x3), .val (.int x4), .val (.int (3 : Int32)), .val (.int ls), .val (.int w0), .val (.int ((x3 &&& (2147483647 : Int32)) % ((1025 : Int32) - w0))), .unset, .unset, .unset, .unset, .unset, .unset, .unset, .unset, .unset, .unset] [])) _
      refine castTop (g' := (mkF m 83 #[.val (.int x0), .val (.int x1), .val (.int x2), .val (.int x3), .val (.int x4), .val (.int (3 : Int32)), .val (.int ls), .val (.int w0), .val (.int w1), .unset, .unset, .unset, .unset, .unset, .unset, .unset, .unset, .unset, .unset] [])) (by rw [hw1]) ?_
      show Steps p.tables e below (T39.setTop (mkF m 83 #[.val (.int x0), .val (.int x1), .val (.int x2), .val (.int x3), .val (.int x4), .val (.int (3 : Int32)), .val (.int ls), .val (.int w0), .val (.int w1), .unset, .unset, .unset, .unset, .unset, .unset, .unset, .unset, .unset, .unset] [])) _
      refine XS.iload X39.here hx rfl (hb hby at_83) rfl ?_
      show Steps p.tables e below (T39.setTop (mkF m 85 #[.val (.int x0), .val (.int x1), .val (.int x2), .val (.int x3), .val (.int x4), .val (.int (3 : Int32)), .val (.int ls), .val (.int w0), .val (.int w1), .unset, .unset, .unset, .unset, .unset, .unset, .unset, .unset, .unset, .unset] [(.int (3 : Int32))])) _
      refine XS.iconst X39.here hx rfl (hb hby at_85) ?_
      show Steps p.tables e below (T39.setTop (mkF m 86 #[.val (.int x0), .val (.int x1), .val (.int x2), .val (.int x3), .val (.int x4), .val (.int (3 : Int32)), .val (.int ls), .val (.int w0), .val (.int w1), .unset, .unset, .unset, .unset, .unset, .unset, .unset, .unset, .unset, .unset] [(.int (3 : Int32)), (.int (3 : Int32))])) _
      refine XS.icmpNo X39.here hx rfl (hb hby at_86) rfl (teq (rfl : (3 : Int32) = (3 : Int32))).2 ?_
      show Steps p.tables e below (T39.setTop (mkF m 89 #[.val (.int x0), .val (.int x1), .val (.int x2), .val (.int x3), .val (.int x4), .val (.int (3 : Int32)), .val (.int ls), .val (.int w0), .val (.int w1), .unset, .unset, .unset, .unset, .unset, .unset, .unset, .unset, .unset, .unset] [])) _
      refine XS.sipush X39.here hx rfl (hb hby at_89) ?_
      show Steps p.tables e below (T39.setTop (mkF m 92 #[.val (.int x0), .val (.int x1), .val (.int x2), .val (.int x3), .val (.int x4), .val (.int (3 : Int32)), .val (.int ls), .val (.int w0), .val (.int w1), .unset, .unset, .unset, .unset, .unset, .unset, .unset, .unset, .unset, .unset] [(.int (1024 : Int32))])) _
      refine XS.iload X39.here hx rfl (hb hby at_92) rfl ?_
      show Steps p.tables e below (T39.setTop (mkF m 94 #[.val (.int x0), .val (.int x1), .val (.int x2), .val (.int x3), .val (.int x4), .val (.int (3 : Int32)), .val (.int ls), .val (.int w0), .val (.int w1), .unset, .unset, .unset, .unset, .unset, .unset, .unset, .unset, .unset, .unset] [(.int w0), (.int (1024 : Int32))])) _
      refine XS.isub X39.here hx rfl (hb hby at_94) rfl ?_
      show Steps p.tables e below (T39.setTop (mkF m 95 #[.val (.int x0), .val (.int x1), .val (.int x2), .val (.int x3), .val (.int x4), .val (.int (3 : Int32)), .val (.int ls), .val (.int w0), .val (.int w1), .unset, .unset, .unset, .unset, .unset, .unset, .unset, .unset, .unset, .unset] [(.int ((1024 : Int32) - w0))])) _
      refine XS.iload X39.here hx rfl (hb hby at_95) rfl ?_
      show Steps p.tables e below (T39.setTop (mkF m 97 #[.val (.int x0), .val (.int x1), .val (.int x2), .val (.int x3), .val (.int x4), .val (.int (3 : Int32)), .val (.int ls), .val (.int w0), .val (.int w1), .unset, .unset, .unset, .unset, .unset, .unset, .unset, .unset, .unset, .unset] [(.int w1), (.int ((1024 : Int32) - w0))])) _
      refine XS.isub X39.here hx rfl (hb hby at_97) rfl ?_
      show Steps p.tables e below (T39.setTop (mkF m 98 #[.val (.int x0), .val (.int x1), .val (.int x2), .val (.int x3), .val (.int x4), .val (.int (3 : Int32)), .val (.int ls), .val (.int w0), .val (.int w1), .unset, .unset, .unset, .unset, .unset, .unset, .unset, .unset, .unset, .unset] [(.int (((1024 : Int32) - w0) - w1))])) _
      refine XS.goto X39.here hx rfl (pc0 := 98) (pc' := 126) rfl (hb hby at_98) (by decide) (by decide) ?_
      show Steps p.tables e below (T39.setTop (mkF m 126 #[.val (.int x0), .val (.int x1), .val (.int x2), .val (.int x3), .val (.int x4), .val (.int (3 : Int32)), .val (.int ls), .val (.int w0), .val (.int w1), .unset, .unset, .unset, .unset, .unset, .unset, .unset, .unset, .unset, .unset] [(.int (((1024 : Int32) - w0) - w1))])) _
      refine XS.istore X39.here hx rfl (hb hby at_126) rfl (l' := #[.val (.int x0), .val (.int x1), .val (.int x2), .val (.int x3), .val (.int x4), .val (.int (3 : Int32)), .val (.int ls), .val (.int w0), .val (.int w1), .val (.int (((1024 : Int32) - w0) - w1)), .unset, .unset, .unset, .unset, .unset, .unset, .unset, .unset, .unset]) rfl ?_
      show Steps p.tables e below (T39.setTop (mkF m 128 #[.val (.int x0), .val (.int x1), .val (.int x2), .val (.int x3), .val (.int x4), .val (.int (3 : Int32)), .val (.int ls), .val (.int w0), .val (.int w1), .val (.int (((1024 : Int32) - w0) - w1)), .unset, .unset, .unset, .unset, .unset, .unset, .unset, .unset, .unset] [])) _
      refine castTop (g' := (mkF m 128 #[.val (.int x0), .val (.int x1), .val (.int x2), .val (.int x3), .val (.int x4), .val (.int (3 : Int32)), .val (.int ls), .val (.int w0), .val (.int w1), .val (.int w2), .unset, .unset, .unset, .unset, .unset, .unset, .unset, .unset, .unset] [])) (by rw [hw2]) ?_
      show Steps p.tables e below (T39.setTop (mkF m 128 #[.val (.int x0), .val (.int x1), .val (.int x2), .val (.int x3), .val (.int x4), .val (.int (3 : Int32)), .val (.int ls), .val (.int w0), .val (.int w1), .val (.int w2), .unset, .unset, .unset, .unset, .unset, .unset, .unset, .unset, .unset] [])) _
      refine XS.iload X39.here hx rfl (hb hby at_128) rfl ?_
      show Steps p.tables e below (T39.setTop (mkF m 130 #[.val (.int x0), .val (.int x1), .val (.int x2), .val (.int x3), .val (.int x4), .val (.int (3 : Int32)), .val (.int ls), .val (.int w0), .val (.int w1), .val (.int w2), .unset, .unset, .unset, .unset, .unset, .unset, .unset, .unset, .unset] [(.int (3 : Int32))])) _
      refine XS.iconst X39.here hx rfl (hb hby at_130) ?_
      show Steps p.tables e below (T39.setTop (mkF m 131 #[.val (.int x0), .val (.int x1), .val (.int x2), .val (.int x3), .val (.int x4), .val (.int (3 : Int32)), .val (.int ls), .val (.int w0), .val (.int w1), .val (.int w2), .unset, .unset, .unset, .unset, .unset, .unset, .unset, .unset, .unset] [(.int (4 : Int32)), (.int (3 : Int32))])) _
      refine XS.icmpYes X39.here hx rfl (pc0 := 131) (pc' := 149) rfl (hb hby at_131) rfl (feq (by decide : ¬ ((3 : Int32) = (4 : Int32)))).2 (by decide) (by decide) ?_
      show Steps p.tables e below (T39.setTop (mkF m 149 #[.val (.int x0), .val (.int x1), .val (.int x2), .val (.int x3), .val (.int x4), .val (.int (3 : Int32)), .val (.int ls), .val (.int w0), .val (.int w1), .val (.int w2), .unset, .unset, .unset, .unset, .unset, .unset, .unset, .unset, .unset] [])) _
      refine XS.iconst X39.here hx rfl (hb hby at_149) ?_
      show Steps p.tables e below (T39.setTop (mkF m 150 #[.val (.int x0), .val (.int x1), .val (.int x2), .val (.int x3), .val (.int x4), .val (.int (3 : Int32)), .val (.int ls), .val (.int w0), .val (.int w1), .val (.int w2), .unset, .unset, .unset, .unset, .unset, .unset, .unset, .unset, .unset] [(.int (0 : Int32))])) _
      refine XS.istore X39.here hx rfl (hb hby at_150) rfl (l' := #[.val (.int x0), .val (.int x1), .val (.int x2), .val (.int x3), .val (.int x4), .val (.int (3 : Int32)), .val (.int ls), .val (.int w0), .val (.int w1), .val (.int w2), .val (.int (0 : Int32)), .unset, .unset, .unset, .unset, .unset, .unset, .unset, .unset]) rfl ?_
      show Steps p.tables e below (T39.setTop (mkF m 152 #[.val (.int x0), .val (.int x1), .val (.int x2), .val (.int x3), .val (.int x4), .val (.int (3 : Int32)), .val (.int ls), .val (.int w0), .val (.int w1), .val (.int w2), .val (.int (0 : Int32)), .unset, .unset, .unset, .unset, .unset, .unset, .unset, .unset] [])) _
      refine X39.ldc2DoubleC hx hown (mvT hZ (hw _ (List.mem_of_getElem? (i := 5) rfl))) (g := (mkF m 152 #[.val (.int x0), .val (.int x1), .val (.int x2), .val (.int x3), .val (.int x4), .val (.int (3 : Int32)), .val (.int ls), .val (.int w0), .val (.int w1), .val (.int w2), .val (.int (0 : Int32)), .unset, .unset, .unset, .unset, .unset, .unset, .unset, .unset] [])) rfl (hb hby at_152) _ ?_
      show Steps p.tables e below (T39.setTop (mkF m 155 #[.val (.int x0), .val (.int x1), .val (.int x2), .val (.int x3), .val (.int x4), .val (.int (3 : Int32)), .val (.int ls), .val (.int w0), .val (.int w1), .val (.int w2), .val (.int (0 : Int32)), .unset, .unset, .unset, .unset, .unset, .unset, .unset, .unset] [(.double (4652218415073722368 : UInt64))])) _
      refine XS.dstore X39.here hx rfl (hb hby at_155) rfl (l' := #[.val (.int x0), .val (.int x1), .val (.int x2), .val (.int x3), .val (.int x4), .val (.int (3 : Int32)), .val (.int ls), .val (.int w0), .val (.int w1), .val (.int w2), .val (.int (0 : Int32)), .val (.double (4652218415073722368 : UInt64)), .second, .unset, .unset, .unset, .unset, .unset, .unset]) rfl ?_
      show Steps p.tables e below (T39.setTop (mkF m 157 #[.val (.int x0), .val (.int x1), .val (.int x2), .val (.int x3), .val (.int x4), .val (.int (3 : Int32)), .val (.int ls), .val (.int w0), .val (.int w1), .val (.int w2), .val (.int (0 : Int32)), .val (.double (4652218415073722368 : UInt64)), .second, .unset, .unset, .unset, .unset, .unset, .unset] [])) _
      refine XS.iload X39.here hx rfl (hb hby at_157) rfl ?_
      show Steps p.tables e below (T39.setTop (mkF m 159 #[.val (.int x0), .val (.int x1), .val (.int x2), .val (.int x3), .val (.int x4), .val (.int (3 : Int32)), .val (.int ls), .val (.int w0), .val (.int w1), .val (.int w2), .val (.int (0 : Int32)), .val (.double (4652218415073722368 : UInt64)), .second, .unset, .unset, .unset, .unset, .unset, .unset] [(.int (3 : Int32))])) _
      refine XS.iconst X39.here hx rfl (hb hby at_159) ?_
      show Steps p.tables e below (T39.setTop (mkF m 160 #[.val (.int x0), .val (.int x1), .val (.int x2), .val (.int x3), .val (.int x4), .val (.int (3 : Int32)), .val (.int ls), .val (.int w0), .val (.int w1), .val (.int w2), .val (.int (0 : Int32)), .val (.double (4652218415073722368 : UInt64)), .second, .unset, .unset, .unset, .unset, .unset, .unset] [(.int (1 : Int32)), (.int (3 : Int32))])) _
      refine XS.icmpYes X39.here hx rfl (pc0 := 160) (pc' := 180) rfl (hb hby at_160) rfl (feq (by decide : ¬ ((3 : Int32) = (1 : Int32)))).2 (by decide) (by decide) ?_
      show Steps p.tables e below (T39.setTop (mkF m 180 #[.val (.int x0), .val (.int x1), .val (.int x2), .val (.int x3), .val (.int x4), .val (.int (3 : Int32)), .val (.int ls), .val (.int w0), .val (.int w1), .val (.int w2), .val (.int (0 : Int32)), .val (.double (4652218415073722368 : UInt64)), .second, .unset, .unset, .unset, .unset, .unset, .unset] [])) _
      refine XS.iload X39.here hx rfl (hb hby at_180) rfl ?_
      show Steps p.tables e below (T39.setTop (mkF m 182 #[.val (.int x0), .val (.int x1), .val (.int x2), .val (.int x3), .val (.int x4), .val (.int (3 : Int32)), .val (.int ls), .val (.int w0), .val (.int w1), .val (.int w2), .val (.int (0 : Int32)), .val (.double (4652218415073722368 : UInt64)), .second, .unset, .unset, .unset, .unset, .unset, .unset] [(.int (3 : Int32))])) _
      refine XS.iconst X39.here hx rfl (hb hby at_182) ?_
      show Steps p.tables e below (T39.setTop (mkF m 183 #[.val (.int x0), .val (.int x1), .val (.int x2), .val (.int x3), .val (.int x4), .val (.int (3 : Int32)), .val (.int ls), .val (.int w0), .val (.int w1), .val (.int w2), .val (.int (0 : Int32)), .val (.double (4652218415073722368 : UInt64)), .second, .unset, .unset, .unset, .unset, .unset, .unset] [(.int (2 : Int32)), (.int (3 : Int32))])) _
      refine XS.icmpYes X39.here hx rfl (pc0 := 183) (pc' := 212) rfl (hb hby at_183) rfl (feq (by decide : ¬ ((3 : Int32) = (2 : Int32)))).2 (by decide) (by decide) ?_
      show Steps p.tables e below (T39.setTop (mkF m 212 #[.val (.int x0), .val (.int x1), .val (.int x2), .val (.int x3), .val (.int x4), .val (.int (3 : Int32)), .val (.int ls), .val (.int w0), .val (.int w1), .val (.int w2), .val (.int (0 : Int32)), .val (.double (4652218415073722368 : UInt64)), .second, .unset, .unset, .unset, .unset, .unset, .unset] [])) _
      refine XS.iload X39.here hx rfl (hb hby at_212) rfl ?_
      show Steps p.tables e below (T39.setTop (mkF m 214 #[.val (.int x0), .val (.int x1), .val (.int x2), .val (.int x3), .val (.int x4), .val (.int (3 : Int32)), .val (.int ls), .val (.int w0), .val (.int w1), .val (.int w2), .val (.int (0 : Int32)), .val (.double (4652218415073722368 : UInt64)), .second, .unset, .unset, .unset, .unset, .unset, .unset] [(.int (3 : Int32))])) _
      refine XS.iconst X39.here hx rfl (hb hby at_214) ?_
      show Steps p.tables e below (T39.setTop (mkF m 215 #[.val (.int x0), .val (.int x1), .val (.int x2), .val (.int x3), .val (.int x4), .val (.int (3 : Int32)), .val (.int ls), .val (.int w0), .val (.int w1), .val (.int w2), .val (.int (0 : Int32)), .val (.double (4652218415073722368 : UInt64)), .second, .unset, .unset, .unset, .unset, .unset, .unset] [(.int (3 : Int32)), (.int (3 : Int32))])) _
      refine XS.icmpNo X39.here hx rfl (hb hby at_215) rfl (teq (rfl : (3 : Int32) = (3 : Int32))).2 ?_
      show Steps p.tables e below (T39.setTop (mkF m 218 #[.val (.int x0), .val (.int x1), .val (.int x2), .val (.int x3), .val (.int x4), .val (.int (3 : Int32)), .val (.int ls), .val (.int w0), .val (.int w1), .val (.int w2), .val (.int (0 : Int32)), .val (.double (4652218415073722368 : UInt64)), .second, .unset, .unset, .unset, .unset, .unset, .unset] [])) _
      refine XS.iconst X39.here hx rfl (hb hby at_218) ?_
      show Steps p.tables e below (T39.setTop (mkF m 219 #[.val (.int x0), .val (.int x1), .val (.int x2), .val (.int x3), .val (.int x4), .val (.int (3 : Int32)), .val (.int ls), .val (.int w0), .val (.int w1), .val (.int w2), .val (.int (0 : Int32)), .val (.double (4652218415073722368 : UInt64)), .second, .unset, .unset, .unset, .unset, .unset, .unset] [(.int (3 : Int32))])) _
      refine st40 _ ?_
      show Steps p.tables e below (T40.setTop (mkF m 221 #[.val (.int x0), .val (.int x1), .val (.int x2), .val (.int x3), .val (.int x4), .val (.int (3 : Int32)), .val (.int ls), .val (.int w0), .val (.int w1), .val (.int w2), .val (.int (0 : Int32)), .val (.double (4652218415073722368 : UInt64)), .second, .unset, .unset, .unset, .unset, .unset, .unset] [(.ref b40)])) _
      refine XS.dup X40.here hx rfl (hb hby at_221) rfl rfl ?_
      show Steps p.tables e below (T40.setTop (mkF m 222 #[.val (.int x0), .val (.int x1), .val (.int x2), .val (.int x3), .val (.int x4), .val (.int (3 : Int32)), .val (.int ls), .val (.int w0), .val (.int w1), .val (.int w2), .val (.int (0 : Int32)), .val (.double (4652218415073722368 : UInt64)), .second, .unset, .unset, .unset, .unset, .unset, .unset] [(.ref b40), (.ref b40)])) _
      refine XS.iconst X40.here hx rfl (hb hby at_222) ?_
      show Steps p.tables e below (T40.setTop (mkF m 223 #[.val (.int x0), .val (.int x1), .val (.int x2), .val (.int x3), .val (.int x4), .val (.int (3 : Int32)), .val (.int ls), .val (.int w0), .val (.int w1), .val (.int w2), .val (.int (0 : Int32)), .val (.double (4652218415073722368 : UInt64)), .second, .unset, .unset, .unset, .unset, .unset, .unset] [(.int (0 : Int32)), (.ref b40), (.ref b40)])) _
      refine XS.iload X40.here hx rfl (hb hby at_223) rfl ?_
      show Steps p.tables e below (T40.setTop (mkF m 225 #[.val (.int x0), .val (.int x1), .val (.int x2), .val (.int x3), .val (.int x4), .val (.int (3 : Int32)), .val (.int ls), .val (.int w0), .val (.int w1), .val (.int w2), .val (.int (0 : Int32)), .val (.double (4652218415073722368 : UInt64)), .second, .unset, .unset, .unset, .unset, .unset, .unset] [(.int w0), (.int (0 : Int32)), (.ref b40), (.ref b40)])) _
      refine XS.i2dS X40.here hx rfl (hb hby at_225) rfl rfl ?_
      show Steps p.tables e below (T40.setTop (mkF m 226 #[.val (.int x0), .val (.int x1), .val (.int x2), .val (.int x3), .val (.int x4), .val (.int (3 : Int32)), .val (.int ls), .val (.int w0), .val (.int w1), .val (.int w2), .val (.int (0 : Int32)), .val (.double (4652218415073722368 : UInt64)), .second, .unset, .unset, .unset, .unset, .unset, .unset] [(.double (Jvm.FP.i2d w0)), (.int (0 : Int32)), (.ref b40), (.ref b40)])) _
      refine XS.dload X40.here hx rfl (hb hby at_226) rfl ?_
      show Steps p.tables e below (T40.setTop (mkF m 228 #[.val (.int x0), .val (.int x1), .val (.int x2), .val (.int x3), .val (.int x4), .val (.int (3 : Int32)), .val (.int ls), .val (.int w0), .val (.int w1), .val (.int w2), .val (.int (0 : Int32)), .val (.double (4652218415073722368 : UInt64)), .second, .unset, .unset, .unset, .unset, .unset, .unset] [(.double (4652218415073722368 : UInt64)), (.double (Jvm.FP.i2d w0)), (.int (0 : Int32)), (.ref b40), (.ref b40)])) _
      refine XS.ddivS X40.here hx rfl (hb hby at_228) rfl (own_dv_num (own_prob ew0 bw0)) rfl ?_
      show Steps p.tables e below (T40.setTop (mkF m 229 #[.val (.int x0), .val (.int x1), .val (.int x2), .val (.int x3), .val (.int x4), .val (.int (3 : Int32)), .val (.int ls), .val (.int w0), .val (.int w1), .val (.int w2), .val (.int (0 : Int32)), .val (.double (4652218415073722368 : UInt64)), .second, .unset, .unset, .unset, .unset, .unset, .unset] [(.double (Jvm.FP.ddiv (Jvm.FP.i2d w0) (4652218415073722368 : UInt64))), (.int (0 : Int32)), (.ref b40), (.ref b40)])) _
      refine st41 _ ?_
      show Steps p.tables e below (T41.setTop (mkF m 230 #[.val (.int x0), .val (.int x1), .val (.int x2), .val (.int x3), .val (.int x4), .val (.int (3 : Int32)), .val (.int ls), .val (.int w0), .val (.int w1), .val (.int w2), .val (.int (0 : Int32)), .val (.double (4652218415073722368 : UInt64)), .second, .unset, .unset, .unset, .unset, .unset, .unset] [(.ref b40)])) _
      refine XS.dup X41.here hx rfl (hb hby at_230) rfl rfl ?_
      show Steps p.tables e below (T41.setTop (mkF m 231 #[.val (.int x0), .val (.int x1), .val (.int x2), .val (.int x3), .val (.int x4), .val (.int (3 : Int32)), .val (.int ls), .val (.int w0), .val (.int w1), .val (.int w2), .val (.int (0 : Int32)), .val (.double (4652218415073722368 : UInt64)), .second, .unset, .unset, .unset, .unset, .unset, .unset] [(.ref b40), (.ref b40)])) _
      refine XS.iconst X41.here hx rfl (hb hby at_231) ?_
      show Steps p.tables e below (T41.setTop (mkF m 232 #[.val (.int x0), .val (.int x1), .val (.int x2), .val (.int x3), .val (.int x4), .val (.int (3 : Int32)), .val (.int ls), .val (.int w0), .val (.int w1), .val (.int w2), .val (.int (0 : Int32)), .val (.double (4652218415073722368 : UInt64)), .second, .unset, .unset, .unset, .unset, .unset, .unset] [(.int (1 : Int32)), (.ref b40), (.ref b40)])) _
      refine XS.iload X41.here hx rfl (hb hby at_232) rfl ?_
      show Steps p.tables e below (T41.setTop (mkF m 234 #[.val (.int x0), .val (.int x1), .val (.int x2), .val (.int x3), .val (.int x4), .val (.int (3 : Int32)), .val (.int ls), .val (.int w0), .val (.int w1), .val (.int w2), .val (.int (0 : Int32)), .val (.double (4652218415073722368 : UInt64)), .second, .unset, .unset, .unset, .unset, .unset, .unset] [(.int w1), (.int (1 : Int32)), (.ref b40), (.ref b40)])) _
      refine XS.i2dS X41.here hx rfl (hb hby at_234) rfl rfl ?_
      show Steps p.tables e below (T41.setTop (mkF m 235 #[.val (.int x0), .val (.int x1), .val (.int x2), .val (.int x3), .val (.int x4), .val (.int (3 : Int32)), .val (.int ls), .val (.int w0), .val (.int w1), .val (.int w2), .val (.int (0 : Int32)), .val (.double (4652218415073722368 : UInt64)), .second, .unset, .unset, .unset, .unset, .unset, .unset] [(.double (Jvm.FP.i2d w1)), (.int (1 : Int32)), (.ref b40), (.ref b40)])) _
      refine XS.dload X41.here hx rfl (hb hby at_235) rfl ?_
      show Steps p.tables e below (T41.setTop (mkF m 237 #[.val (.int x0), .val (.int x1), .val (.int x2), .val (.int x3), .val (.int x4), .val (.int (3 : Int32)), .val (.int ls), .val (.int w0), .val (.int w1), .val (.int w2), .val (.int (0 : Int32)), .val (.double (4652218415073722368 : UInt64)), .second, .unset, .unset, .unset, .unset, .unset, .unset] [(.double (4652218415073722368 : UInt64)), (.double (Jvm.FP.i2d w1)), (.int (1 : Int32)), (.ref b40), (.ref b40)])) _
      refine XS.ddivS X41.here hx rfl (hb hby at_237) rfl (own_dv_num (own_prob ew1 bw1)) rfl ?_
      show Steps p.tables e below (T41.setTop (mkF m 238 #[.val (.int x0), .val (.int x1), .val (.int x2), .val (.int x3), .val (.int x4), .val (.int (3 : Int32)), .val (.int ls), .val (.int w0), .val (.int w1), .val (.int w2), .val (.int (0 : Int32)), .val (.double (4652218415073722368 : UInt64)), .second, .unset, .unset, .unset, .unset, .unset, .unset] [(.double (Jvm.FP.ddiv (Jvm.FP.i2d w1) (4652218415073722368 : UInt64))), (.int (1 : Int32)), (.ref b40), (.ref b40)])) _
      refine st42 _ ?_
      show Steps p.tables e below (T42.setTop (mkF m 239 #[.val (.int x0), .val (.int x1), .val (.int x2), .val (.int x3), .val (.int x4), .val (.int (3 : Int32)), .val (.int ls), .val (.int w0), .val (.int w1), .val (.int w2), .val (.int (0 : Int32)), .val (.double (4652218415073722368 : UInt64)), .second, .unset, .unset, .unset, .unset, .unset, .unset] [(.ref b40)])) _
      refine XS.dup X42.here hx rfl (hb hby at_239) rfl rfl ?_
      show Steps p.tables e below (T42.setTop (mkF m 240 #[.val (.int x0), .val (.int x1), .val (.int x2), .val (.int x3), .val (.int x4), .val (.int (3 : Int32)), .val (.int ls), .val (.int w0), .val (.int w1), .val (.int w2), .val (.int (0 : Int32)), .val (.double (4652218415073722368 : UInt64)), .second, .unset, .unset, .unset, .unset, .unset, .unset] [(.ref b40), (.ref b40)])) _
      refine XS.iconst X42.here hx rfl (hb hby at_240) ?_
      show Steps p.tables e below (T42.setTop (mkF m 241 #[.val (.int x0), .val (.int x1), .val (.int x2), .val (.int x3), .val (.int x4), .val (.int (3 : Int32)), .val (.int ls), .val (.int w0), .val (.int w1), .val (.int w2), .val (.int (0 : Int32)), .val (.double (4652218415073722368 : UInt64)), .second, .unset, .unset, .unset, .unset, .unset, .unset] [(.int (2 : Int32)), (.ref b40), (.ref b40)])) _
      refine XS.iload X42.here hx rfl (hb hby at_241) rfl ?_
      show Steps p.tables e below (T42.setTop (mkF m 243 #[.val (.int x0), .val (.int x1), .val (.int x2), .val (.int x3), .val (.int x4), .val (.int (3 : Int32)), .val (.int ls), .val (.int w0), .val (.int w1), .val (.int w2), .val (.int (0 : Int32)), .val (.double (4652218415073722368 : UInt64)), .second, .unset, .unset, .unset, .unset, .unset, .unset] [(.int w2), (.int (2 : Int32)), (.ref b40), (.ref b40)])) _
      refine XS.i2dS X42.here hx rfl (hb hby at_243) rfl rfl ?_
      show Steps p.tables e below (T42.setTop (mkF m 244 #[.val (.int x0), .val (.int x1), .val (.int x2), .val (.int x3), .val (.int x4), .val (.int (3 : Int32)), .val (.int ls), .val (.int w0), .val (.int w1), .val (.int w2), .val (.int (0 : Int32)), .val (.double (4652218415073722368 : UInt64)), .second, .unset, .unset, .unset, .unset, .unset, .unset] [(.double (Jvm.FP.i2d w2)), (.int (2 : Int32)), (.ref b40), (.ref b40)])) _
      refine XS.dload X42.here hx rfl (hb hby at_244) rfl ?_
      show Steps p.tables e below (T42.setTop (mkF m 246 #[.val (.int x0), .val (.int x1), .val (.int x2), .val (.int x3), .val (.int x4), .val (.int (3 : Int32)), .val (.int ls), .val (.int w0), .val (.int w1), .val (.int w2), .val (.int (0 : Int32)), .val (.double (4652218415073722368 : UInt64)), .second, .unset, .unset, .unset, .unset, .unset, .unset] [(.double (4652218415073722368 : UInt64)), (.double (Jvm.FP.i2d w2)), (.int (2 : Int32)), (.ref b40), (.ref b40)])) _
      refine XS.ddivS X42.here hx rfl (hb hby at_246) rfl (own_dv_num (own_prob ew2 bw2)) rfl ?_
      show Steps p.tables e below (T42.setTop (mkF m 247 #[.val (.int x0), .val (.int x1), .val (.int x2), .val (.int x3), .val (.int x4), .val (.int (3 : Int32)), .val (.int ls), .val (.int w0), .val (.int w1), .val (.int w2), .val (.int (0 : Int32)), .val (.double (4652218415073722368 : UInt64)), .second, .unset, .unset, .unset, .unset, .unset, .unset] [(.double (Jvm.FP.ddiv (Jvm.FP.i2d w2) (4652218415073722368 : UInt64))), (.int (2 : Int32)), (.ref b40), (.ref b40)])) _
      refine st43 _ ?_
      show Steps p.tables e below (T43.setTop (mkF m 248 #[.val (.int x0), .val (.int x1), .val (.int x2), .val (.int x3), .val (.int x4), .val (.int (3 : Int32)), .val (.int ls), .val (.int w0), .val (.int w1), .val (.int w2), .val (.int (0 : Int32)), .val (.double (4652218415073722368 : UInt64)), .second, .unset, .unset, .unset, .unset, .unset, .unset] [(.ref b40)])) _
      refine XS.astore X43.here hx rfl (hb hby at_248) rfl rfl (l' := #[.val (.int x0), .val (.int x1), .val (.int x2), .val (.int x3), .val (.int x4), .val (.int (3 : Int32)), .val (.int ls), .val (.int w0), .val (.int w1), .val (.int w2), .val (.int (0 : Int32)), .val (.double (4652218415073722368 : UInt64)), .second, .val (.ref b40), .unset, .unset, .unset, .unset, .unset]) rfl ?_
      show Steps p.tables e below (T43.setTop (mkF m 250 #[.val (.int x0), .val (.int x1), .val (.int x2), .val (.int x3), .val (.int x4), .val (.int (3 : Int32)), .val (.int ls), .val (.int w0), .val (.int w1), .val (.int w2), .val (.int (0 : Int32)), .val (.double (4652218415073722368 : UInt64)), .second, .val (.ref b40), .unset, .unset, .unset, .unset, .unset] [])) _
      refine XS.goto X43.here hx rfl (pc0 := 250) (pc' := 294) rfl (hb hby at_250) (by decide) (by decide) ?_
      show Steps p.tables e below (T43.setTop (mkF m 294 #[.val (.int x0), .val (.int x1), .val (.int x2), .val (.int x3), .val (.int x4), .val (.int (3 : Int32)), .val (.int ls), .val (.int w0), .val (.int w1), .val (.int w2), .val (.int (0 : Int32)), .val (.double (4652218415073722368 : UInt64)), .second, .val (.ref b40), .unset, .unset, .unset, .unset, .unset] [])) _
      refine st44 _ ?_
      show Steps p.tables e below (T44.setTop (mkF m 297 #[.val (.int x0), .val (.int x1), .val (.int x2), .val (.int x3), .val (.int x4), .val (.int (3 : Int32)), .val (.int ls), .val (.int w0), .val (.int w1), .val (.int w2), .val (.int (0 : Int32)), .val (.double (4652218415073722368 : UInt64)), .second, .val (.ref b40), .unset, .unset, .unset, .unset, .unset] [(.ref b44)])) _
      refine XS.dup X44.here hx rfl (hb hby at_297) rfl rfl ?_
      show Steps p.tables e below (T44.setTop (mkF m 298 #[.val (.int x0), .val (.int x1), .val (.int x2), .val (.int x3), .val (.int x4), .val (.int (3 : Int32)), .val (.int ls), .val (.int w0), .val (.int w1), .val (.int w2), .val (.int (0 : Int32)), .val (.double (4652218415073722368 : UInt64)), .second, .val (.ref b40), .unset, .unset, .unset, .unset, .unset] [(.ref b44), (.ref b44)])) _
      refine XS.iload X44.here hx rfl (hb hby at_298) rfl ?_
      show Steps p.tables e below (T44.setTop (mkF m 300 #[.val (.int x0), .val (.int x1), .val (.int x2), .val (.int x3), .val (.int x4), .val (.int (3 : Int32)), .val (.int ls), .val (.int w0), .val (.int w1), .val (.int w2), .val (.int (0 : Int32)), .val (.double (4652218415073722368 : UInt64)), .second, .val (.ref b40), .unset, .unset, .unset, .unset, .unset] [(.int ls), (.ref b44), (.ref b44)])) _
      refine XS.aload X44.here hx rfl (hb hby at_300) rfl rfl ?_
      show Steps p.tables e below (T44.setTop (mkF m 302 #[.val (.int x0), .val (.int x1), .val (.int x2), .val (.int x3), .val (.int x4), .val (.int (3 : Int32)), .val (.int ls), .val (.int w0), .val (.int w1), .val (.int w2), .val (.int (0 : Int32)), .val (.double (4652218415073722368 : UInt64)), .second, .val (.ref b40), .unset, .unset, .unset, .unset, .unset] [(.ref b40), (.int ls), (.ref b44), (.ref b44)])) _
      refine st49.trans ?_
      show Steps p.tables e below (T49.setTop (mkF m 305 #[.val (.int x0), .val (.int x1), .val (.int x2), .val (.int x3), .val (.int x4), .val (.int (3 : Int32)), .val (.int ls), .val (.int w0), .val (.int w1), .val (.int w2), .val (.int (0 : Int32)), .val (.double (4652218415073722368 : UInt64)), .second, .val (.ref b40), .unset, .unset, .unset, .unset, .unset] [(.ref b44)])) _
      refine XS.astore X49.here hx rfl (hb hby at_305) rfl rfl (l' := #[.val (.int x0), .val (.int x1), .val (.int x2), .val (.int x3), .val (.int x4), .val (.int (3 : Int32)), .val (.int ls), .val (.int w0), .val (.int w1), .val (.int w2), .val (.int (0 : Int32)), .val (.double (4652218415073722368 : UInt64)), .second, .val (.ref b40), .val (.ref b44), .unset, .unset, .unset, .unset]) rfl ?_
      show Steps p.tables e below (T49.setTop (mkF m 307 #[.val (.int x0), .val (.int x1), .val (.int x2), .val (.int x3), .val (.int x4), .val (.int (3 : Int32)), .val (.int ls), .val (.int w0), .val (.int w1), .val (.int w2), .val (.int (0 : Int32)), .val (.double (4652218415073722368 : UInt64)), .second, .val (.ref b40), .val (.ref b44), .unset, .unset, .unset, .unset] [])) _
      refine XS.iload X49.here hx rfl (hb hby at_307) rfl ?_
      show Steps p.tables e below (T49.setTop (mkF m 309 #[.val (.int x0), .val (.int x1), .val (.int x2), .val (.int x3), .val (.int x4), .val (.int (3 : Int32)), .val (.int ls), .val (.int w0), .val (.int w1), .val (.int w2), .val (.int (0 : Int32)), .val (.double (4652218415073722368 : UInt64)), .second, .val (.ref b40), .val (.ref b44), .unset, .unset, .unset, .unset] [(.int ls)])) _
      refine XS.i2l X49.here hx rfl (hb hby at_309) rfl ?_
      show Steps p.tables e below (T49.setTop (mkF m 310 #[.val (.int x0), .val (.int x1), .val (.int x2), .val (.int x3), .val (.int x4), .val (.int (3 : Int32)), .val (.int ls), .val (.int w0), .val (.int w1), .val (.int w2), .val (.int (0 : Int32)), .val (.double (4652218415073722368 : UInt64)), .second, .val (.ref b40), .val (.ref b44), .unset, .unset, .unset, .unset] [(.long (ls.toInt64))])) _
      refine Jvm.Stand.ldc2J X49 hx hown (mvT hZ (hw _ (List.mem_of_getElem? (i := 20) rfl))) rfl (hb hby at_310) ?_
      show Steps p.tables e below (T49.setTop (mkF m 313 #[.val (.int x0), .val (.int x1), .val (.int x2), .val (.int x3), .val (.int x4), .val (.int (3 : Int32)), .val (.int ls), .val (.int w0), .val (.int w1), .val (.int w2), .val (.int (0 : Int32)), .val (.double (4652218415073722368 : UInt64)), .second, .val (.ref b40), .val (.ref b44), .unset, .unset, .unset, .unset] [(.long (1024 : Int64)), (.long (ls.toInt64))])) _
      refine XS.lmul X49.here hx rfl (hb hby at_313) rfl ?_
      show Steps p.tables e below (T49.setTop (mkF m 314 #[.val (.int x0), .val (.int x1), .val (.int x2), .val (.int x3), .val (.int x4), .val (.int (3 : Int32)), .val (.int ls), .val (.int w0), .val (.int w1), .val (.int w2), .val (.int (0 : Int32)), .val (.double (4652218415073722368 : UInt64)), .second, .val (.ref b40), .val (.ref b44), .unset, .unset, .unset, .unset] [(.long ((ls.toInt64) * (1024 : Int64)))])) _
      refine XS.iload X49.here hx rfl (hb hby at_314) rfl ?_
      show Steps p.tables e below (T49.setTop (mkF m 316 #[.val (.int x0), .val (.int x1), .val (.int x2), .val (.int x3), .val (.int x4), .val (.int (3 : Int32)), .val (.int ls), .val (.int w0), .val (.int w1), .val (.int w2), .val (.int (0 : Int32)), .val (.double (4652218415073722368 : UInt64)), .second, .val (.ref b40), .val (.ref b44), .unset, .unset, .unset, .unset] [(.int w1), (.long ((ls.toInt64) * (1024 : Int64)))])) _
      refine XS.i2l X49.here hx rfl (hb hby at_316) rfl ?_
      show Steps p.tables e below (T49.setTop (mkF m 317 #[.val (.int x0), .val (.int x1), .val (.int x2), .val (.int x3), .val (.int x4), .val (.int (3 : Int32)), .val (.int ls), .val (.int w0), .val (.int w1), .val (.int w2), .val (.int (0 : Int32)), .val (.double (4652218415073722368 : UInt64)), .second, .val (.ref b40), .val (.ref b44), .unset, .unset, .unset, .unset] [(.long (w1.toInt64)), (.long ((ls.toInt64) * (1024 : Int64)))])) _
      refine XS.ladd X49.here hx rfl (hb hby at_317) rfl ?_
      show Steps p.tables e below (T49.setTop (mkF m 318 #[.val (.int x0), .val (.int x1), .val (.int x2), .val (.int x3), .val (.int x4), .val (.int (3 : Int32)), .val (.int ls), .val (.int w0), .val (.int w1), .val (.int w2), .val (.int (0 : Int32)), .val (.double (4652218415073722368 : UInt64)), .second, .val (.ref b40), .val (.ref b44), .unset, .unset, .unset, .unset] [(.long (((ls.toInt64) * (1024 : Int64)) + (w1.toInt64)))])) _
      refine Jvm.Stand.ldc2J X49 hx hown (mvT hZ (hw _ (List.mem_of_getElem? (i := 21) rfl))) rfl (hb hby at_318) ?_
      show Steps p.tables e below (T49.setTop (mkF m 321 #[.val (.int x0), .val (.int x1), .val (.int x2), .val (.int x3), .val (.int x4), .val (.int (3 : Int32)), .val (.int ls), .val (.int w0), .val (.int w1), .val (.int w2), .val (.int (0 : Int32)), .val (.double (4652218415073722368 : UInt64)), .second, .val (.ref b40), .val (.ref b44), .unset, .unset, .unset, .unset] [(.long (2 : Int64)), (.long (((ls.toInt64) * (1024 : Int64)) + (w1.toInt64)))])) _
      refine XS.iload X49.here hx rfl (hb hby at_321) rfl ?_
      show Steps p.tables e below (T49.setTop (mkF m 323 #[.val (.int x0), .val (.int x1), .val (.int x2), .val (.int x3), .val (.int x4), .val (.int (3 : Int32)), .val (.int ls), .val (.int w0), .val (.int w1), .val (.int w2), .val (.int (0 : Int32)), .val (.double (4652218415073722368 : UInt64)), .second, .val (.ref b40), .val (.ref b44), .unset, .unset, .unset, .unset] [(.int w2), (.long (2 : Int64)), (.long (((ls.toInt64) * (1024 : Int64)) + (w1.toInt64)))])) _
      refine XS.i2l X49.here hx rfl (hb hby at_323) rfl ?_
      show Steps p.tables e below (T49.setTop (mkF m 324 #[.val (.int x0), .val (.int x1), .val (.int x2), .val (.int x3), .val (.int x4), .val (.int (3 : Int32)), .val (.int ls), .val (.int w0), .val (.int w1), .val (.int w2), .val (.int (0 : Int32)), .val (.double (4652218415073722368 : UInt64)), .second, .val (.ref b40), .val (.ref b44), .unset, .unset, .unset, .unset] [(.long (w2.toInt64)), (.long (2 : Int64)), (.long (((ls.toInt64) * (1024 : Int64)) + (w1.toInt64)))])) _
      refine XS.lmul X49.here hx rfl (hb hby at_324) rfl ?_
      show Steps p.tables e below (T49.setTop (mkF m 325 #[.val (.int x0), .val (.int x1), .val (.int x2), .val (.int x3), .val (.int x4), .val (.int (3 : Int32)), .val (.int ls), .val (.int w0), .val (.int w1), .val (.int w2), .val (.int (0 : Int32)), .val (.double (4652218415073722368 : UInt64)), .second, .val (.ref b40), .val (.ref b44), .unset, .unset, .unset, .unset] [(.long ((2 : Int64) * (w2.toInt64))), (.long (((ls.toInt64) * (1024 : Int64)) + (w1.toInt64)))])) _
      refine XS.ladd X49.here hx rfl (hb hby at_325) rfl ?_
      show Steps p.tables e below (T49.setTop (mkF m 326 #[.val (.int x0), .val (.int x1), .val (.int x2), .val (.int x3), .val (.int x4), .val (.int (3 : Int32)), .val (.int ls), .val (.int w0), .val (.int w1), .val (.int w2), .val (.int (0 : Int32)), .val (.double (4652218415073722368 : UInt64)), .second, .val (.ref b40), .val (.ref b44), .unset, .unset, .unset, .unset] [(.long ((((ls.toInt64) * (1024 : Int64)) + (w1.toInt64)) + ((2 : Int64) * (w2.toInt64))))])) _
      refine Jvm.Stand.ldc2J X49 hx hown (mvT hZ (hw _ (List.mem_of_getElem? (i := 22) rfl))) rfl (hb hby at_326) ?_
      show Steps p.tables e below (T49.setTop (mkF m 329 #[.val (.int x0), .val (.int x1), .val (.int x2), .val (.int x3), .val (.int x4), .val (.int (3 : Int32)), .val (.int ls), .val (.int w0), .val (.int w1), .val (.int w2), .val (.int (0 : Int32)), .val (.double (4652218415073722368 : UInt64)), .second, .val (.ref b40), .val (.ref b44), .unset, .unset, .unset, .unset] [(.long (3 : Int64)), (.long ((((ls.toInt64) * (1024 : Int64)) + (w1.toInt64)) + ((2 : Int64) * (w2.toInt64))))])) _
      refine XS.iload X49.here hx rfl (hb hby at_329) rfl ?_
      show Steps p.tables e below (T49.setTop (mkF m 331 #[.val (.int x0), .val (.int x1), .val (.int x2), .val (.int x3), .val (.int x4), .val (.int (3 : Int32)), .val (.int ls), .val (.int w0), .val (.int w1), .val (.int w2), .val (.int (0 : Int32)), .val (.double (4652218415073722368 : UInt64)), .second, .val (.ref b40), .val (.ref b44), .unset, .unset, .unset, .unset] [(.int (0 : Int32)), (.long (3 : Int64)), (.long ((((ls.toInt64) * (1024 : Int64)) + (w1.toInt64)) + ((2 : Int64) * (w2.toInt64))))])) _
      refine XS.i2l X49.here hx rfl (hb hby at_331) rfl ?_
      show Steps p.tables e below (T49.setTop (mkF m 332 #[.val (.int x0), .val (.int x1), .val (.int x2), .val (.int x3), .val (.int x4), .val (.int (3 : Int32)), .val (.int ls), .val (.int w0), .val (.int w1), .val (.int w2), .val (.int (0 : Int32)), .val (.double (4652218415073722368 : UInt64)), .second, .val (.ref b40), .val (.ref b44), .unset, .unset, .unset, .unset] [(.long ((0 : Int32).toInt64)), (.long (3 : Int64)), (.long ((((ls.toInt64) * (1024 : Int64)) + (w1.toInt64)) + ((2 : Int64) * (w2.toInt64))))])) _
      refine XS.lmul X49.here hx rfl (hb hby at_332) rfl ?_
      show Steps p.tables e below (T49.setTop (mkF m 333 #[.val (.int x0), .val (.int x1), .val (.int x2), .val (.int x3), .val (.int x4), .val (.int (3 : Int32)), .val (.int ls), .val (.int w0), .val (.int w1), .val (.int w2), .val (.int (0 : Int32)), .val (.double (4652218415073722368 : UInt64)), .second, .val (.ref b40), .val (.ref b44), .unset, .unset, .unset, .unset] [(.long ((3 : Int64) * ((0 : Int32).toInt64))), (.long ((((ls.toInt64) * (1024 : Int64)) + (w1.toInt64)) + ((2 : Int64) * (w2.toInt64))))])) _
      refine XS.ladd X49.here hx rfl (hb hby at_333) rfl ?_
      show Steps p.tables e below (T49.setTop (mkF m 334 #[.val (.int x0), .val (.int x1), .val (.int x2), .val (.int x3), .val (.int x4), .val (.int (3 : Int32)), .val (.int ls), .val (.int w0), .val (.int w1), .val (.int w2), .val (.int (0 : Int32)), .val (.double (4652218415073722368 : UInt64)), .second, .val (.ref b40), .val (.ref b44), .unset, .unset, .unset, .unset] [(.long (((((ls.toInt64) * (1024 : Int64)) + (w1.toInt64)) + ((2 : Int64) * (w2.toInt64))) + ((3 : Int64) * ((0 : Int32).toInt64))))])) _
      refine XS.lstore X49.here hx rfl (hb hby at_334) rfl (l' := #[.val (.int x0), .val (.int x1), .val (.int x2), .val (.int x3), .val (.int x4), .val (.int (3 : Int32)), .val (.int ls), .val (.int w0), .val (.int w1), .val (.int w2), .val (.int (0 : Int32)), .val (.double (4652218415073722368 : UInt64)), .second, .val (.ref b40), .val (.ref b44), .val (.long (((((ls.toInt64) * (1024 : Int64)) + (w1.toInt64)) + ((2 : Int64) * (w2.toInt64))) + ((3 : Int64) * ((0 : Int32).toInt64)))), .second, .unset, .unset]) rfl ?_
      show Steps p.tables e below (T49.setTop (mkF m 336 #[.val (.int x0), .val (.int x1), .val (.int x2), .val (.int x3), .val (.int x4), .val (.int (3 : Int32)), .val (.int ls), .val (.int w0), .val (.int w1), .val (.int w2), .val (.int (0 : Int32)), .val (.double (4652218415073722368 : UInt64)), .second, .val (.ref b40), .val (.ref b44), .val (.long (((((ls.toInt64) * (1024 : Int64)) + (w1.toInt64)) + ((2 : Int64) * (w2.toInt64))) + ((3 : Int64) * ((0 : Int32).toInt64)))), .second, .unset, .unset] [])) _
      refine XS.lload X49.here hx rfl (hb hby at_336) rfl ?_
      show Steps p.tables e below (T49.setTop (mkF m 338 #[.val (.int x0), .val (.int x1), .val (.int x2), .val (.int x3), .val (.int x4), .val (.int (3 : Int32)), .val (.int ls), .val (.int w0), .val (.int w1), .val (.int w2), .val (.int (0 : Int32)), .val (.double (4652218415073722368 : UInt64)), .second, .val (.ref b40), .val (.ref b44), .val (.long (((((ls.toInt64) * (1024 : Int64)) + (w1.toInt64)) + ((2 : Int64) * (w2.toInt64))) + ((3 : Int64) * ((0 : Int32).toInt64)))), .second, .unset, .unset] [(.long (((((ls.toInt64) * (1024 : Int64)) + (w1.toInt64)) + ((2 : Int64) * (w2.toInt64))) + ((3 : Int64) * ((0 : Int32).toInt64))))])) _
      refine XS.l2dS X49.here hx rfl (hb hby at_338) rfl rfl ?_
      show Steps p.tables e below (T49.setTop (mkF m 339 #[.val (.int x0), .val (.int x1), .val (.int x2), .val (.int x3), .val (.int x4), .val (.int (3 : Int32)), .val (.int ls), .val (.int w0), .val (.int w1), .val (.int w2), .val (.int (0 : Int32)), .val (.double (4652218415073722368 : UInt64)), .second, .val (.ref b40), .val (.ref b44), .val (.long (((((ls.toInt64) * (1024 : Int64)) + (w1.toInt64)) + ((2 : Int64) * (w2.toInt64))) + ((3 : Int64) * ((0 : Int32).toInt64)))), .second, .unset, .unset] [(.double (Jvm.FP.l2d (((((ls.toInt64) * (1024 : Int64)) + (w1.toInt64)) + ((2 : Int64) * (w2.toInt64))) + ((3 : Int64) * ((0 : Int32).toInt64)))))])) _
      refine XS.dload X49.here hx rfl (hb hby at_339) rfl ?_
      show Steps p.tables e below (T49.setTop (mkF m 341 #[.val (.int x0), .val (.int x1), .val (.int x2), .val (.int x3), .val (.int x4), .val (.int (3 : Int32)), .val (.int ls), .val (.int w0), .val (.int w1), .val (.int w2), .val (.int (0 : Int32)), .val (.double (4652218415073722368 : UInt64)), .second, .val (.ref b40), .val (.ref b44), .val (.long (((((ls.toInt64) * (1024 : Int64)) + (w1.toInt64)) + ((2 : Int64) * (w2.toInt64))) + ((3 : Int64) * ((0 : Int32).toInt64)))), .second, .unset, .unset] [(.double (4652218415073722368 : UInt64)), (.double (Jvm.FP.l2d (((((ls.toInt64) * (1024 : Int64)) + (w1.toInt64)) + ((2 : Int64) * (w2.toInt64))) + ((3 : Int64) * ((0 : Int32).toInt64)))))])) _
      refine XS.ddivS X49.here hx rfl (hb hby at_341) rfl (own_dv_num href) rfl ?_
      show Steps p.tables e below (T49.setTop (mkF m 342 #[.val (.int x0), .val (.int x1), .val (.int x2), .val (.int x3), .val (.int x4), .val (.int (3 : Int32)), .val (.int ls), .val (.int w0), .val (.int w1), .val (.int w2), .val (.int (0 : Int32)), .val (.double (4652218415073722368 : UInt64)), .second, .val (.ref b40), .val (.ref b44), .val (.long (((((ls.toInt64) * (1024 : Int64)) + (w1.toInt64)) + ((2 : Int64) * (w2.toInt64))) + ((3 : Int64) * ((0 : Int32).toInt64)))), .second, .unset, .unset] [(.double (Jvm.FP.ddiv (Jvm.FP.l2d (((((ls.toInt64) * (1024 : Int64)) + (w1.toInt64)) + ((2 : Int64) * (w2.toInt64))) + ((3 : Int64) * ((0 : Int32).toInt64)))) (4652218415073722368 : UInt64)))])) _
      refine XS.dstore X49.here hx rfl (hb hby at_342) rfl (l' := #[.val (.int x0), .val (.int x1), .val (.int x2), .val (.int x3), .val (.int x4), .val (.int (3 : Int32)), .val (.int ls), .val (.int w0), .val (.int w1), .val (.int w2), .val (.int (0 : Int32)), .val (.double (4652218415073722368 : UInt64)), .second, .val (.ref b40), .val (.ref b44), .val (.long (((((ls.toInt64) * (1024 : Int64)) + (w1.toInt64)) + ((2 : Int64) * (w2.toInt64))) + ((3 : Int64) * ((0 : Int32).toInt64)))), .second, .val (.double (Jvm.FP.ddiv (Jvm.FP.l2d (((((ls.toInt64) * (1024 : Int64)) + (w1.toInt64)) + ((2 : Int64) * (w2.toInt64))) + ((3 : Int64) * ((0 : Int32).toInt64)))) (4652218415073722368 : UInt64))), .second]) rfl ?_
      show Steps p.tables e below (T49.setTop (mkF m 344 #[.val (.int x0), .val (.int x1), .val (.int x2), .val (.int x3), .val (.int x4), .val (.int (3 : Int32)), .val (.int ls), .val (.int w0), .val (.int w1), .val (.int w2), .val (.int (0 : Int32)), .val (.double (4652218415073722368 : UInt64)), .second, .val (.ref b40), .val (.ref b44), .val (.long (((((ls.toInt64) * (1024 : Int64)) + (w1.toInt64)) + ((2 : Int64) * (w2.toInt64))) + ((3 : Int64) * ((0 : Int32).toInt64)))), .second, .val (.double (Jvm.FP.ddiv (Jvm.FP.l2d (((((ls.toInt64) * (1024 : Int64)) + (w1.toInt64)) + ((2 : Int64) * (w2.toInt64))) + ((3 : Int64) * ((0 : Int32).toInt64)))) (4652218415073722368 : UInt64))), .second] [])) _
      refine XS.aload X49.here hx rfl (hb hby at_344) rfl rfl ?_
      show Steps p.tables e below (T49.setTop (mkF m 346 #[.val (.int x0), .val (.int x1), .val (.int x2), .val (.int x3), .val (.int x4), .val (.int (3 : Int32)), .val (.int ls), .val (.int w0), .val (.int w1), .val (.int w2), .val (.int (0 : Int32)), .val (.double (4652218415073722368 : UInt64)), .second, .val (.ref b40), .val (.ref b44), .val (.long (((((ls.toInt64) * (1024 : Int64)) + (w1.toInt64)) + ((2 : Int64) * (w2.toInt64))) + ((3 : Int64) * ((0 : Int32).toInt64)))), .second, .val (.double (Jvm.FP.ddiv (Jvm.FP.l2d (((((ls.toInt64) * (1024 : Int64)) + (w1.toInt64)) + ((2 : Int64) * (w2.toInt64))) + ((3 : Int64) * ((0 : Int32).toInt64)))) (4652218415073722368 : UInt64))), .second] [(.ref b44)])) _
      refine st52.trans ?_
      show Steps p.tables e below (T52.setTop (mkF m 349 #[.val (.int x0), .val (.int x1), .val (.int x2), .val (.int x3), .val (.int x4), .val (.int (3 : Int32)), .val (.int ls), .val (.int w0), .val (.int w1), .val (.int w2), .val (.int (0 : Int32)), .val (.double (4652218415073722368 : UInt64)), .second, .val (.ref b40), .val (.ref b44), .val (.long (((((ls.toInt64) * (1024 : Int64)) + (w1.toInt64)) + ((2 : Int64) * (w2.toInt64))) + ((3 : Int64) * ((0 : Int32).toInt64)))), .second, .val (.double (Jvm.FP.ddiv (Jvm.FP.l2d (((((ls.toInt64) * (1024 : Int64)) + (w1.toInt64)) + ((2 : Int64) * (w2.toInt64))) + ((3 : Int64) * ((0 : Int32).toInt64)))) (4652218415073722368 : UInt64))), .second] [(.double rr_52)])) _
      refine XS.dload X52.here hx rfl (hb hby at_349) rfl ?_
      show Steps p.tables e below (T52.setTop (mkF m 351 #[.val (.int x0), .val (.int x1), .val (.int x2), .val (.int x3), .val (.int x4), .val (.int (3 : Int32)), .val (.int ls), .val (.int w0), .val (.int w1), .val (.int w2), .val (.int (0 : Int32)), .val (.double (4652218415073722368 : UInt64)), .second, .val (.ref b40), .val (.ref b44), .val (.long (((((ls.toInt64) * (1024 : Int64)) + (w1.toInt64)) + ((2 : Int64) * (w2.toInt64))) + ((3 : Int64) * ((0 : Int32).toInt64)))), .second, .val (.double (Jvm.FP.ddiv (Jvm.FP.l2d (((((ls.toInt64) * (1024 : Int64)) + (w1.toInt64)) + ((2 : Int64) * (w2.toInt64))) + ((3 : Int64) * ((0 : Int32).toInt64)))) (4652218415073722368 : UInt64))), .second] [(.double (Jvm.FP.ddiv (Jvm.FP.l2d (((((ls.toInt64) * (1024 : Int64)) + (w1.toInt64)) + ((2 : Int64) * (w2.toInt64))) + ((3 : Int64) * ((0 : Int32).toInt64)))) (4652218415073722368 : UInt64))), (.double rr_52)])) _
      refine XS.dcmpS X52.here hx rfl (hb hby at_351) rfl (v := (0 : Int32)) (own_eq G52_0 href (own_mean4 (a := nw0) (b := nw1) (c := nw2) (d := 0) (by decide) (by omega) (by omega) (by omega) (by omega))) ?_
      show Steps p.tables e below (T52.setTop (mkF m 352 #[.val (.int x0), .val (.int x1), .val (.int x2), .val (.int x3), .val (.int x4), .val (.int (3 : Int32)), .val (.int ls), .val (.int w0), .val (.int w1), .val (.int w2), .val (.int (0 : Int32)), .val (.double (4652218415073722368 : UInt64)), .second, .val (.ref b40), .val (.ref b44), .val (.long (((((ls.toInt64) * (1024 : Int64)) + (w1.toInt64)) + ((2 : Int64) * (w2.toInt64))) + ((3 : Int64) * ((0 : Int32).toInt64)))), .second, .val (.double (Jvm.FP.ddiv (Jvm.FP.l2d (((((ls.toInt64) * (1024 : Int64)) + (w1.toInt64)) + ((2 : Int64) * (w2.toInt64))) + ((3 : Int64) * ((0 : Int32).toInt64)))) (4652218415073722368 : UInt64))), .second] [(.int (0 : Int32))])) _
      refine XS.ifNo X52.here hx rfl (hb hby at_352) rfl ((if0 _ _).trans (teq (rfl : (0 : Int32) = (0 : Int32))).2) ?_
      show Steps p.tables e below (T52.setTop (mkF m 355 #[.val (.int x0), .val (.int x1), .val (.int x2), .val (.int x3), .val (.int x4), .val (.int (3 : Int32)), .val (.int ls), .val (.int w0), .val (.int w1), .val (.int w2), .val (.int (0 : Int32)), .val (.double (4652218415073722368 : UInt64)), .second, .val (.ref b40), .val (.ref b44), .val (.long (((((ls.toInt64) * (1024 : Int64)) + (w1.toInt64)) + ((2 : Int64) * (w2.toInt64))) + ((3 : Int64) * ((0 : Int32).toInt64)))), .second, .val (.double (Jvm.FP.ddiv (Jvm.FP.l2d (((((ls.toInt64) * (1024 : Int64)) + (w1.toInt64)) + ((2 : Int64) * (w2.toInt64))) + ((3 : Int64) * ((0 : Int32).toInt64)))) (4652218415073722368 : UInt64))), .second] [])) _
      refine XS.iconst X52.here hx rfl (hb hby at_355) ?_
      show Steps p.tables e below (T52.setTop (mkF m 356 #[.val (.int x0), .val (.int x1), .val (.int x2), .val (.int x3), .val (.int x4), .val (.int (3 : Int32)), .val (.int ls), .val (.int w0), .val (.int w1), .val (.int w2), .val (.int (0 : Int32)), .val (.double (4652218415073722368 : UInt64)), .second, .val (.ref b40), .val (.ref b44), .val (.long (((((ls.toInt64) * (1024 : Int64)) + (w1.toInt64)) + ((2 : Int64) * (w2.toInt64))) + ((3 : Int64) * ((0 : Int32).toInt64)))), .second, .val (.double (Jvm.FP.ddiv (Jvm.FP.l2d (((((ls.toInt64) * (1024 : Int64)) + (w1.toInt64)) + ((2 : Int64) * (w2.toInt64))) + ((3 : Int64) * ((0 : Int32).toInt64)))) (4652218415073722368 : UInt64))), .second] [(.int (1 : Int32))])) _
      refine XS.goto X52.here hx rfl (pc0 := 356) (pc' := 360) rfl (hb hby at_356) (by decide) (by decide) ?_
      show Steps p.tables e below (T52.setTop (mkF m 360 #[.val (.int x0), .val (.int x1), .val (.int x2), .val (.int x3), .val (.int x4), .val (.int (3 : Int32)), .val (.int ls), .val (.int w0), .val (.int w1), .val (.int w2), .val (.int (0 : Int32)), .val (.double (4652218415073722368 : UInt64)), .second, .val (.ref b40), .val (.ref b44), .val (.long (((((ls.toInt64) * (1024 : Int64)) + (w1.toInt64)) + ((2 : Int64) * (w2.toInt64))) + ((3 : Int64) * ((0 : Int32).toInt64)))), .second, .val (.double (Jvm.FP.ddiv (Jvm.FP.l2d (((((ls.toInt64) * (1024 : Int64)) + (w1.toInt64)) + ((2 : Int64) * (w2.toInt64))) + ((3 : Int64) * ((0 : Int32).toInt64)))) (4652218415073722368 : UInt64))), .second] [(.int (1 : Int32))])) _
      exact retN X52 hx (t := .boolean) Bd.returns (by simp) (hb hby at_360) hr
    · show Q0 Z x0 x1 x2 x3 x4 h0 n0 _ T52.heap _
      rw [K52c]
      exact ⟨rfl, N52⟩
  · obtain ⟨_, _, ⟨T53, L53, k53, n53⟩, -, X53, ⟨Lc53, hQ53, l53, y53, z53⟩, st53⟩ := Jvm.LawKit.callS X0 hx (y := (⟨"java/lang/Math", "min", "(II)I"⟩ : MethodName)) hown (mvT hZ (hw _ (List.mem_of_getElem? (i := 1) rfl))) (mvT hZ (hw _ (List.mem_of_getElem? (i := 2) rfl))) (mvT hZ (hw _ (List.mem_of_getElem? (i := 3) rfl))) (mvT hZ (hw _ (List.mem_of_getElem? (i := 4) rfl))) (by decide) (backOf (W := 0) (rm1 l Z a0 hw [] (x0 &&& (2147483647 : Int32)) ((2147483647 : Int32) - ((4 : Int32) - (1 : Int32))) h0 n0 Z0 ) hZ (hw _ (List.mem_of_getElem? (i := 4) rfl)) (hw _ (List.mem_of_getElem? (i := 3) rfl)) (by decide) (by decide)) (g := (mkF m 18 #[.val (.int x0), .val (.int x1), .val (.int x2), .val (.int x3), .val (.int x4), .val (.int (4 : Int32)), .unset, .unset, .unset, .unset, .unset, .unset, .unset, .unset, .unset, .unset, .unset, .unset, .unset] [(.int ((2147483647 : Int32) - ((4 : Int32) - (1 : Int32)))), (.int (x0 &&& (2147483647 : Int32)))])) rfl (by rw [hml]; rfl) (argsL := [(.int (x0 &&& (2147483647 : Int32))), (.int ((2147483647 : Int32) - ((4 : Int32) - (1 : Int32))))]) (rest := []) (lenOf pd_710716 rfl) rfl (by show 2 * 0 + _ ≤ _; exact Nat.le_of_eq rfl) (hb hby at_18) (fun _ _ => ⟨rfl, e0, (by decide : 0 + 0 ≤ _), (by decide : 0 + 0 ≤ _)⟩)
    dsimp only [Pt.U, Pt.locs, Pt.cells, Pt.slots] at X53 l53 y53 z53 st53 hQ53
    subst l53 y53 z53
    obtain ⟨rfl, N53q, K53c⟩ := hQ53
    have N53 := Fr.app N0 N53q
    obtain ⟨k, ek, bk⟩ := own_least x0 ((4 : Int32) - (1 : Int32)) (j := 3) (by decide) (by decide)
    obtain ⟨ls, hls⟩ : ∃ z, z = (own_minI (x0 &&& (2147483647 : Int32)) ((2147483647 : Int32) - ((4 : Int32) - (1 : Int32)))) := ⟨_, rfl⟩
    rw [← hls] at ek
    obtain ⟨w0, hw0⟩ : ∃ z, z = ((x2 &&& (2147483647 : Int32)) % (1025 : Int32)) := ⟨_, rfl⟩
    obtain ⟨nw0, ew0, bw0'⟩ : ∃ k : Nat, w0.toInt = (k : Int) ∧ k < 1025 := by rw [hw0]; exact own_rem x2 (1025 : Int32) (by decide) (by decide)
    have bw0 : nw0 ≤ 1024 := by omega
    obtain ⟨w1, hw1⟩ : ∃ z, z = ((x3 &&& (2147483647 : Int32)) % ((1025 : Int32) - w0)) := ⟨_, rfl⟩
    have ed1 : ((1025 : Int32) - w0).toInt = ((1025 - nw0 : Nat) : Int) := own_sub (a := 1025) (by decide) ew0 (by omega)
    obtain ⟨nw1, ew1, sw1⟩ : ∃ k : Nat, w1.toInt = (k : Int) ∧ k < 1025 - nw0 := by rw [hw1]; exact own_rem x3 _ ed1 (by omega)
    have bw1 : nw1 ≤ 1024 := by omega
    obtain ⟨w2, hw2⟩ : ∃ z, z = ((x4 &&& (2147483647 : Int32)) % (((1025 : Int32) - w0) - w1)) := ⟨_, rfl⟩
    have ed2 : ((1025 : Int32) - w0 - w1).toInt = ((1025 - nw0 - nw1 : Nat) : Int) := own_sub (own_sub (a := 1025) (by decide) ew0 (by omega)) ew1 (by omega)
    obtain ⟨nw2, ew2, sw2⟩ : ∃ k : Nat, w2.toInt = (k : Int) ∧ k < 1025 - nw0 - nw1 := by rw [hw2]; exact own_rem x4 _ ed2 (by omega)
    have bw2 : nw2 ≤ 1024 := by omega
    obtain ⟨w3, hw3⟩ : ∃ z, z = ((((1024 : Int32) - w0) - w1) - w2) := ⟨_, rfl⟩
    obtain ⟨nw3, ew3, bw3, sw3⟩ : ∃ k : Nat, w3.toInt = (k : Int) ∧ k ≤ 1024 ∧ nw0 + nw1 + nw2 + k = 1024 := by
      refine ⟨1024 - nw0 - nw1 - nw2, ?_, by omega, by omega⟩
      rw [hw3]; exact own_sub (own_sub (own_sub (a := 1024) (by decide) ew0 bw0) ew1 (by omega)) ew2 (by omega)
    obtain ⟨T54, h54, X54, e54, E54, A54, st54⟩ := DA.make X53 hx hZ (hw _ (List.mem_of_getElem? (i := 6) rfl)) K53c (g := (mkF m 254 #[.val (.int x0), .val (.int x1), .val (.int x2), .val (.int x3), .val (.int x4), .val (.int (4 : Int32)), .val (.int ls), .val (.int w0), .val (.int w1), .val (.int w2), .val (.int w3), .val (.double (4652218415073722368 : UInt64)), .second, .unset, .unset, .unset, .unset, .unset, .unset] [(.int (4 : Int32))])) rfl (hb hby at_254) rfl 4 (by decide) (by decide) (by decide) (by decide) (by decide)
    obtain ⟨b54, g54⟩ : ∃ z, z = h0.size := ⟨_, rfl⟩
    rw [← g54] at A54 st54
    have ge_b54 : n0 ≤ b54 := Nat.le_trans Z0 (Nat.le_of_eq g54.symm)
    have Z54 : n0 ≤ h54.size := Nat.le_trans Z0 E54.1
    obtain ⟨T55, h55, X55, e55, W55, V55, st55⟩ := DA.store X54 hx hZ e54 A54 0 (by decide) (by decide) (by decide) (x := (Jvm.FP.ddiv (Jvm.FP.i2d w0) (4652218415073722368 : UInt64))) (g := (mkF m 264 #[.val (.int x0), .val (.int x1), .val (.int x2), .val (.int x3), .val (.int x4), .val (.int (4 : Int32)), .val (.int ls), .val (.int w0), .val (.int w1), .val (.int w2), .val (.int w3), .val (.double (4652218415073722368 : UInt64)), .second, .unset, .unset, .unset, .unset, .unset, .unset] [(.double (Jvm.FP.ddiv (Jvm.FP.i2d w0) (4652218415073722368 : UInt64))), (.int (0 : Int32)), (.ref b54), (.ref b54)])) rfl rfl (hb hby at_264)
    have N55 := Fr.snoc X55 N53 ge_b54
    have Z55 : n0 ≤ h55.size := Nat.le_trans Z54 (Keep.of_wr W55).1
    obtain ⟨T56, h56, X56, e56, W56, V56, st56⟩ := DA.store X55 hx hZ e55 V55 1 (by decide) (by decide) (by decide) (x := (Jvm.FP.ddiv (Jvm.FP.i2d w1) (4652218415073722368 : UInt64))) (g := (mkF m 273 #[.val (.int x0), .val (.int x1), .val (.int x2), .val (.int x3), .val (.int x4), .val (.int (4 : Int32)), .val (.int ls), .val (.int w0), .val (.int w1), .val (.int w2), .val (.int w3), .val (.double (4652218415073722368 : UInt64)), .second, .unset, .unset, .unset, .unset, .unset, .unset] [(.double (Jvm.FP.ddiv (Jvm.FP.i2d w1) (4652218415073722368 : UInt64))), (.int (1 : Int32)), (.ref b54), (.ref b54)])) rfl rfl (hb hby at_273)
    have N56 := Fr.snoc X56 N55 ge_b54
    have Z56 : n0 ≤ h56.size := Nat.le_trans Z55 (Keep.of_wr W56).1
    obtain ⟨T57, h57, X57, e57, W57, V57, st57⟩ := DA.store X56 hx hZ e56 V56 2 (by decide) (by decide) (by decide) (x := (Jvm.FP.ddiv (Jvm.FP.i2d w2) (4652218415073722368 : UInt64))) (g := (mkF m 282 #[.val (.int x0), .val (.int x1), .val (.int x2), .val (.int x3), .val (.int x4), .val (.int (4 : Int32)), .val (.int ls), .val (.int w0), .val (.int w1), .val (.int w2), .val (.int w3), .val (.double (4652218415073722368 : UInt64)), .second, .unset, .unset, .unset, .unset, .unset, .unset] [(.double (Jvm.FP.ddiv (Jvm.FP.i2d w2) (4652218415073722368 : UInt64))), (.int (2 : Int32)), (.ref b54), (.ref b54)])) rfl rfl (hb hby at_282)
    have N57 := Fr.snoc X57 N56 ge_b54
    have Z57 : n0 ≤ h57.size := Nat.le_trans Z56 (Keep.of_wr W57).1
    obtain ⟨T58, h58, X58, e58, W58, V58, st58⟩ := DA.store X57 hx hZ e57 V57 3 (by decide) (by decide) (by decide) (x := (Jvm.FP.ddiv (Jvm.FP.i2d w3) (4652218415073722368 : UInt64))) (g := (mkF m 291 #[.val (.int x0), .val (.int x1), .val (.int x2), .val (.int x3), .val (.int x4), .val (.int (4 : Int32)), .val (.int ls), .val (.int w0), .val (.int w1), .val (.int w2), .val (.int w3), .val (.double (4652218415073722368 : UInt64)), .second, .unset, .unset, .unset, .unset, .unset, .unset] [(.double (Jvm.FP.ddiv (Jvm.FP.i2d w3) (4652218415073722368 : UInt64))), (.int (3 : Int32)), (.ref b54), (.ref b54)])) rfl rfl (hb hby at_291)
    have N58 := Fr.snoc X58 N57 ge_b54
    have Z58 : n0 ≤ h58.size := Nat.le_trans Z57 (Keep.of_wr W58).1
    have hk' : ls.toInt = ((k : Nat) : Int) := ek
    have hnum := own_num hk' ew1 ew2 ew3 bw1 bw2 bw3
    have hN : k * 1024 + nw1 + 2 * nw2 + 3 * nw3 < 2 ^ 43 := by omega
    have href := own_ref hnum hN
    obtain ⟨T59, h59, X59, e59, E59, A59, D59, -, st59⟩ := newO X58 hx hZ hown (hw _ (List.mem_of_getElem? (i := 7) rfl)) (hw _ (List.mem_of_getElem? (i := 8) rfl)) (hw _ (List.mem_of_getElem? (i := 9) rfl)) e58 (g := (mkF m 294 #[.val (.int x0), .val (.int x1), .val (.int x2), .val (.int x3), .val (.int x4), .val (.int (4 : Int32)), .val (.int ls), .val (.int w0), .val (.int w1), .val (.int w2), .val (.int w3), .val (.double (4652218415073722368 : UInt64)), .second, .val (.ref b54), .unset, .unset, .unset, .unset, .unset] [])) rfl (hb hby at_294) (by decide) (by decide)
    obtain ⟨b59, g59⟩ : ∃ z, z = h58.size := ⟨_, rfl⟩
    rw [← g59] at A59 D59 st59
    have ne_60 : b54 ≠ b59 := Nat.ne_of_lt (Nat.lt_of_lt_of_le V58.lt (Nat.le_of_eq g59.symm))
    have V_61 := V58.ext E59
    have ge_b59 : n0 ≤ b59 := Nat.le_trans Z58 (Nat.le_of_eq g59.symm)
    have Z59 : n0 ≤ h59.size := Nat.le_trans Z58 E59.1
    have F_62 : Fld Z h59 b59 "com/example/berthline/berthline/engine/pool/NextJobs" "least" "I" (.int (0 : Int32)) := D59 (Or.inr (hw _ (List.mem_of_getElem? (i := 17) rfl))) (ty := .int) (by decide)
    have F_63 : Fld Z h59 b59 "com/example/berthline/berthline/engine/pool/NextJobs" "probabilities" "[D" .null := D59 (Or.inr (hw _ (List.mem_of_getElem? (i := 19) rfl))) (ty := (.array .double)) (by decide)
    obtain ⟨_, _, ⟨T64, L64, k64, n64⟩, -, X64, ⟨Lc64, hQ64, l64, y64, z64⟩, st64⟩ := X59.specialBack hx (y := (⟨"com/example/berthline/berthline/engine/pool/NextJobs", "<init>", "(I[D)V"⟩ : MethodName)) rfl hown (mvT hZ (hw _ (List.mem_of_getElem? (i := 10) rfl))) (mvT hZ (hw _ (List.mem_of_getElem? (i := 11) rfl))) (mvT hZ (hw _ (List.mem_of_getElem? (i := 12) rfl))) (by decide) (backOf (W := 1) (rm2 l Z a0 hw [] b59 ls b54 h59 n0 Z59 A59 F_62 F_63 ge_b59) hZ (hw _ (List.mem_of_getElem? (i := 12) rfl)) (hw _ (List.mem_of_getElem? (i := 9) rfl)) (by decide) (by decide)) (g := (mkF m 302 #[.val (.int x0), .val (.int x1), .val (.int x2), .val (.int x3), .val (.int x4), .val (.int (4 : Int32)), .val (.int ls), .val (.int w0), .val (.int w1), .val (.int w2), .val (.int w3), .val (.double (4652218415073722368 : UInt64)), .second, .val (.ref b54), .unset, .unset, .unset, .unset, .unset] [(.ref b54), (.int ls), (.ref b59), (.ref b59)])) rfl (by rw [hml]; rfl) (Steps.refl _) (a := b59) (argsL := [(.int ls), (.ref b54)]) (rest := [(.ref b59)]) (lenOf pd_79383 rfl) rfl (by show 2 * 0 + _ ≤ _; exact Nat.le_of_eq rfl) (hb hby at_302) (fun _ _ => ⟨rfl, e59, (by decide : 2 + 0 ≤ _), (by decide : 6 + 0 ≤ _)⟩)
    dsimp only [Pt.U, Pt.locs, Pt.cells, Pt.slots] at X64 l64 y64 z64 st64 hQ64
    subst l64 y64 z64
    obtain ⟨rfl, N64q, K64c, G64_0, G64_1, G64_2⟩ := hQ64
    have N64 := Fr.app N58 N64q
    have V_65 := V_61.keep K64c (ninS ne_60 nin0)
    have E_66 := A59.keep K64c
    have Z64 : n0 ≤ T64.heap.size := Nat.le_trans Z59 K64c.1
    obtain ⟨cq67, kq67, q67a, q67b, q67c⟩ := isOf hZ rfl G64_0
    obtain ⟨_, _, ⟨T67, L67, k67, n67⟩, -, X67, ⟨Lc67, hQ67, l67, y67, z67⟩, st67⟩ := X64.virtualBack hx (y := (⟨"com/example/berthline/berthline/engine/pool/NextJobs", "mean", "()D"⟩ : MethodName)) (z := (⟨"com/example/berthline/berthline/engine/pool/NextJobs", "mean", "()D"⟩ : MethodName)) hown (mvT hZ (hw _ (List.mem_of_getElem? (i := 23) rfl))) (mvT hZ (hw _ (List.mem_of_getElem? (i := 24) rfl))) (notFace_of_selects (args := #[]) (mvT hZ (hw _ (List.mem_of_getElem? (i := 26) rfl)))) (mvT hZ (hw _ (List.mem_of_getElem? (i := 26) rfl))) (mvT hZ (hw _ (List.mem_of_getElem? (i := 25) rfl))) (by decide) (backOf (W := 0) (rm4 l Z a0 hw [] b59 ls b54 4 (own_upd (own_upd (own_upd (own_upd (fun _ => 0) 0 (Jvm.FP.ddiv (Jvm.FP.i2d w0) (4652218415073722368 : UInt64))) 1 (Jvm.FP.ddiv (Jvm.FP.i2d w1) (4652218415073722368 : UInt64))) 2 (Jvm.FP.ddiv (Jvm.FP.i2d w2) (4652218415073722368 : UInt64))) 3 (Jvm.FP.ddiv (Jvm.FP.i2d w3) (4652218415073722368 : UInt64))) k (own_l4 nw0 nw1 nw2 nw3) T64.heap n0 Z64 G64_1 G64_2 V_65 hk' (by omega) (by decide) (fun i hi => match i, hi with | 0, _ => own_prob ew0 bw0 | 1, _ => own_prob ew1 bw1 | 2, _ => own_prob ew2 bw2 | 3, _ => own_prob ew3 bw3 | (i + 4), h => absurd h (by omega)) (fun i hi => match i, hi with | 0, _ => bw0 | 1, _ => bw1 | 2, _ => bw2 | 3, _ => bw3 | (i + 4), h => absurd h (by omega))) hZ (hw _ (List.mem_of_getElem? (i := 27) rfl)) (hw _ (List.mem_of_getElem? (i := 9) rfl)) (by decide) (by decide)) q67a q67c (g := (mkF m 346 #[.val (.int x0), .val (.int x1), .val (.int x2), .val (.int x3), .val (.int x4), .val (.int (4 : Int32)), .val (.int ls), .val (.int w0), .val (.int w1), .val (.int w2), .val (.int w3), .val (.double (4652218415073722368 : UInt64)), .second, .val (.ref b54), .val (.ref b59), .val (.long (((((ls.toInt64) * (1024 : Int64)) + (w1.toInt64)) + ((2 : Int64) * (w2.toInt64))) + ((3 : Int64) * (w3.toInt64)))), .second, .val (.double (Jvm.FP.ddiv (Jvm.FP.l2d (((((ls.toInt64) * (1024 : Int64)) + (w1.toInt64)) + ((2 : Int64) * (w2.toInt64))) + ((3 : Int64) * (w3.toInt64)))) (4652218415073722368 : UInt64))), .second] [(.ref b59)])) rfl (by rw [hml]; rfl) (Steps.refl _) (argsL := []) (rest := []) (lenOf pd_66659 rfl) rfl (by show 2 * 0 + _ ≤ _; exact Nat.le_of_eq rfl) (hb hby at_346) (fun _ _ => ⟨rfl, rfl, (by decide : 2 + 0 ≤ _), (by decide : 6 + 0 ≤ _)⟩)
    dsimp only [Pt.U, Pt.locs, Pt.cells, Pt.slots] at X67 l67 y67 z67 st67 hQ67
    subst l67 y67 z67
    obtain ⟨rr_67, rfl, N67q, K67c, G67_0⟩ := hQ67
    have N67 := Fr.app N64 N67q
    obtain ⟨fs, hr, hrun, hended, hW, hsame⟩ := X67.leave (v := some (.int (1 : Int32))) (fun h => by rw [Bd.returns] at h; cases h)
    refine ⟨_, _, pre0 _ ?_, hrun, hended, _, _, rfl, ?_, ⟨_, rfl⟩, hW, hsame.mono (by decide) (by decide)⟩
    · show Steps p.tables e below (s₁.setTop (mkF m 0 #[.val (.int x0), .val (.int x1), .val (.int x2), .val (.int x3), .val (.int x4), .unset, .unset, .unset, .unset, .unset, .unset, .unset, .unset, .unset, .unset, .unset, .unset, .unset, .unset] [])) _
      refine XS.iconst X0.here hx rfl (hb hby at_0) ?_
      show Steps p.tables e below (s₁.setTop (mkF m 1 #[.val (.int x0), .val (.int x1), .val (.int x2), .val (.int x3), .val (.int x4), .unset, .unset, .unset, .unset, .unset, .unset, .unset, .unset, .unset, .unset, .unset, .unset, .unset, .unset] [(.int (1 : Int32))])) _
      refine XS.iloadN X0.here hx rfl (hb hby at_1) rfl ?_
      show Steps p.tables e below (s₁.setTop (mkF m 2 #[.val (.int x0), .val (.int x1), .val (.int x2), .val (.int x3), .val (.int x4), .unset, .unset, .unset, .unset, .unset, .unset, .unset, .unset, .unset, .unset, .unset, .unset, .unset, .unset] [(.int x1), (.int (1 : Int32))])) _
      refine XS.iconst X0.here hx rfl (hb hby at_2) ?_
      show Steps p.tables e below (s₁.setTop (mkF m 3 #[.val (.int x0), .val (.int x1), .val (.int x2), .val (.int x3), .val (.int x4), .unset, .unset, .unset, .unset, .unset, .unset, .unset, .unset, .unset, .unset, .unset, .unset, .unset, .unset] [(.int (3 : Int32)), (.int x1), (.int (1 : Int32))])) _
      refine XS.iand X0.here hx rfl (hb hby at_3) rfl ?_
      show Steps p.tables e below (s₁.setTop (mkF m 4 #[.val (.int x0), .val (.int x1), .val (.int x2), .val (.int x3), .val (.int x4), .unset, .unset, .unset, .unset, .unset, .unset, .unset, .unset, .unset, .unset, .unset, .unset, .unset, .unset] [(.int (x1 &&& (3 : Int32))), (.int (1 : Int32))])) _
      refine XS.iadd X0.here hx rfl (hb hby at_4) rfl ?_
      show Steps p.tables e below (s₁.setTop (mkF m 5 #[.val (.int x0), .val (.int x1), .val (.int x2), .val (.int x3), .val (.int x4), .unset, .unset, .unset, .unset, .unset, .unset, .unset, .unset, .unset, .unset, .unset, .unset, .unset, .unset] [(.int ((1 : Int32) + (x1 &&& (3 : Int32))))])) _
      refine XS.istore X0.here hx rfl (hb hby at_5) rfl (l' := #[.val (.int x0), .val (.int x1), .val (.int x2), .val (.int x3), .val (.int x4), .val (.int ((1 : Int32) + (x1 &&& (3 : Int32)))), .unset, .unset, .unset, .unset, .unset, .unset, .unset, .unset, .unset, .unset, .unset, .unset, .unset]) rfl ?_
      show Steps p.tables e below (s₁.setTop (mkF m 7 #[.val (.int x0), .val (.int x1), .val (.int x2), .val (.int x3), .val (.int x4), .val (.int ((1 : Int32) + (x1 &&& (3 : Int32)))), .unset, .unset, .unset, .unset, .unset, .unset, .unset, .unset, .unset, .unset, .unset, .unset, .unset] [])) _
      refine castTop (g' := (mkF m 7 #[.val (.int x0), .val (.int x1), .val (.int x2), .val (.int x3), .val (.int x4), .val (.int (4 : Int32)), .unset, .unset, .unset, .unset, .unset, .unset, .unset, .unset, .unset, .unset, .unset, .unset, .unset] [])) (by rw [hn4]) ?_
      show Steps p.tables e below (s₁.setTop (mkF m 7 #[.val (.int x0), .val (.int x1), .val (.int x2), .val (.int x3), .val (.int x4), .val (.int (4 : Int32)), .unset, .unset, .unset, .unset, .unset, .unset, .unset, .unset, .unset, .unset, .unset, .unset, .unset] [])) _
      refine XS.iloadN X0.here hx rfl (hb hby at_7) rfl ?_
      show Steps p.tables e below (s₁.setTop (mkF m 8 #[.val (.int x0), .val (.int x1), .val (.int x2), .val (.int x3), .val (.int x4), .val (.int (4 : Int32)), .unset, .unset, .unset, .unset, .unset, .unset, .unset, .unset, .unset, .unset, .unset, .unset, .unset] [(.int x0)])) _
      refine Jvm.Stand.ldcI X0 hx hown (mvT hZ (hw _ (List.mem_of_getElem? (i := 0) rfl))) rfl (hb hby at_8) ?_
      show Steps p.tables e below (s₁.setTop (mkF m 10 #[.val (.int x0), .val (.int x1), .val (.int x2), .val (.int x3), .val (.int x4), .val (.int (4 : Int32)), .unset, .unset, .unset, .unset, .unset, .unset, .unset, .unset, .unset, .unset, .unset, .unset, .unset] [(.int (2147483647 : Int32)), (.int x0)])) _
      refine XS.iand X0.here hx rfl (hb hby at_10) rfl ?_
      show Steps p.tables e below (s₁.setTop (mkF m 11 #[.val (.int x0), .val (.int x1), .val (.int x2), .val (.int x3), .val (.int x4), .val (.int (4 : Int32)), .unset, .unset, .unset, .unset, .unset, .unset, .unset, .unset, .unset, .unset, .unset, .unset, .unset] [(.int (x0 &&& (2147483647 : Int32)))])) _
      refine Jvm.Stand.ldcI X0 hx hown (mvT hZ (hw _ (List.mem_of_getElem? (i := 0) rfl))) rfl (hb hby at_11) ?_
      show Steps p.tables e below (s₁.setTop (mkF m 13 #[.val (.int x0), .val (.int x1), .val (.int x2), .val (.int x3), .val (.int x4), .val (.int (4 : Int32)), .unset, .unset, .unset, .unset, .unset, .unset, .unset, .unset, .unset, .unset, .unset, .unset, .unset] [(.int (2147483647 : Int32)), (.int (x0 &&& (2147483647 : Int32)))])) _
      refine XS.iload X0.here hx rfl (hb hby at_13) rfl ?_
      show Steps p.tables e below (s₁.setTop (mkF m 15 #[.val (.int x0), .val (.int x1), .val (.int x2), .val (.int x3), .val (.int x4), .val (.int (4 : Int32)), .unset, .unset, .unset, .unset, .unset, .unset, .unset, .unset, .unset, .unset, .unset, .unset, .unset] [(.int (4 : Int32)), (.int (2147483647 : Int32)), (.int (x0 &&& (2147483647 : Int32)))])) _
      refine XS.iconst X0.here hx rfl (hb hby at_15) ?_
      show Steps p.tables e below (s₁.setTop (mkF m 16 #[.val (.int x0), .val (.int x1), .val (.int x2), .val (.int x3), .val (.int x4), .val (.int (4 : Int32)), .unset, .unset, .unset, .unset, .unset, .unset, .unset, .unset, .unset, .unset, .unset, .unset, .unset] [(.int (1 : Int32)), (.int (4 : Int32)), (.int (2147483647 : Int32)), (.int (x0 &&& (2147483647 : Int32)))])) _
      refine XS.isub X0.here hx rfl (hb hby at_16) rfl ?_
      show Steps p.tables e below (s₁.setTop (mkF m 17 #[.val (.int x0), .val (.int x1), .val (.int x2), .val (.int x3), .val (.int x4), .val (.int (4 : Int32)), .unset, .unset, .unset, .unset, .unset, .unset, .unset, .unset, .unset, .unset, .unset, .unset, .unset] [(.int ((4 : Int32) - (1 : Int32))), (.int (2147483647 : Int32)), (.int (x0 &&& (2147483647 : Int32)))])) _
      refine XS.isub X0.here hx rfl (hb hby at_17) rfl ?_
      show Steps p.tables e below (s₁.setTop (mkF m 18 #[.val (.int x0), .val (.int x1), .val (.int x2), .val (.int x3), .val (.int x4), .val (.int (4 : Int32)), .unset, .unset, .unset, .unset, .unset, .unset, .unset, .unset, .unset, .unset, .unset, .unset, .unset] [(.int ((2147483647 : Int32) - ((4 : Int32) - (1 : Int32)))), (.int (x0 &&& (2147483647 : Int32)))])) _
      refine st53 _ ?_
      show Steps p.tables e below (T53.setTop (mkF m 21 #[.val (.int x0), .val (.int x1), .val (.int x2), .val (.int x3), .val (.int x4), .val (.int (4 : Int32)), .unset, .unset, .unset, .unset, .unset, .unset, .unset, .unset, .unset, .unset, .unset, .unset, .unset] [(.int (own_minI (x0 &&& (2147483647 : Int32)) ((2147483647 : Int32) - ((4 : Int32) - (1 : Int32)))))])) _
      refine XS.istore X53.here hx rfl (hb hby at_21) rfl (l' := #[.val (.int x0), .val (.int x1), .val (.int x2), .val (.int x3), .val (.int x4), .val (.int (4 : Int32)), .val (.int (own_minI (x0 &&& (2147483647 : Int32)) ((2147483647 : Int32) - ((4 : Int32) - (1 : Int32))))), .unset, .unset, .unset, .unset, .unset, .unset, .unset, .unset, .unset, .unset, .unset, .unset]) rfl ?_
      show Steps p.tables e below (T53.setTop (mkF m 23 #[.val (.int x0), .val (.int x1), .val (.int x2), .val (.int x3), .val (.int x4), .val (.int (4 : Int32)), .val (.int (own_minI (x0 &&& (2147483647 : Int32)) ((2147483647 : Int32) - ((4 : Int32) - (1 : Int32))))), .unset, .unset, .unset, .unset, .unset, .unset, .unset, .unset, .unset, .unset, .unset, .unset] [])) _
      refine castTop (g' := (mkF m 23 #[.val (.int x0), .val (.int x1), .val (.int x2), .val (.int x3), .val (.int x4), .val (.int (4 : Int32)), .val (.int ls), .unset, .unset, .unset, .unset, .unset, .unset, .unset, .unset, .unset, .unset, .unset, .unset] [])) (by rw [hls]) ?_
      show Steps p.tables e below (T53.setTop (mkF m 23 #[.val (.int x0), .val (.int x1), .val (.int x2), .val (.int x3), .val (.int x4), .val (.int (4 : Int32)), .val (.int ls), .unset, .unset, .unset, .unset, .unset, .unset, .unset, .unset, .unset, .unset, .unset, .unset] [])) _
      refine XS.iload X53.here hx rfl (hb hby at_23) rfl ?_
      show Steps p.tables e below (T53.setTop (mkF m 25 #[.val (.int x0), .val (.int x1), .val (.int x2), .val (.int x3), .val (.int x4), .val (.int (4 : Int32)), .val (.int ls), .unset, .unset, .unset, .unset, .unset, .unset, .unset, .unset, .unset, .unset, .unset, .unset] [(.int (4 : Int32))])) _
      refine XS.iconst X53.here hx rfl (hb hby at_25) ?_
      show Steps p.tables e below (T53.setTop (mkF m 26 #[.val (.int x0), .val (.int x1), .val (.int x2), .val (.int x3), .val (.int x4), .val (.int (4 : Int32)), .val (.int ls), .unset, .unset, .unset, .unset, .unset, .unset, .unset, .unset, .unset, .unset, .unset, .unset] [(.int (1 : Int32)), (.int (4 : Int32))])) _
      refine XS.icmpYes X53.here hx rfl (pc0 := 26) (pc' := 35) rfl (hb hby at_26) rfl (feq (by decide : ¬ ((4 : Int32) = (1 : Int32)))).2 (by decide) (by decide) ?_
      show Steps p.tables e below (T53.setTop (mkF m 35 #[.val (.int x0), .val (.int x1), .val (.int x2), .val (.int x3), .val (.int x4), .val (.int (4 : Int32)), .val (.int ls), .unset, .unset, .unset, .unset, .unset, .unset, .unset, .unset, .unset, .unset, .unset, .unset] [])) _
      refine XS.iloadN X53.here hx rfl (hb hby at_35) rfl ?_
      show Steps p.tables e below (T53.setTop (mkF m 36 #[.val (.int x0), .val (.int x1), .val (.int x2), .val (.int x3), .val (.int x4), .val (.int (4 : Int32)), .val (.int ls), .unset, .unset, .unset, .unset, .unset, .unset, .unset, .unset, .unset, .unset, .unset, .unset] [(.int x2)])) _
      refine Jvm.Stand.ldcI X53 hx hown (mvT hZ (hw _ (List.mem_of_getElem? (i := 0) rfl))) rfl (hb hby at_36) ?_
      show Steps p.tables e below (T53.setTop (mkF m 38 #[.val (.int x0), .val (.int x1), .val (.int x2), .val (.int x3), .val (.int x4), .val (.int (4 : Int32)), .val (.int ls), .unset, .unset, .unset, .unset, .unset, .unset, .unset, .unset, .unset, .unset, .unset, .unset] [(.int (2147483647 : Int32)), (.int x2)])) _
      refine XS.iand X53.here hx rfl (hb hby at_38) rfl ?_
      show Steps p.tables e below (T53.setTop (mkF m 39 #[.val (.int x0), .val (.int x1), .val (.int x2), .val (.int x3), .val (.int x4), .val (.int (4 : Int32)), .val (.int ls), .unset, .unset, .unset, .unset, .unset, .unset, .unset, .unset, .unset, .unset, .unset, .unset] [(.int (x2 &&& (2147483647 : Int32)))])) _
      refine XS.sipush X53.here hx rfl (hb hby at_39) ?_
      show Steps p.tables e below (T53.setTop (mkF m 42 #[.val (.int x0), .val (.int x1), .val (.int x2), .val (.int x3), .val (.int x4), .val (.int (4 : Int32)), .val (.int ls), .unset, .unset, .unset, .unset, .unset, .unset, .unset, .unset, .unset, .unset, .unset, .unset] [(.int (1025 : Int32)), (.int (x2 &&& (2147483647 : Int32)))])) _
      refine iremM X53 hx rfl (hb hby at_42) rfl (by decide) ?_
      show Steps p.tables e below (T53.setTop (mkF m 43 #[.val (.int x0), .val (.int x1), .val (.int x2), .val (.int x3), .val (.int x4), .val (.int (4 : Int32)), .val (.int ls), .unset, .unset, .unset, .unset, .unset, .unset, .unset, .unset, .unset, .unset, .unset, .unset] [(.int ((x2 &&& (2147483647 : Int32)) % (1025 : Int32)))])) _
      refine XS.istore X53.here hx rfl (hb hby at_43) rfl (l' := #[.val (.int x0), .val (.int x1), .val (.int x2), .val (.int x3), .val (.int x4), .val (.int (4 : Int32)), .val (.int ls), .val (.int ((x2 &&& (2147483647 : Int32)) % (1025 : Int32))), .unset, .unset, .unset, .unset, .unset, .unset, .unset, .unset, .unset, .unset, .unset]) rfl ?_
      show Steps p.tables e below (T53.setTop (mkF m 45 #[.val (.int x0), .val (.int x1), .val (.int x2), .val (.int x3), .val (.int x4), .val (.int (4 : Int32)), .val (.int ls), .val (.int ((x2 &&& (2147483647 : Int32)) % (1025 : Int32))), .unset, .unset, .unset, .unset, .unset, .unset, .unset, .unset, .unset, .unset, .unset] [])) _
      refine castTop (g' := (mkF m 45 #[.val (.int x0), .val (.int x1), .val (.int x2), .val (.int x3), .val (.int x4), .val (.int (4 : Int32)), .val (.int ls), .val (.int w0), .unset, .unset, .unset, .unset, .unset, .unset, .unset, .unset, .unset, .unset, .unset] [])) (by rw [hw0]) ?_
      show Steps p.tables e below (T53.setTop (mkF m 45 #[.val (.int x0), .val (.int x1), .val (.int x2), .val (.int x3), .val (.int x4), .val (.int (4 : Int32)), .val (.int ls), .val (.int w0), .unset, .unset, .unset, .unset, .unset, .unset, .unset, .unset, .unset, .unset, .unset] [])) _
      refine XS.iload X53.here hx rfl (hb hby at_45) rfl ?_
      show Steps p.tables e below (T53.setTop (mkF m 47 #[.val (.int x0), .val (.int x1), .val (.int x2), .val (.int x3), .val (.int x4), .val (.int (4 : Int32)), .val (.int ls), .val (.int w0), .unset, .unset, .unset, .unset, .unset, .unset, .unset, .unset, .unset, .unset, .unset] [(.int (4 : Int32))])) _
      refine XS.iconst X53.here hx rfl (hb hby at_47) ?_
      show Steps p.tables e below (T53.setTop (mkF m 48 #[.val (.int x0), .val (.int x1), .val (.int x2), .val (.int x3), .val (.int x4), .val (.int (4 : Int32)), .val (.int ls), .val (.int w0), .unset, .unset, .unset, .unset, .unset, .unset, .unset, .unset, .unset, .unset, .unset] [(.int (2 : Int32)), (.int (4 : Int32))])) _
      refine XS.icmpYes X53.here hx rfl (pc0 := 48) (pc' := 60) rfl (hb hby at_48) rfl (feq (by decide : ¬ ((4 : Int32) = (2 : Int32)))).2 (by decide) (by decide) ?_
      show Steps p.tables e below (T53.setTop (mkF m 60 #[.val (.int x0), .val (.int x1), .val (.int x2), .val (.int x3), .val (.int x4), .val (.int (4 : Int32)), .val (.int ls), .val (.int w0), .unset, .unset, .unset, .unset, .unset, .unset, .unset, .unset, .unset, .unset, .unset] [])) _
      refine XS.iload X53.here hx rfl (hb hby at_60) rfl ?_
      show Steps p.tables e below (T53.setTop (mkF m 62 #[.val (.int x0), .val (.int x1), .val (.int x2), .val (.int x3), .val (.int x4), .val (.int (4 : Int32)), .val (.int ls), .val (.int w0), .unset, .unset, .unset, .unset, .unset, .unset, .unset, .unset, .unset, .unset, .unset] [(.int (4 : Int32))])) _
      refine XS.iconst X53.here hx rfl (hb hby at_62) ?_
      show Steps p.tables e below (T53.setTop (mkF m 63 #[.val (.int x0), .val (.int x1), .val (.int x2), .val (.int x3), .val (.int x4), .val (.int (4 : Int32)), .val (.int ls), .val (.int w0), .unset, .unset, .unset, .unset, .unset, .unset, .unset, .unset, .unset, .unset, .unset] [(.int (2 : Int32)), (.int (4 : Int32))])) _
      refine XS.icmpNo X53.here hx rfl (hb hby at_63) rfl (tlt (by decide : (2 : Int32) < (4 : Int32))).2.2.2 ?_
      show Steps p.tables e below (T53.setTop (mkF m 66 #[.val (.int x0), .val (.int x1), .val (.int x2), .val (.int x3), .val (.int x4), .val (.int (4 : Int32)), .val (.int ls), .val (.int w0), .unset, .unset, .unset, .unset, .unset, .unset, .unset, .unset, .unset, .unset, .unset] [])) _
      refine XS.iloadN X53.here hx rfl (hb hby at_66) rfl ?_
      show Steps p.tables e below (T53.setTop (mkF m 67 #[.val (.int x0), .val (.int x1), .val (.int x2), .val (.int x3), .val (.int x4), .val (.int (4 : Int32)), .val (.int ls), .val (.int w0), .unset, .unset, .unset, .unset, .unset, .unset, .unset, .unset, .unset, .unset, .unset] [(.int x3)])) _
      refine Jvm.Stand.ldcI X53 hx hown (mvT hZ (hw _ (List.mem_of_getElem? (i := 0) rfl))) rfl (hb hby at_67) ?_
      show Steps p.tables e below (T53.setTop (mkF m 69 #[.val (.int x0), .val (.int x1), .val (.int x2), .val (.int x3), .val (.int x4), .val (.int (4 : Int32)), .val (.int ls), .val (.int w0), .unset, .unset, .unset, .unset, .unset, .unset, .unset, .unset, .unset, .unset, .unset] [(.int (2147483647 : Int32)), (.int x3)])) _
      refine XS.iand X53.here hx rfl (hb hby at_69) rfl ?_
      show Steps p.tables e below (T53.setTop (mkF m 70 #[.val (.int x0), .val (.int x1), .val (.int x2), .val (.int x3), .val (.int x4), .val (.int (4 : Int32)), .val (.int ls), .val (.int w0), .unset, .unset, .unset, .unset, .unset, .unset, .unset, .unset, .unset, .unset, .unset] [(.int (x3 &&& (2147483647 : Int32)))])) _
      refine XS.sipush X53.here hx rfl (hb hby at_70) ?_
      show Steps p.tables e below (T53.setTop (mkF m 73 #[.val (.int x0), .val (.int x1), .val (.int x2), .val (.int x3), .val (.int x4), .val (.int (4 : Int32)), .val (.int ls), .val (.int w0), .unset, .unset, .unset, .unset, .unset, .unset, .unset, .unset, .unset, .unset, .unset] [(.int (1025 : Int32)), (.int (x3 &&& (2147483647 : Int32)))])) _
      refine XS.iload X53.here hx rfl (hb hby at_73) rfl ?_
      show Steps p.tables e below (T53.setTop (mkF m 75 #[.val (.int x0), .val (.int x1), .val (.int x2), .val (.int x3), .val (.int x4), .val (.int (4 : Int32)), .val (.int ls), .val (.int w0), .unset, .unset, .unset, .unset, .unset, .unset, .unset, .unset, .unset, .unset, .unset] [(.int w0), (.int (1025 : Int32)), (.int (x3 &&& (2147483647 : Int32)))])) _
      refine XS.isub X53.here hx rfl (hb hby at_75) rfl ?_
      show Steps p.tables e below (T53.setTop (mkF m 76 #[.val (.int x0), .val (.int x1), .val (.int x2), .val (.int x3), .val (.int x4), .val (.int (4 : Int32)), .val (.int ls), .val (.int w0), .unset, .unset, .unset, .unset, .unset, .unset, .unset, .unset, .unset, .unset, .unset] [(.int ((1025 : Int32) - w0)), (.int (x3 &&& (2147483647 : Int32)))])) _
      refine iremM X53 hx rfl (hb hby at_76) rfl (own_nz (own_sub (a := 1025) (by decide) ew0 (by omega)) (by omega)) ?_
      show Steps p.tables e below (T53.setTop (mkF m 77 #[.val (.int x0), .val (.int x1), .val (.int x2), .val (.int x3), .val (.int x4), .val (.int (4 : Int32)), .val (.int ls), .val (.int w0), .unset, .unset, .unset, .unset, .unset, .unset, .unset, .unset, .unset, .unset, .unset] [(.int ((x3 &&& (2147483647 : Int32)) % ((1025 : Int32) - w0)))])) _
      refine XS.goto X53.here hx rfl (pc0 := 77) (pc' := 81) rfl (hb hby at_77) (by decide) (by decide) ?_
      show Steps p.tables e below (T53.setTop (mkF m 81 #[.val (.int x0), .val (.int x1), .val (.int x2), .val (.int x3), .val (.int x4), .val (.int (4 : Int32)), .val (.int ls), .val (.int w0), .unset, .unset, .unset, .unset, .unset, .unset, .unset, .unset, .unset, .unset, .unset] [(.int ((x3 &&& (2147483647 : Int32)) % ((1025 : Int32) - w0)))])) _
      refine XS.istore X53.here hx rfl (hb hby at_81) rfl (l' := #[.val (.int x0), .val (.int x1), .val (.int x2), .val (.int x3), .val (.int x4), .val (.int (4 : Int32)), .val (.int ls), .val (.int w0), .val (.int ((x3 &&& (2147483647 : Int32)) % ((1025 : Int32) - w0))), .unset, .unset, .unset, .unset, .unset, .unset, .unset, .unset, .unset, .unset]) rfl ?_
      show Steps p.tables e below (T53.setTop (mkF m 83 #[.val (.int x0), .val (.int x1), .val (.int x2), .val (.int x3), .val (.int x4), .val (.int (4 : Int32)), .val (.int ls), .val (.int w0), .val (.int ((x3 &&& (2147483647 : Int32)) % ((1025 : Int32) - w0))), .unset, .unset, .unset, .unset, .unset, .unset, .unset, .unset, .unset, .unset] [])) _
      refine castTop (g' := (mkF m 83 #[.val (.int x0), .val (.int x1), .val (.int x2), .val (.int x3), .val (.int x4), .val (.int (4 : Int32)), .val (.int ls), .val (.int w0), .val (.int w1), .unset, .unset, .unset, .unset, .unset, .unset, .unset, .unset, .unset, .unset] [])) (by rw [hw1]) ?_
      show Steps p.tables e below (T53.setTop (mkF m 83 #[.val (.int x0), .val (.int x1), .val (.int x2), .val (.int x3), .val (.int x4), .val (.int (4 : Int32)), .val (.int ls), .val (.int w0), .val (.int w1), .unset, .unset, .unset, .unset, .unset, .unset, .unset, .unset, .unset, .unset] [])) _
      refine XS.iload X53.here hx rfl (hb hby at_83) rfl ?_
      show Steps p.tables e below (T53.setTop (mkF m 85 #[.val (.int x0), .val (.int x1), .val (.int x2), .val (.int x3), .val (.int x4), .val (.int (4 : Int32)), .val (.int ls), .val (.int w0), .val (.int w1), .unset, .unset, .unset, .unset, .unset, .unset, .unset, .unset, .unset, .unset] [(.int (4 : Int32))])) _
      refine XS.iconst X53.here hx rfl (hb hby at_85) ?_
      show Steps p.tables e below (T53.setTop (mkF m 86 #[.val (.int x0), .val (.int x1), .val (.int x2), .val (.int x3), .val (.int x4), .val (.int (4 : Int32)), .val (.int ls), .val (.int w0), .val (.int w1), .unset, .unset, .unset, .unset, .unset, .unset, .unset, .unset, .unset, .unset] [(.int (3 : Int32)), (.int (4 : Int32))])) _
      refine XS.icmpYes X53.here hx rfl (pc0 := 86) (pc' := 101) rfl (hb hby at_86) rfl (feq (by decide : ¬ ((4 : Int32) = (3 : Int32)))).2 (by decide) (by decide) ?_
      show Steps p.tables e below (T53.setTop (mkF m 101 #[.val (.int x0), .val (.int x1), .val (.int x2), .val (.int x3), .val (.int x4), .val (.int (4 : Int32)), .val (.int ls), .val (.int w0), .val (.int w1), .unset, .unset, .unset, .unset, .unset, .unset, .unset, .unset, .unset, .unset] [])) _
      refine XS.iload X53.here hx rfl (hb hby at_101) rfl ?_
      show Steps p.tables e below (T53.setTop (mkF m 103 #[.val (.int x0), .val (.int x1), .val (.int x2), .val (.int x3), .val (.int x4), .val (.int (4 : Int32)), .val (.int ls), .val (.int w0), .val (.int w1), .unset, .unset, .unset, .unset, .unset, .unset, .unset, .unset, .unset, .unset] [(.int (4 : Int32))])) _
      refine XS.iconst X53.here hx rfl (hb hby at_103) ?_
      show Steps p.tables e below (T53.setTop (mkF m 104 #[.val (.int x0), .val (.int x1), .val (.int x2), .val (.int x3), .val (.int x4), .val (.int (4 : Int32)), .val (.int ls), .val (.int w0), .val (.int w1), .unset, .unset, .unset, .unset, .unset, .unset, .unset, .unset, .unset, .unset] [(.int (3 : Int32)), (.int (4 : Int32))])) _
      refine XS.icmpNo X53.here hx rfl (hb hby at_104) rfl (tlt (by decide : (3 : Int32) < (4 : Int32))).2.2.2 ?_
      show Steps p.tables e below (T53.setTop (mkF m 107 #[.val (.int x0), .val (.int x1), .val (.int x2), .val (.int x3), .val (.int x4), .val (.int (4 : Int32)), .val (.int ls), .val (.int w0), .val (.int w1), .unset, .unset, .unset, .unset, .unset, .unset, .unset, .unset, .unset, .unset] [])) _
      refine XS.iload X53.here hx rfl (hb hby at_107) rfl ?_
      show Steps p.tables e below (T53.setTop (mkF m 109 #[.val (.int x0), .val (.int x1), .val (.int x2), .val (.int x3), .val (.int x4), .val (.int (4 : Int32)), .val (.int ls), .val (.int w0), .val (.int w1), .unset, .unset, .unset, .unset, .unset, .unset, .unset, .unset, .unset, .unset] [(.int x4)])) _
      refine Jvm.Stand.ldcI X53 hx hown (mvT hZ (hw _ (List.mem_of_getElem? (i := 0) rfl))) rfl (hb hby at_109) ?_
      show Steps p.tables e below (T53.setTop (mkF m 111 #[.val (.int x0), .val (.int x1), .val (.int x2), .val (.int x3), .val (.int x4), .val (.int (4 : Int32)), .val (.int ls), .val (.int w0), .val (.int w1), .unset, .unset, .unset, .unset, .unset, .unset, .unset, .unset, .unset, .unset] [(.int (2147483647 : Int32)), (.int x4)])) _
      refine XS.iand X53.here hx rfl (hb hby at_111) rfl ?_
      show Steps p.tables e below (T53.setTop (mkF m 112 #[.val (.int x0), .val (.int x1), .val (.int x2), .val (.int x3), .val (.int x4), .val (.int (4 : Int32)), .val (.int ls), .val (.int w0), .val (.int w1), .unset, .unset, .unset, .unset, .unset, .unset, .unset, .unset, .unset, .unset] [(.int (x4 &&& (2147483647 : Int32)))])) _
      refine XS.sipush X53.here hx rfl (hb hby at_112) ?_
      show Steps p.tables e below (T53.setTop (mkF m 115 #[.val (.int x0), .val (.int x1), .val (.int x2), .val (.int x3), .val (.int x4), .val (.int (4 : Int32)), .val (.int ls), .val (.int w0), .val (.int w1), .unset, .unset, .unset, .unset, .unset, .unset, .unset, .unset, .unset, .unset] [(.int (1025 : Int32)), (.int (x4 &&& (2147483647 : Int32)))])) _
      refine XS.iload X53.here hx rfl (hb hby at_115) rfl ?_
      show Steps p.tables e below (T53.setTop (mkF m 117 #[.val (.int x0), .val (.int x1), .val (.int x2), .val (.int x3), .val (.int x4), .val (.int (4 : Int32)), .val (.int ls), .val (.int w0), .val (.int w1), .unset, .unset, .unset, .unset, .unset, .unset, .unset, .unset, .unset, .unset] [(.int w0), (.int (1025 : Int32)), (.int (x4 &&& (2147483647 : Int32)))])) _
      refine XS.isub X53.here hx rfl (hb hby at_117) rfl ?_
      show Steps p.tables e below (T53.setTop (mkF m 118 #[.val (.int x0), .val (.int x1), .val (.int x2), .val (.int x3), .val (.int x4), .val (.int (4 : Int32)), .val (.int ls), .val (.int w0), .val (.int w1), .unset, .unset, .unset, .unset, .unset, .unset, .unset, .unset, .unset, .unset] [(.int ((1025 : Int32) - w0)), (.int (x4 &&& (2147483647 : Int32)))])) _
      refine XS.iload X53.here hx rfl (hb hby at_118) rfl ?_
      show Steps p.tables e below (T53.setTop (mkF m 120 #[.val (.int x0), .val (.int x1), .val (.int x2), .val (.int x3), .val (.int x4), .val (.int (4 : Int32)), .val (.int ls), .val (.int w0), .val (.int w1), .unset, .unset, .unset, .unset, .unset, .unset, .unset, .unset, .unset, .unset] [(.int w1), (.int ((1025 : Int32) - w0)), (.int (x4 &&& (2147483647 : Int32)))])) _
      refine XS.isub X53.here hx rfl (hb hby at_120) rfl ?_
      show Steps p.tables e below (T53.setTop (mkF m 121 #[.val (.int x0), .val (.int x1), .val (.int x2), .val (.int x3), .val (.int x4), .val (.int (4 : Int32)), .val (.int ls), .val (.int w0), .val (.int w1), .unset, .unset, .unset, .unset, .unset, .unset, .unset, .unset, .unset, .unset] [(.int (((1025 : Int32) - w0) - w1)), (.int (x4 &&& (2147483647 : Int32)))])) _
      refine iremM X53 hx rfl (hb hby at_121) rfl (own_nz (own_sub (own_sub (a := 1025) (by decide) ew0 (by omega)) ew1 (by omega)) (by omega)) ?_
      show Steps p.tables e below (T53.setTop (mkF m 122 #[.val (.int x0), .val (.int x1), .val (.int x2), .val (.int x3), .val (.int x4), .val (.int (4 : Int32)), .val (.int ls), .val (.int w0), .val (.int w1), .unset, .unset, .unset, .unset, .unset, .unset, .unset, .unset, .unset, .unset] [(.int ((x4 &&& (2147483647 : Int32)) % (((1025 : Int32) - w0) - w1)))])) _
      refine XS.goto X53.here hx rfl (pc0 := 122) (pc' := 126) rfl (hb hby at_122) (by decide) (by decide) ?_
      show Steps p.tables e below (T53.setTop (mkF m 126 #[.val (.int x0), .val (.int x1), .val (.int x2), .val (.int x3), .val (.int x4), .val (.int (4 : Int32)), .val (.int ls), .val (.int w0), .val (.int w1), .unset, .unset, .unset, .unset, .unset, .unset, .unset, .unset, .unset, .unset] [(.int ((x4 &&& (2147483647 : Int32)) % (((1025 : Int32) - w0) - w1)))])) _
      refine XS.istore X53.here hx rfl (hb hby at_126) rfl (l' := #[.val (.int x0), .val (.int x1), .val (.int x2), .val (.int x3), .val (.int x4), .val (.int (4 : Int32)), .val (.int ls), .val (.int w0), .val (.int w1), .val (.int ((x4 &&& (2147483647 : Int32)) % (((1025 : Int32) - w0) - w1))), .unset, .unset, .unset, .unset, .unset, .unset, .unset, .unset, .unset]) rfl ?_
      show Steps p.tables e below (T53.setTop (mkF m 128 #[.val (.int x0), .val (.int x1), .val (.int x2), .val (.int x3), .val (.int x4), .val (.int (4 : Int32)), .val (.int ls), .val (.int w0), .val (.int w1), .val (.int ((x4 &&& (2147483647 : Int32)) % (((1025 : Int32) - w0) - w1))), .unset, .unset, .unset, .unset, .unset, .unset, .unset, .unset, .unset] [])) _
      refine castTop (g' := (mkF m 128 #[.val (.int x0), .val (.int x1), .val (.int x2), .val (.int x3), .val (.int x4), .val (.int (4 : Int32)), .val (.int ls), .val (.int w0), .val (.int w1), .val (.int w2), .unset, .unset, .unset, .unset, .unset, .unset, .unset, .unset, .unset] [])) (by rw [hw2]) ?_
      show Steps p.tables e below (T53.setTop (mkF m 128 #[.val (.int x0), .val (.int x1), .val (.int x2), .val (.int x3), .val (.int x4), .val (.int (4 : Int32)), .val (.int ls), .val (.int w0), .val (.int w1), .val (.int w2), .unset, .unset, .unset, .unset, .unset, .unset, .unset, .unset, .unset] [])) _
      refine XS.iload X53.here hx rfl (hb hby at_128) rfl ?_
      show Steps p.tables e below (T53.setTop (mkF m 130 #[.val (.int x0), .val (.int x1), .val (.int x2), .val (.int x3), .val (.int x4), .val (.int (4 : Int32)), .val (.int ls), .val (.int w0), .val (.int w1), .val (.int w2), .unset, .unset, .unset, .unset, .unset, .unset, .unset, .unset, .unset] [(.int (4 : Int32))])) _
      refine XS.iconst X53.here hx rfl (hb hby at_130) ?_
      show Steps p.tables e below (T53.setTop (mkF m 131 #[.val (.int x0), .val (.int x1), .val (.int x2), .val (.int x3), .val (.int x4), .val (.int (4 : Int32)), .val (.int ls), .val (.int w0), .val (.int w1), .val (.int w2), .unset, .unset, .unset, .unset, .unset, .unset, .unset, .unset, .unset] [(.int (4 : Int32)), (.int (4 : Int32))])) _
      refine XS.icmpNo X53.here hx rfl (hb hby at_131) rfl (teq (rfl : (4 : Int32) = (4 : Int32))).2 ?_
      show Steps p.tables e below (T53.setTop (mkF m 134 #[.val (.int x0), .val (.int x1), .val (.int x2), .val (.int x3), .val (.int x4), .val (.int (4 : Int32)), .val (.int ls), .val (.int w0), .val (.int w1), .val (.int w2), .unset, .unset, .unset, .unset, .unset, .unset, .unset, .unset, .unset] [])) _
      refine XS.sipush X53.here hx rfl (hb hby at_134) ?_
      show Steps p.tables e below (T53.setTop (mkF m 137 #[.val (.int x0), .val (.int x1), .val (.int x2), .val (.int x3), .val (.int x4), .val (.int (4 : Int32)), .val (.int ls), .val (.int w0), .val (.int w1), .val (.int w2), .unset, .unset, .unset, .unset, .unset, .unset, .unset, .unset, .unset] [(.int (1024 : Int32))])) _
      refine XS.iload X53.here hx rfl (hb hby at_137) rfl ?_
      show Steps p.tables e below (T53.setTop (mkF m 139 #[.val (.int x0), .val (.int x1), .val (.int x2), .val (.int x3), .val (.int x4), .val (.int (4 : Int32)), .val (.int ls), .val (.int w0), .val (.int w1), .val (.int w2), .unset, .unset, .unset, .unset, .unset, .unset, .unset, .unset, .unset] [(.int w0), (.int (1024 : Int32))])) _
      refine XS.isub X53.here hx rfl (hb hby at_139) rfl ?_
      show Steps p.tables e below (T53.setTop (mkF m 140 #[.val (.int x0), .val (.int x1), .val (.int x2), .val (.int x3), .val (.int x4), .val (.int (4 : Int32)), .val (.int ls), .val (.int w0), .val (.int w1), .val (.int w2), .unset, .unset, .unset, .unset, .unset, .unset, .unset, .unset, .unset] [(.int ((1024 : Int32) - w0))])) _
      refine XS.iload X53.here hx rfl (hb hby at_140) rfl ?_
      show Steps p.tables e below (T53.setTop (mkF m 142 #[.val (.int x0), .val (.int x1), .val (.int x2), .val (.int x3), .val (.int x4), .val (.int (4 : Int32)), .val (.int ls), .val (.int w0), .val (.int w1), .val (.int w2), .unset, .unset, .unset, .unset, .unset, .unset, .unset, .unset, .unset] [(.int w1), (.int ((1024 : Int32) - w0))])) _
      refine XS.isub X53.here hx rfl (hb hby at_142) rfl ?_
      show Steps p.tables e below (T53.setTop (mkF m 143 #[.val (.int x0), .val (.int x1), .val (.int x2), .val (.int x3), .val (.int x4), .val (.int (4 : Int32)), .val (.int ls), .val (.int w0), .val (.int w1), .val (.int w2), .unset, .unset, .unset, .unset, .unset, .unset, .unset, .unset, .unset] [(.int (((1024 : Int32) - w0) - w1))])) _
      refine XS.iload X53.here hx rfl (hb hby at_143) rfl ?_
      show Steps p.tables e below (T53.setTop (mkF m 145 #[.val (.int x0), .val (.int x1), .val (.int x2), .val (.int x3), .val (.int x4), .val (.int (4 : Int32)), .val (.int ls), .val (.int w0), .val (.int w1), .val (.int w2), .unset, .unset, .unset, .unset, .unset, .unset, .unset, .unset, .unset] [(.int w2), (.int (((1024 : Int32) - w0) - w1))])) _
      refine XS.isub X53.here hx rfl (hb hby at_145) rfl ?_
      show Steps p.tables e below (T53.setTop (mkF m 146 #[.val (.int x0), .val (.int x1), .val (.int x2), .val (.int x3), .val (.int x4), .val (.int (4 : Int32)), .val (.int ls), .val (.int w0), .val (.int w1), .val (.int w2), .unset, .unset, .unset, .unset, .unset, .unset, .unset, .unset, .unset] [(.int ((((1024 : Int32) - w0) - w1) - w2))])) _
      refine XS.goto X53.here hx rfl (pc0 := 146) (pc' := 150) rfl (hb hby at_146) (by decide) (by decide) ?_
      show Steps p.tables e below (T53.setTop (mkF m 150 #[.val (.int x0), .val (.int x1), .val (.int x2), .val (.int x3), .val (.int x4), .val (.int (4 : Int32)), .val (.int ls), .val (.int w0), .val (.int w1), .val (.int w2), .unset, .unset, .unset, .unset, .unset, .unset, .unset, .unset, .unset] [(.int ((((1024 : Int32) - w0) - w1) - w2))])) _
      refine XS.istore X53.here hx rfl (hb hby at_150) rfl (l' := #[.val (.int x0), .val (.int x1), .val (.int x2), .val (.int x3), .val (.int x4), .val (.int (4 : Int32)), .val (.int ls), .val (.int w0), .val (.int w1), .val (.int w2), .val (.int ((((1024 : Int32) - w0) - w1) - w2)), .unset, .unset, .unset, .unset, .unset, .unset, .unset, .unset]) rfl ?_
      show Steps p.tables e below (T53.setTop (mkF m 152 #[.val (.int x0), .val (.int x1), .val (.int x2), .val (.int x3), .val (.int x4), .val (.int (4 : Int32)), .val (.int ls), .val (.int w0), .val (.int w1), .val (.int w2), .val (.int ((((1024 : Int32) - w0) - w1) - w2)), .unset, .unset, .unset, .unset, .unset, .unset, .unset, .unset] [])) _
      refine castTop (g' := (mkF m 152 #[.val (.int x0), .val (.int x1), .val (.int x2), .val (.int x3), .val (.int x4), .val (.int (4 : Int32)), .val (.int ls), .val (.int w0), .val (.int w1), .val (.int w2), .val (.int w3), .unset, .unset, .unset, .unset, .unset, .unset, .unset, .unset] [])) (by rw [hw3]) ?_
      show Steps p.tables e below (T53.setTop (mkF m 152 #[.val (.int x0), .val (.int x1), .val (.int x2), .val (.int x3), .val (.int x4), .val (.int (4 : Int32)), .val (.int ls), .val (.int w0), .val (.int w1), .val (.int w2), .val (.int w3), .unset, .unset, .unset, .unset, .unset, .unset, .unset, .unset] [])) _
      refine X53.ldc2DoubleC hx hown (mvT hZ (hw _ (List.mem_of_getElem? (i := 5) rfl))) (g := (mkF m 152 #[.val (.int x0), .val (.int x1), .val (.int x2), .val (.int x3), .val (.int x4), .val (.int (4 : Int32)), .val (.int ls), .val (.int w0), .val (.int w1), .val (.int w2), .val (.int w3), .unset, .unset, .unset, .unset, .unset, .unset, .unset, .unset] [])) rfl (hb hby at_152) _ ?_
      show Steps p.tables e below (T53.setTop (mkF m 155 #[.val (.int x0), .val (.int x1), .val (.int x2), .val (.int x3), .val (.int x4), .val (.int (4 : Int32)), .val (.int ls), .val (.int w0), .val (.int w1), .val (.int w2), .val (.int w3), .unset, .unset, .unset, .unset, .unset, .unset, .unset, .unset] [(.double (4652218415073722368 : UInt64))])) _
      refine XS.dstore X53.here hx rfl (hb hby at_155) rfl (l' := #[.val (.int x0), .val (.int x1), .val (.int x2), .val (.int x3), .val (.int x4), .val (.int (4 : Int32)), .val (.int ls), .val (.int w0), .val (.int w1), .val (.int w2), .val (.int w3), .val (.double (4652218415073722368 : UInt64)), .second, .unset, .unset, .unset, .unset, .unset, .unset]) rfl ?_
      show Steps p.tables e below (T53.setTop (mkF m 157 #[.val (.int x0), .val (.int x1), .val (.int x2), .val (.int x3), .val (.int x4), .val (.int (4 : Int32)), .val (.int ls), .val (.int w0), .val (.int w1), .val (.int w2), .val (.int w3), .val (.double (4652218415073722368 : UInt64)), .second, .unset, .unset, .unset, .unset, .unset, .unset] [])) _
      refine XS.iload X53.here hx rfl (hb hby at_157) rfl ?_
      show Steps p.tables e below (T53.setTop (mkF m 159 #[.val (.int x0), .val (.int x1), .val (.int x2), .val (.int x3), .val (.int x4), .val (.int (4 : Int32)), .val (.int ls), .val (.int w0), .val (.int w1), .val (.int w2), .val (.int w3), .val (.double (4652218415073722368 : UInt64)), .second, .unset, .unset, .unset, .unset, .unset, .unset] [(.int (4 : Int32))])) _
      refine XS.iconst X53.here hx rfl (hb hby at_159) ?_
      show Steps p.tables e below (T53.setTop (mkF m 160 #[.val (.int x0), .val (.int x1), .val (.int x2), .val (.int x3), .val (.int x4), .val (.int (4 : Int32)), .val (.int ls), .val (.int w0), .val (.int w1), .val (.int w2), .val (.int w3), .val (.double (4652218415073722368 : UInt64)), .second, .unset, .unset, .unset, .unset, .unset, .unset] [(.int (1 : Int32)), (.int (4 : Int32))])) _
      refine XS.icmpYes X53.here hx rfl (pc0 := 160) (pc' := 180) rfl (hb hby at_160) rfl (feq (by decide : ¬ ((4 : Int32) = (1 : Int32)))).2 (by decide) (by decide) ?_
      show Steps p.tables e below (T53.setTop (mkF m 180 #[.val (.int x0), .val (.int x1), .val (.int x2), .val (.int x3), .val (.int x4), .val (.int (4 : Int32)), .val (.int ls), .val (.int w0), .val (.int w1), .val (.int w2), .val (.int w3), .val (.double (4652218415073722368 : UInt64)), .second, .unset, .unset, .unset, .unset, .unset, .unset] [])) _
      refine XS.iload X53.here hx rfl (hb hby at_180) rfl ?_
      show Steps p.tables e below (T53.setTop (mkF m 182 #[.val (.int x0), .val (.int x1), .val (.int x2), .val (.int x3), .val (.int x4), .val (.int (4 : Int32)), .val (.int ls), .val (.int w0), .val (.int w1), .val (.int w2), .val (.int w3), .val (.double (4652218415073722368 : UInt64)), .second, .unset, .unset, .unset, .unset, .unset, .unset] [(.int (4 : Int32))])) _
      refine XS.iconst X53.here hx rfl (hb hby at_182) ?_
      show Steps p.tables e below (T53.setTop (mkF m 183 #[.val (.int x0), .val (.int x1), .val (.int x2), .val (.int x3), .val (.int x4), .val (.int (4 : Int32)), .val (.int ls), .val (.int w0), .val (.int w1), .val (.int w2), .val (.int w3), .val (.double (4652218415073722368 : UInt64)), .second, .unset, .unset, .unset, .unset, .unset, .unset] [(.int (2 : Int32)), (.int (4 : Int32))])) _
      refine XS.icmpYes X53.here hx rfl (pc0 := 183) (pc' := 212) rfl (hb hby at_183) rfl (feq (by decide : ¬ ((4 : Int32) = (2 : Int32)))).2 (by decide) (by decide) ?_
      show Steps p.tables e below (T53.setTop (mkF m 212 #[.val (.int x0), .val (.int x1), .val (.int x2), .val (.int x3), .val (.int x4), .val (.int (4 : Int32)), .val (.int ls), .val (.int w0), .val (.int w1), .val (.int w2), .val (.int w3), .val (.double (4652218415073722368 : UInt64)), .second, .unset, .unset, .unset, .unset, .unset, .unset] [])) _
      refine XS.iload X53.here hx rfl (hb hby at_212) rfl ?_
      show Steps p.tables e below (T53.setTop (mkF m 214 #[.val (.int x0), .val (.int x1), .val (.int x2), .val (.int x3), .val (.int x4), .val (.int (4 : Int32)), .val (.int ls), .val (.int w0), .val (.int w1), .val (.int w2), .val (.int w3), .val (.double (4652218415073722368 : UInt64)), .second, .unset, .unset, .unset, .unset, .unset, .unset] [(.int (4 : Int32))])) _
      refine XS.iconst X53.here hx rfl (hb hby at_214) ?_
      show Steps p.tables e below (T53.setTop (mkF m 215 #[.val (.int x0), .val (.int x1), .val (.int x2), .val (.int x3), .val (.int x4), .val (.int (4 : Int32)), .val (.int ls), .val (.int w0), .val (.int w1), .val (.int w2), .val (.int w3), .val (.double (4652218415073722368 : UInt64)), .second, .unset, .unset, .unset, .unset, .unset, .unset] [(.int (3 : Int32)), (.int (4 : Int32))])) _
      refine XS.icmpYes X53.here hx rfl (pc0 := 215) (pc' := 253) rfl (hb hby at_215) rfl (feq (by decide : ¬ ((4 : Int32) = (3 : Int32)))).2 (by decide) (by decide) ?_
      show Steps p.tables e below (T53.setTop (mkF m 253 #[.val (.int x0), .val (.int x1), .val (.int x2), .val (.int x3), .val (.int x4), .val (.int (4 : Int32)), .val (.int ls), .val (.int w0), .val (.int w1), .val (.int w2), .val (.int w3), .val (.double (4652218415073722368 : UInt64)), .second, .unset, .unset, .unset, .unset, .unset, .unset] [])) _
      refine XS.iconst X53.here hx rfl (hb hby at_253) ?_
      show Steps p.tables e below (T53.setTop (mkF m 254 #[.val (.int x0), .val (.int x1), .val (.int x2), .val (.int x3), .val (.int x4), .val (.int (4 : Int32)), .val (.int ls), .val (.int w0), .val (.int w1), .val (.int w2), .val (.int w3), .val (.double (4652218415073722368 : UInt64)), .second, .unset, .unset, .unset, .unset, .unset, .unset] [(.int (4 : Int32))])) _
      refine st54 _ ?_
      show Steps p.tables e below (T54.setTop (mkF m 256 #[.val (.int x0), .val (.int x1), .val (.int x2), .val (.int x3), .val (.int x4), .val (.int (4 : Int32)), .val (.int ls), .val (.int w0), .val (.int w1), .val (.int w2), .val (.int w3), .val (.double (4652218415073722368 : UInt64)), .second, .unset, .unset, .unset, .unset, .unset, .unset] [(.ref b54)])) _
      refine XS.dup X54.here hx rfl (hb hby at_256) rfl rfl ?_
      show Steps p.tables e below (T54.setTop (mkF m 257 #[.val (.int x0), .val (.int x1), .val (.int x2), .val (.int x3), .val (.int x4), .val (.int (4 : Int32)), .val (.int ls), .val (.int w0), .val (.int w1), .val (.int w2), .val (.int w3), .val (.double (4652218415073722368 : UInt64)), .second, .unset, .unset, .unset, .unset, .unset, .unset] [(.ref b54), (.ref b54)])) _
      refine XS.iconst X54.here hx rfl (hb hby at_257) ?_
      show Steps p.tables e below (T54.setTop (mkF m 258 #[.val (.int x0), .val (.int x1), .val (.int x2), .val (.int x3), .val (.int x4), .val (.int (4 : Int32)), .val (.int ls), .val (.int w0), .val (.int w1), .val (.int w2), .val (.int w3), .val (.double (4652218415073722368 : UInt64)), .second, .unset, .unset, .unset, .unset, .unset, .unset] [(.int (0 : Int32)), (.ref b54), (.ref b54)])) _
      refine XS.iload X54.here hx rfl (hb hby at_258) rfl ?_
      show Steps p.tables e below (T54.setTop (mkF m 260 #[.val (.int x0), .val (.int x1), .val (.int x2), .val (.int x3), .val (.int x4), .val (.int (4 : Int32)), .val (.int ls), .val (.int w0), .val (.int w1), .val (.int w2), .val (.int w3), .val (.double (4652218415073722368 : UInt64)), .second, .unset, .unset, .unset, .unset, .unset, .unset] [(.int w0), (.int (0 : Int32)), (.ref b54), (.ref b54)])) _
      refine XS.i2dS X54.here hx rfl (hb hby at_260) rfl rfl ?_
      show Steps p.tables e below (T54.setTop (mkF m 261 #[.val (.int x0), .val (.int x1), .val (.int x2), .val (.int x3), .val (.int x4), .val (.int (4 : Int32)), .val (.int ls), .val (.int w0), .val (.int w1), .val (.int w2), .val (.int w3), .val (.double (4652218415073722368 : UInt64)), .second, .unset, .unset, .unset, .unset, .unset, .unset] [(.double (Jvm.FP.i2d w0)), (.int (0 : Int32)), (.ref b54), (.ref b54)])) _
      refine XS.dload X54.here hx rfl (hb hby at_261) rfl ?_
      show Steps p.tables e below (T54.setTop (mkF m 263 #[.val (.int x0), .val (.int x1), .val (.int x2), .val (.int x3), .val (.int x4), .val (.int (4 : Int32)), .val (.int ls), .val (.int w0), .val (.int w1), .val (.int w2), .val (.int w3), .val (.double (4652218415073722368 : UInt64)), .second, .unset, .unset, .unset, .unset, .unset, .unset] [(.double (4652218415073722368 : UInt64)), (.double (Jvm.FP.i2d w0)), (.int (0 : Int32)), (.ref b54), (.ref b54)])) _
      refine XS.ddivS X54.here hx rfl (hb hby at_263) rfl (own_dv_num (own_prob ew0 bw0)) rfl ?_
      show Steps p.tables e below (T54.setTop (mkF m 264 #[.val (.int x0), .val (.int x1), .val (.int x2), .val (.int x3), .val (.int x4), .val (.int (4 : Int32)), .val (.int ls), .val (.int w0), .val (.int w1), .val (.int w2), .val (.int w3), .val (.double (4652218415073722368 : UInt64)), .second, .unset, .unset, .unset, .unset, .unset, .unset] [(.double (Jvm.FP.ddiv (Jvm.FP.i2d w0) (4652218415073722368 : UInt64))), (.int (0 : Int32)), (.ref b54), (.ref b54)])) _
      refine st55 _ ?_
      show Steps p.tables e below (T55.setTop (mkF m 265 #[.val (.int x0), .val (.int x1), .val (.int x2), .val (.int x3), .val (.int x4), .val (.int (4 : Int32)), .val (.int ls), .val (.int w0), .val (.int w1), .val (.int w2), .val (.int w3), .val (.double (4652218415073722368 : UInt64)), .second, .unset, .unset, .unset, .unset, .unset, .unset] [(.ref b54)])) _
      refine XS.dup X55.here hx rfl (hb hby at_265) rfl rfl ?_
      show Steps p.tables e below (T55.setTop (mkF m 266 #[.val (.int x0), .val (.int x1), .val (.int x2), .val (.int x3), .val (.int x4), .val (.int (4 : Int32)), .val (.int ls), .val (.int w0), .val (.int w1), .val (.int w2), .val (.int w3), .val (.double (4652218415073722368 : UInt64)), .second, .unset, .unset, .unset, .unset, .unset, .unset] [(.ref b54), (.ref b54)])) _
      refine XS.iconst X55.here hx rfl (hb hby at_266) ?_
      show Steps p.tables e below (T55.setTop (mkF m 267 #[.val (.int x0), .val (.int x1), .val (.int x2), .val (.int x3), .val (.int x4), .val (.int (4 : Int32)), .val (.int ls), .val (.int w0), .val (.int w1), .val (.int w2), .val (.int w3), .val (.double (4652218415073722368 : UInt64)), .second, .unset, .unset, .unset, .unset, .unset, .unset] [(.int (1 : Int32)), (.ref b54), (.ref b54)])) _
      refine XS.iload X55.here hx rfl (hb hby at_267) rfl ?_
      show Steps p.tables e below (T55.setTop (mkF m 269 #[.val (.int x0), .val (.int x1), .val (.int x2), .val (.int x3), .val (.int x4), .val (.int (4 : Int32)), .val (.int ls), .val (.int w0), .val (.int w1), .val (.int w2), .val (.int w3), .val (.double (4652218415073722368 : UInt64)), .second, .unset, .unset, .unset, .unset, .unset, .unset] [(.int w1), (.int (1 : Int32)), (.ref b54), (.ref b54)])) _
      refine XS.i2dS X55.here hx rfl (hb hby at_269) rfl rfl ?_
      show Steps p.tables e below (T55.setTop (mkF m 270 #[.val (.int x0), .val (.int x1), .val (.int x2), .val (.int x3), .val (.int x4), .val (.int (4 : Int32)), .val (.int ls), .val (.int w0), .val (.int w1), .val (.int w2), .val (.int w3), .val (.double (4652218415073722368 : UInt64)), .second, .unset, .unset, .unset, .unset, .unset, .unset] [(.double (Jvm.FP.i2d w1)), (.int (1 : Int32)), (.ref b54), (.ref b54)])) _
      refine XS.dload X55.here hx rfl (hb hby at_270) rfl ?_
      show Steps p.tables e below (T55.setTop (mkF m 272 #[.val (.int x0), .val (.int x1), .val (.int x2), .val (.int x3), .val (.int x4), .val (.int (4 : Int32)), .val (.int ls), .val (.int w0), .val (.int w1), .val (.int w2), .val (.int w3), .val (.double (4652218415073722368 : UInt64)), .second, .unset, .unset, .unset, .unset, .unset, .unset] [(.double (4652218415073722368 : UInt64)), (.double (Jvm.FP.i2d w1)), (.int (1 : Int32)), (.ref b54), (.ref b54)])) _
      refine XS.ddivS X55.here hx rfl (hb hby at_272) rfl (own_dv_num (own_prob ew1 bw1)) rfl ?_
      show Steps p.tables e below (T55.setTop (mkF m 273 #[.val (.int x0), .val (.int x1), .val (.int x2), .val (.int x3), .val (.int x4), .val (.int (4 : Int32)), .val (.int ls), .val (.int w0), .val (.int w1), .val (.int w2), .val (.int w3), .val (.double (4652218415073722368 : UInt64)), .second, .unset, .unset, .unset, .unset, .unset, .unset] [(.double (Jvm.FP.ddiv (Jvm.FP.i2d w1) (4652218415073722368 : UInt64))), (.int (1 : Int32)), (.ref b54), (.ref b54)])) _
      refine st56 _ ?_
      show Steps p.tables e below (T56.setTop (mkF m 274 #[.val (.int x0), .val (.int x1), .val (.int x2), .val (.int x3), .val (.int x4), .val (.int (4 : Int32)), .val (.int ls), .val (.int w0), .val (.int w1), .val (.int w2), .val (.int w3), .val (.double (4652218415073722368 : UInt64)), .second, .unset, .unset, .unset, .unset, .unset, .unset] [(.ref b54)])) _
      refine XS.dup X56.here hx rfl (hb hby at_274) rfl rfl ?_
      show Steps p.tables e below (T56.setTop (mkF m 275 #[.val (.int x0), .val (.int x1), .val (.int x2), .val (.int x3), .val (.int x4), .val (.int (4 : Int32)), .val (.int ls), .val (.int w0), .val (.int w1), .val (.int w2), .val (.int w3), .val (.double (4652218415073722368 : UInt64)), .second, .unset, .unset, .unset, .unset, .unset, .unset] [(.ref b54), (.ref b54)])) _
      refine XS.iconst X56.here hx rfl (hb hby at_275) ?_
      show Steps p.tables e below (T56.setTop (mkF m 276 #[.val (.int x0), .val (.int x1), .val (.int x2), .val (.int x3), .val (.int x4), .val (.int (4 : Int32)), .val (.int ls), .val (.int w0), .val (.int w1), .val (.int w2), .val (.int w3), .val (.double (4652218415073722368 : UInt64)), .second, .unset, .unset, .unset, .unset, .unset, .unset] [(.int (2 : Int32)), (.ref b54), (.ref b54)])) _
      refine XS.iload X56.here hx rfl (hb hby at_276) rfl ?_
      show Steps p.tables e below (T56.setTop (mkF m 278 #[.val (.int x0), .val (.int x1), .val (.int x2), .val (.int x3), .val (.int x4), .val (.int (4 : Int32)), .val (.int ls), .val (.int w0), .val (.int w1), .val (.int w2), .val (.int w3), .val (.double (4652218415073722368 : UInt64)), .second, .unset, .unset, .unset, .unset, .unset, .unset] [(.int w2), (.int (2 : Int32)), (.ref b54), (.ref b54)])) _
      refine XS.i2dS X56.here hx rfl (hb hby at_278) rfl rfl ?_
      show Steps p.tables e below (T56.setTop (mkF m 279 #[.val (.int x0), .val (.int x1), .val (.int x2), .val (.int x3), .val (.int x4), .val (.int (4 : Int32)), .val (.int ls), .val (.int w0), .val (.int w1), .val (.int w2), .val (.int w3), .val (.double (4652218415073722368 : UInt64)), .second, .unset, .unset, .unset, .unset, .unset, .unset] [(.double (Jvm.FP.i2d w2)), (.int (2 : Int32)), (.ref b54), (.ref b54)])) _
      refine XS.dload X56.here hx rfl (hb hby at_279) rfl ?_
      show Steps p.tables e below (T56.setTop (mkF m 281 #[.val (.int x0), .val (.int x1), .val (.int x2), .val (.int x3), .val (.int x4), .val (.int (4 : Int32)), .val (.int ls), .val (.int w0), .val (.int w1), .val (.int w2), .val (.int w3), .val (.double (4652218415073722368 : UInt64)), .second, .unset, .unset, .unset, .unset, .unset, .unset] [(.double (4652218415073722368 : UInt64)), (.double (Jvm.FP.i2d w2)), (.int (2 : Int32)), (.ref b54), (.ref b54)])) _
      refine XS.ddivS X56.here hx rfl (hb hby at_281) rfl (own_dv_num (own_prob ew2 bw2)) rfl ?_
      show Steps p.tables e below (T56.setTop (mkF m 282 #[.val (.int x0), .val (.int x1), .val (.int x2), .val (.int x3), .val (.int x4), .val (.int (4 : Int32)), .val (.int ls), .val (.int w0), .val (.int w1), .val (.int w2), .val (.int w3), .val (.double (4652218415073722368 : UInt64)), .second, .unset, .unset, .unset, .unset, .unset, .unset] [(.double (Jvm.FP.ddiv (Jvm.FP.i2d w2) (4652218415073722368 : UInt64))), (.int (2 : Int32)), (.ref b54), (.ref b54)])) _
      refine st57 _ ?_
      show Steps p.tables e below (T57.setTop (mkF m 283 #[.val (.int x0), .val (.int x1), .val (.int x2), .val (.int x3), .val (.int x4), .val (.int (4 : Int32)), .val (.int ls), .val (.int w0), .val (.int w1), .val (.int w2), .val (.int w3), .val (.double (4652218415073722368 : UInt64)), .second, .unset, .unset, .unset, .unset, .unset, .unset] [(.ref b54)])) _
      refine XS.dup X57.here hx rfl (hb hby at_283) rfl rfl ?_
      show Steps p.tables e below (T57.setTop (mkF m 284 #[.val (.int x0), .val (.int x1), .val (.int x2), .val (.int x3), .val (.int x4), .val (.int (4 : Int32)), .val (.int ls), .val (.int w0), .val (.int w1), .val (.int w2), .val (.int w3), .val (.double (4652218415073722368 : UInt64)), .second, .unset, .unset, .unset, .unset, .unset, .unset] [(.ref b54), (.ref b54)])) _
      refine XS.iconst X57.here hx rfl (hb hby at_284) ?_
      show Steps p.tables e below (T57.setTop (mkF m 285 #[.val (.int x0), .val (.int x1), .val (.int x2), .val (.int x3), .val (.int x4), .val (.int (4 : Int32)), .val (.int ls), .val (.int w0), .val (.int w1), .val (.int w2), .val (.int w3), .val (.double (4652218415073722368 : UInt64)), .second, .unset, .unset, .unset, .unset, .unset, .unset] [(.int (3 : Int32)), (.ref b54), (.ref b54)])) _
      refine XS.iload X57.here hx rfl (hb hby at_285) rfl ?_
      show Steps p.tables e below (T57.setTop (mkF m 287 #[.val (.int x0), .val (.int x1), .val (.int x2), .val (.int x3), .val (.int x4), .val (.int (4 : Int32)), .val (.int ls), .val (.int w0), .val (.int w1), .val (.int w2), .val (.int w3), .val (.double (4652218415073722368 : UInt64)), .second, .unset, .unset, .unset, .unset, .unset, .unset] [(.int w3), (.int (3 : Int32)), (.ref b54), (.ref b54)])) _
      refine XS.i2dS X57.here hx rfl (hb hby at_287) rfl rfl ?_
      show Steps p.tables e below (T57.setTop (mkF m 288 #[.val (.int x0), .val (.int x1), .val (.int x2), .val (.int x3), .val (.int x4), .val (.int (4 : Int32)), .val (.int ls), .val (.int w0), .val (.int w1), .val (.int w2), .val (.int w3), .val (.double (4652218415073722368 : UInt64)), .second, .unset, .unset, .unset, .unset, .unset, .unset] [(.double (Jvm.FP.i2d w3)), (.int (3 : Int32)), (.ref b54), (.ref b54)])) _
      refine XS.dload X57.here hx rfl (hb hby at_288) rfl ?_
      show Steps p.tables e below (T57.setTop (mkF m 290 #[.val (.int x0), .val (.int x1), .val (.int x2), .val (.int x3), .val (.int x4), .val (.int (4 : Int32)), .val (.int ls), .val (.int w0), .val (.int w1), .val (.int w2), .val (.int w3), .val (.double (4652218415073722368 : UInt64)), .second, .unset, .unset, .unset, .unset, .unset, .unset] [(.double (4652218415073722368 : UInt64)), (.double (Jvm.FP.i2d w3)), (.int (3 : Int32)), (.ref b54), (.ref b54)])) _
      refine XS.ddivS X57.here hx rfl (hb hby at_290) rfl (own_dv_num (own_prob ew3 bw3)) rfl ?_
      show Steps p.tables e below (T57.setTop (mkF m 291 #[.val (.int x0), .val (.int x1), .val (.int x2), .val (.int x3), .val (.int x4), .val (.int (4 : Int32)), .val (.int ls), .val (.int w0), .val (.int w1), .val (.int w2), .val (.int w3), .val (.double (4652218415073722368 : UInt64)), .second, .unset, .unset, .unset, .unset, .unset, .unset] [(.double (Jvm.FP.ddiv (Jvm.FP.i2d w3) (4652218415073722368 : UInt64))), (.int (3 : Int32)), (.ref b54), (.ref b54)])) _
      refine st58 _ ?_
      show Steps p.tables e below (T58.setTop (mkF m 292 #[.val (.int x0), .val (.int x1), .val (.int x2), .val (.int x3), .val (.int x4), .val (.int (4 : Int32)), .val (.int ls), .val (.int w0), .val (.int w1), .val (.int w2), .val (.int w3), .val (.double (4652218415073722368 : UInt64)), .second, .unset, .unset, .unset, .unset, .unset, .unset] [(.ref b54)])) _
      refine XS.astore X58.here hx rfl (hb hby at_292) rfl rfl (l' := #[.val (.int x0), .val (.int x1), .val (.int x2), .val (.int x3), .val (.int x4), .val (.int (4 : Int32)), .val (.int ls), .val (.int w0), .val (.int w1), .val (.int w2), .val (.int w3), .val (.double (4652218415073722368 : UInt64)), .second, .val (.ref b54), .unset, .unset, .unset, .unset, .unset]) rfl ?_
      show Steps p.tables e below (T58.setTop (mkF m 294 #[.val (.int x0), .val (.int x1), .val (.int x2), .val (.int x3), .val (.int x4), .val (.int (4 : Int32)), .val (.int ls), .val (.int w0), .val (.int w1), .val (.int w2), .val (.int w3), .val (.double (4652218415073722368 : UInt64)), .second, .val (.ref b54), .unset, .unset, .unset, .unset, .unset] [])) _
      refine st59 _ ?_
      show Steps p.tables e below (T59.setTop (mkF m 297 #[.val (.int x0), .val (.int x1), .val (.int x2), .val (.int x3), .val (.int x4), .val (.int (4 : Int32)), .val (.int ls), .val (.int w0), .val (.int w1), .val (.int w2), .val (.int w3), .val (.double (4652218415073722368 : UInt64)), .second, .val (.ref b54), .unset, .unset, .unset, .unset, .unset] [(.ref b59)])) _
      refine XS.dup X59.here hx rfl (hb hby at_297) rfl rfl ?_
      show Steps p.tables e below (T59.setTop (mkF m 298 #[.val (.int x0), .val (.int x1), .val (.int x2), .val (.int x3), .val (.int x4), .val (.int (4 : Int32)), .val (.int ls), .val (.int w0), .val (.int w1), .val (.int w2), .val (.int w3), .val (.double (4652218415073722368 : UInt64)), .second, .val (.ref b54), .unset, .unset, .unset, .unset, .unset] [(.ref b59), (.ref b59)])) _
      refine XS.iload X59.here hx rfl (hb hby at_298) rfl ?_
      show Steps p.tables e below (T59.setTop (mkF m 300 #[.val (.int x0), .val (.int x1), .val (.int x2), .val (.int x3), .val (.int x4), .val (.int (4 : Int32)), .val (.int ls), .val (.int w0), .val (.int w1), .val (.int w2), .val (.int w3), .val (.double (4652218415073722368 : UInt64)), .second, .val (.ref b54), .unset, .unset, .unset, .unset, .unset] [(.int ls), (.ref b59), (.ref b59)])) _
      refine XS.aload X59.here hx rfl (hb hby at_300) rfl rfl ?_
      show Steps p.tables e below (T59.setTop (mkF m 302 #[.val (.int x0), .val (.int x1), .val (.int x2), .val (.int x3), .val (.int x4), .val (.int (4 : Int32)), .val (.int ls), .val (.int w0), .val (.int w1), .val (.int w2), .val (.int w3), .val (.double (4652218415073722368 : UInt64)), .second, .val (.ref b54), .unset, .unset, .unset, .unset, .unset] [(.ref b54), (.int ls), (.ref b59), (.ref b59)])) _
      refine st64.trans ?_
      show Steps p.tables e below (T64.setTop (mkF m 305 #[.val (.int x0), .val (.int x1), .val (.int x2), .val (.int x3), .val (.int x4), .val (.int (4 : Int32)), .val (.int ls), .val (.int w0), .val (.int w1), .val (.int w2), .val (.int w3), .val (.double (4652218415073722368 : UInt64)), .second, .val (.ref b54), .unset, .unset, .unset, .unset, .unset] [(.ref b59)])) _
      refine XS.astore X64.here hx rfl (hb hby at_305) rfl rfl (l' := #[.val (.int x0), .val (.int x1), .val (.int x2), .val (.int x3), .val (.int x4), .val (.int (4 : Int32)), .val (.int ls), .val (.int w0), .val (.int w1), .val (.int w2), .val (.int w3), .val (.double (4652218415073722368 : UInt64)), .second, .val (.ref b54), .val (.ref b59), .unset, .unset, .unset, .unset]) rfl ?_
      show Steps p.tables e below (T64.setTop (mkF m 307 #[.val (.int x0), .val (.int x1), .val (.int x2), .val (.int x3), .val (.int x4), .val (.int (4 : Int32)), .val (.int ls), .val (.int w0), .val (.int w1), .val (.int w2), .val (.int w3), .val (.double (4652218415073722368 : UInt64)), .second, .val (.ref b54), .val (.ref b59), .unset, .unset, .unset, .unset] [])) _
      refine XS.iload X64.here hx rfl (hb hby at_307) rfl ?_
      show Steps p.tables e below (T64.setTop (mkF m 309 #[.val (.int x0), .val (.int x1), .val (.int x2), .val (.int x3), .val (.int x4), .val (.int (4 : Int32)), .val (.int ls), .val (.int w0), .val (.int w1), .val (.int w2), .val (.int w3), .val (.double (4652218415073722368 : UInt64)), .second, .val (.ref b54), .val (.ref b59), .unset, .unset, .unset, .unset] [(.int ls)])) _
      refine XS.i2l X64.here hx rfl (hb hby at_309) rfl ?_
      show Steps p.tables e below (T64.setTop (mkF m 310 #[.val (.int x0), .val (.int x1), .val (.int x2), .val (.int x3), .val (.int x4), .val (.int (4 : Int32)), .val (.int ls), .val (.int w0), .val (.int w1), .val (.int w2), .val (.int w3), .val (.double (4652218415073722368 : UInt64)), .second, .val (.ref b54), .val (.ref b59), .unset, .unset, .unset, .unset] [(.long (ls.toInt64))])) _
      refine Jvm.Stand.ldc2J X64 hx hown (mvT hZ (hw _ (List.mem_of_getElem? (i := 20) rfl))) rfl (hb hby at_310) ?_
      show Steps p.tables e below (T64.setTop (mkF m 313 #[.val (.int x0), .val (.int x1), .val (.int x2), .val (.int x3), .val (.int x4), .val (.int (4 : Int32)), .val (.int ls), .val (.int w0), .val (.int w1), .val (.int w2), .val (.int w3), .val (.double (4652218415073722368 : UInt64)), .second, .val (.ref b54), .val (.ref b59), .unset, .unset, .unset, .unset] [(.long (1024 : Int64)), (.long (ls.toInt64))])) _
      refine XS.lmul X64.here hx rfl (hb hby at_313) rfl ?_
      show Steps p.tables e below (T64.setTop (mkF m 314 #[.val (.int x0), .val (.int x1), .val (.int x2), .val (.int x3), .val (.int x4), .val (.int (4 : Int32)), .val (.int ls), .val (.int w0), .val (.int w1), .val (.int w2), .val (.int w3), .val (.double (4652218415073722368 : UInt64)), .second, .val (.ref b54), .val (.ref b59), .unset, .unset, .unset, .unset] [(.long ((ls.toInt64) * (1024 : Int64)))])) _
      refine XS.iload X64.here hx rfl (hb hby at_314) rfl ?_
      show Steps p.tables e below (T64.setTop (mkF m 316 #[.val (.int x0), .val (.int x1), .val (.int x2), .val (.int x3), .val (.int x4), .val (.int (4 : Int32)), .val (.int ls), .val (.int w0), .val (.int w1), .val (.int w2), .val (.int w3), .val (.double (4652218415073722368 : UInt64)), .second, .val (.ref b54), .val (.ref b59), .unset, .unset, .unset, .unset] [(.int w1), (.long ((ls.toInt64) * (1024 : Int64)))])) _
      refine XS.i2l X64.here hx rfl (hb hby at_316) rfl ?_
      show Steps p.tables e below (T64.setTop (mkF m 317 #[.val (.int x0), .val (.int x1), .val (.int x2), .val (.int x3), .val (.int x4), .val (.int (4 : Int32)), .val (.int ls), .val (.int w0), .val (.int w1), .val (.int w2), .val (.int w3), .val (.double (4652218415073722368 : UInt64)), .second, .val (.ref b54), .val (.ref b59), .unset, .unset, .unset, .unset] [(.long (w1.toInt64)), (.long ((ls.toInt64) * (1024 : Int64)))])) _
      refine XS.ladd X64.here hx rfl (hb hby at_317) rfl ?_
      show Steps p.tables e below (T64.setTop (mkF m 318 #[.val (.int x0), .val (.int x1), .val (.int x2), .val (.int x3), .val (.int x4), .val (.int (4 : Int32)), .val (.int ls), .val (.int w0), .val (.int w1), .val (.int w2), .val (.int w3), .val (.double (4652218415073722368 : UInt64)), .second, .val (.ref b54), .val (.ref b59), .unset, .unset, .unset, .unset] [(.long (((ls.toInt64) * (1024 : Int64)) + (w1.toInt64)))])) _
      refine Jvm.Stand.ldc2J X64 hx hown (mvT hZ (hw _ (List.mem_of_getElem? (i := 21) rfl))) rfl (hb hby at_318) ?_
      show Steps p.tables e below (T64.setTop (mkF m 321 #[.val (.int x0), .val (.int x1), .val (.int x2), .val (.int x3), .val (.int x4), .val (.int (4 : Int32)), .val (.int ls), .val (.int w0), .val (.int w1), .val (.int w2), .val (.int w3), .val (.double (4652218415073722368 : UInt64)), .second, .val (.ref b54), .val (.ref b59), .unset, .unset, .unset, .unset] [(.long (2 : Int64)), (.long (((ls.toInt64) * (1024 : Int64)) + (w1.toInt64)))])) _
      refine XS.iload X64.here hx rfl (hb hby at_321) rfl ?_
      show Steps p.tables e below (T64.setTop (mkF m 323 #[.val (.int x0), .val (.int x1), .val (.int x2), .val (.int x3), .val (.int x4), .val (.int (4 : Int32)), .val (.int ls), .val (.int w0), .val (.int w1), .val (.int w2), .val (.int w3), .val (.double (4652218415073722368 : UInt64)), .second, .val (.ref b54), .val (.ref b59), .unset, .unset, .unset, .unset] [(.int w2), (.long (2 : Int64)), (.long (((ls.toInt64) * (1024 : Int64)) + (w1.toInt64)))])) _
      refine XS.i2l X64.here hx rfl (hb hby at_323) rfl ?_
      show Steps p.tables e below (T64.setTop (mkF m 324 #[.val (.int x0), .val (.int x1), .val (.int x2), .val (.int x3), .val (.int x4), .val (.int (4 : Int32)), .val (.int ls), .val (.int w0), .val (.int w1), .val (.int w2), .val (.int w3), .val (.double (4652218415073722368 : UInt64)), .second, .val (.ref b54), .val (.ref b59), .unset, .unset, .unset, .unset] [(.long (w2.toInt64)), (.long (2 : Int64)), (.long (((ls.toInt64) * (1024 : Int64)) + (w1.toInt64)))])) _
      refine XS.lmul X64.here hx rfl (hb hby at_324) rfl ?_
      show Steps p.tables e below (T64.setTop (mkF m 325 #[.val (.int x0), .val (.int x1), .val (.int x2), .val (.int x3), .val (.int x4), .val (.int (4 : Int32)), .val (.int ls), .val (.int w0), .val (.int w1), .val (.int w2), .val (.int w3), .val (.double (4652218415073722368 : UInt64)), .second, .val (.ref b54), .val (.ref b59), .unset, .unset, .unset, .unset] [(.long ((2 : Int64) * (w2.toInt64))), (.long (((ls.toInt64) * (1024 : Int64)) + (w1.toInt64)))])) _
      refine XS.ladd X64.here hx rfl (hb hby at_325) rfl ?_
      show Steps p.tables e below (T64.setTop (mkF m 326 #[.val (.int x0), .val (.int x1), .val (.int x2), .val (.int x3), .val (.int x4), .val (.int (4 : Int32)), .val (.int ls), .val (.int w0), .val (.int w1), .val (.int w2), .val (.int w3), .val (.double (4652218415073722368 : UInt64)), .second, .val (.ref b54), .val (.ref b59), .unset, .unset, .unset, .unset] [(.long ((((ls.toInt64) * (1024 : Int64)) + (w1.toInt64)) + ((2 : Int64) * (w2.toInt64))))])) _
      refine Jvm.Stand.ldc2J X64 hx hown (mvT hZ (hw _ (List.mem_of_getElem? (i := 22) rfl))) rfl (hb hby at_326) ?_
      show Steps p.tables e below (T64.setTop (mkF m 329 #[.val (.int x0), .val (.int x1), .val (.int x2), .val (.int x3), .val (.int x4), .val (.int (4 : Int32)), .val (.int ls), .val (.int w0), .val (.int w1), .val (.int w2), .val (.int w3), .val (.double (4652218415073722368 : UInt64)), .second, .val (.ref b54), .val (.ref b59), .unset, .unset, .unset, .unset] [(.long (3 : Int64)), (.long ((((ls.toInt64) * (1024 : Int64)) + (w1.toInt64)) + ((2 : Int64) * (w2.toInt64))))])) _
      refine XS.iload X64.here hx rfl (hb hby at_329) rfl ?_
      show Steps p.tables e below (T64.setTop (mkF m 331 #[.val (.int x0), .val (.int x1), .val (.int x2), .val (.int x3), .val (.int x4), .val (.int (4 : Int32)), .val (.int ls), .val (.int w0), .val (.int w1), .val (.int w2), .val (.int w3), .val (.double (4652218415073722368 : UInt64)), .second, .val (.ref b54), .val (.ref b59), .unset, .unset, .unset, .unset] [(.int w3), (.long (3 : Int64)), (.long ((((ls.toInt64) * (1024 : Int64)) + (w1.toInt64)) + ((2 : Int64) * (w2.toInt64))))])) _
      refine XS.i2l X64.here hx rfl (hb hby at_331) rfl ?_
      show Steps p.tables e below (T64.setTop (mkF m 332 #[.val (.int x0), .val (.int x1), .val (.int x2), .val (.int x3), .val (.int x4), .val (.int (4 : Int32)), .val (.int ls), .val (.int w0), .val (.int w1), .val (.int w2), .val (.int w3), .val (.double (4652218415073722368 : UInt64)), .second, .val (.ref b54), .val (.ref b59), .unset, .unset, .unset, .unset] [(.long (w3.toInt64)), (.long (3 : Int64)), (.long ((((ls.toInt64) * (1024 : Int64)) + (w1.toInt64)) + ((2 : Int64) * (w2.toInt64))))])) _
      refine XS.lmul X64.here hx rfl (hb hby at_332) rfl ?_
      show Steps p.tables e below (T64.setTop (mkF m 333 #[.val (.int x0), .val (.int x1), .val (.int x2), .val (.int x3), .val (.int x4), .val (.int (4 : Int32)), .val (.int ls), .val (.int w0), .val (.int w1), .val (.int w2), .val (.int w3), .val (.double (4652218415073722368 : UInt64)), .second, .val (.ref b54), .val (.ref b59), .unset, .unset, .unset, .unset] [(.long ((3 : Int64) * (w3.toInt64))), (.long ((((ls.toInt64) * (1024 : Int64)) + (w1.toInt64)) + ((2 : Int64) * (w2.toInt64))))])) _
      refine XS.ladd X64.here hx rfl (hb hby at_333) rfl ?_
      show Steps p.tables e below (T64.setTop (mkF m 334 #[.val (.int x0), .val (.int x1), .val (.int x2), .val (.int x3), .val (.int x4), .val (.int (4 : Int32)), .val (.int ls), .val (.int w0), .val (.int w1), .val (.int w2), .val (.int w3), .val (.double (4652218415073722368 : UInt64)), .second, .val (.ref b54), .val (.ref b59), .unset, .unset, .unset, .unset] [(.long (((((ls.toInt64) * (1024 : Int64)) + (w1.toInt64)) + ((2 : Int64) * (w2.toInt64))) + ((3 : Int64) * (w3.toInt64))))])) _
      refine XS.lstore X64.here hx rfl (hb hby at_334) rfl (l' := #[.val (.int x0), .val (.int x1), .val (.int x2), .val (.int x3), .val (.int x4), .val (.int (4 : Int32)), .val (.int ls), .val (.int w0), .val (.int w1), .val (.int w2), .val (.int w3), .val (.double (4652218415073722368 : UInt64)), .second, .val (.ref b54), .val (.ref b59), .val (.long (((((ls.toInt64) * (1024 : Int64)) + (w1.toInt64)) + ((2 : Int64) * (w2.toInt64))) + ((3 : Int64) * (w3.toInt64)))), .second, .unset, .unset]) rfl ?_
      show Steps p.tables e below (T64.setTop (mkF m 336 #[.val (.int x0), .val (.int x1), .val (.int x2), .val (.int x3), .val (.int x4), .val (.int (4 : Int32)), .val (.int ls), .val (.int w0), .val (.int w1), .val (.int w2), .val (.int w3), .val (.double (4652218415073722368 : UInt64)), .second, .val (.ref b54), .val (.ref b59), .val (.long (((((ls.toInt64) * (1024 : Int64)) + (w1.toInt64)) + ((2 : Int64) * (w2.toInt64))) + ((3 : Int64) * (w3.toInt64)))), .second, .unset, .unset] [])) _
      refine XS.lload X64.here hx rfl (hb hby at_336) rfl ?_
      show Steps p.tables e below (T64.setTop (mkF m 338 #[.val (.int x0), .val (.int x1), .val (.int x2), .val (.int x3), .val (.int x4), .val (.int (4 : Int32)), .val (.int ls), .val (.int w0), .val (.int w1), .val (.int w2), .val (.int w3), .val (.double (4652218415073722368 : UInt64)), .second, .val (.ref b54), .val (.ref b59), .val (.long (((((ls.toInt64) * (1024 : Int64)) + (w1.toInt64)) + ((2 : Int64) * (w2.toInt64))) + ((3 : Int64) * (w3.toInt64)))), .second, .unset, .unset] [(.long (((((ls.toInt64) * (1024 : Int64)) + (w1.toInt64)) + ((2 : Int64) * (w2.toInt64))) + ((3 : Int64) * (w3.toInt64))))])) _
      refine XS.l2dS X64.here hx rfl (hb hby at_338) rfl rfl ?_
      show Steps p.tables e below (T64.setTop (mkF m 339 #[.val (.int x0), .val (.int x1), .val (.int x2), .val (.int x3), .val (.int x4), .val (.int (4 : Int32)), .val (.int ls), .val (.int w0), .val (.int w1), .val (.int w2), .val (.int w3), .val (.double (4652218415073722368 : UInt64)), .second, .val (.ref b54), .val (.ref b59), .val (.long (((((ls.toInt64) * (1024 : Int64)) + (w1.toInt64)) + ((2 : Int64) * (w2.toInt64))) + ((3 : Int64) * (w3.toInt64)))), .second, .unset, .unset] [(.double (Jvm.FP.l2d (((((ls.toInt64) * (1024 : Int64)) + (w1.toInt64)) + ((2 : Int64) * (w2.toInt64))) + ((3 : Int64) * (w3.toInt64)))))])) _
      refine XS.dload X64.here hx rfl (hb hby at_339) rfl ?_
      show Steps p.tables e below (T64.setTop (mkF m 341 #[.val (.int x0), .val (.int x1), .val (.int x2), .val (.int x3), .val (.int x4), .val (.int (4 : Int32)), .val (.int ls), .val (.int w0), .val (.int w1), .val (.int w2), .val (.int w3), .val (.double (4652218415073722368 : UInt64)), .second, .val (.ref b54), .val (.ref b59), .val (.long (((((ls.toInt64) * (1024 : Int64)) + (w1.toInt64)) + ((2 : Int64) * (w2.toInt64))) + ((3 : Int64) * (w3.toInt64)))), .second, .unset, .unset] [(.double (4652218415073722368 : UInt64)), (.double (Jvm.FP.l2d (((((ls.toInt64) * (1024 : Int64)) + (w1.toInt64)) + ((2 : Int64) * (w2.toInt64))) + ((3 : Int64) * (w3.toInt64)))))])) _
      refine XS.ddivS X64.here hx rfl (hb hby at_341) rfl (own_dv_num href) rfl ?_
      show Steps p.tables e below (T64.setTop (mkF m 342 #[.val (.int x0), .val (.int x1), .val (.int x2), .val (.int x3), .val (.int x4), .val (.int (4 : Int32)), .val (.int ls), .val (.int w0), .val (.int w1), .val (.int w2), .val (.int w3), .val (.double (4652218415073722368 : UInt64)), .second, .val (.ref b54), .val (.ref b59), .val (.long (((((ls.toInt64) * (1024 : Int64)) + (w1.toInt64)) + ((2 : Int64) * (w2.toInt64))) + ((3 : Int64) * (w3.toInt64)))), .second, .unset, .unset] [(.double (Jvm.FP.ddiv (Jvm.FP.l2d (((((ls.toInt64) * (1024 : Int64)) + (w1.toInt64)) + ((2 : Int64) * (w2.toInt64))) + ((3 : Int64) * (w3.toInt64)))) (4652218415073722368 : UInt64)))])) _
      refine XS.dstore X64.here hx rfl (hb hby at_342) rfl (l' := #[.val (.int x0), .val (.int x1), .val (.int x2), .val (.int x3), .val (.int x4), .val (.int (4 : Int32)), .val (.int ls), .val (.int w0), .val (.int w1), .val (.int w2), .val (.int w3), .val (.double (4652218415073722368 : UInt64)), .second, .val (.ref b54), .val (.ref b59), .val (.long (((((ls.toInt64) * (1024 : Int64)) + (w1.toInt64)) + ((2 : Int64) * (w2.toInt64))) + ((3 : Int64) * (w3.toInt64)))), .second, .val (.double (Jvm.FP.ddiv (Jvm.FP.l2d (((((ls.toInt64) * (1024 : Int64)) + (w1.toInt64)) + ((2 : Int64) * (w2.toInt64))) + ((3 : Int64) * (w3.toInt64)))) (4652218415073722368 : UInt64))), .second]) rfl ?_
      show Steps p.tables e below (T64.setTop (mkF m 344 #[.val (.int x0), .val (.int x1), .val (.int x2), .val (.int x3), .val (.int x4), .val (.int (4 : Int32)), .val (.int ls), .val (.int w0), .val (.int w1), .val (.int w2), .val (.int w3), .val (.double (4652218415073722368 : UInt64)), .second, .val (.ref b54), .val (.ref b59), .val (.long (((((ls.toInt64) * (1024 : Int64)) + (w1.toInt64)) + ((2 : Int64) * (w2.toInt64))) + ((3 : Int64) * (w3.toInt64)))), .second, .val (.double (Jvm.FP.ddiv (Jvm.FP.l2d (((((ls.toInt64) * (1024 : Int64)) + (w1.toInt64)) + ((2 : Int64) * (w2.toInt64))) + ((3 : Int64) * (w3.toInt64)))) (4652218415073722368 : UInt64))), .second] [])) _
      refine XS.aload X64.here hx rfl (hb hby at_344) rfl rfl ?_
      show Steps p.tables e below (T64.setTop (mkF m 346 #[.val (.int x0), .val (.int x1), .val (.int x2), .val (.int x3), .val (.int x4), .val (.int (4 : Int32)), .val (.int ls), .val (.int w0), .val (.int w1), .val (.int w2), .val (.int w3), .val (.double (4652218415073722368 : UInt64)), .second, .val (.ref b54), .val (.ref b59), .val (.long (((((ls.toInt64) * (1024 : Int64)) + (w1.toInt64)) + ((2 : Int64) * (w2.toInt64))) + ((3 : Int64) * (w3.toInt64)))), .second, .val (.double (Jvm.FP.ddiv (Jvm.FP.l2d (((((ls.toInt64) * (1024 : Int64)) + (w1.toInt64)) + ((2 : Int64) * (w2.toInt64))) + ((3 : Int64) * (w3.toInt64)))) (4652218415073722368 : UInt64))), .second] [(.ref b59)])) _
      refine st67.trans ?_
      show Steps p.tables e below (T67.setTop (mkF m 349 #[.val (.int x0), .val (.int x1), .val (.int x2), .val (.int x3), .val (.int x4), .val (.int (4 : Int32)), .val (.int ls), .val (.int w0), .val (.int w1), .val (.int w2), .val (.int w3), .val (.double (4652218415073722368 : UInt64)), .second, .val (.ref b54), .val (.ref b59), .val (.long (((((ls.toInt64) * (1024 : Int64)) + (w1.toInt64)) + ((2 : Int64) * (w2.toInt64))) + ((3 : Int64) * (w3.toInt64)))), .second, .val (.double (Jvm.FP.ddiv (Jvm.FP.l2d (((((ls.toInt64) * (1024 : Int64)) + (w1.toInt64)) + ((2 : Int64) * (w2.toInt64))) + ((3 : Int64) * (w3.toInt64)))) (4652218415073722368 : UInt64))), .second] [(.double rr_67)])) _
      refine XS.dload X67.here hx rfl (hb hby at_349) rfl ?_
      show Steps p.tables e below (T67.setTop (mkF m 351 #[.val (.int x0), .val (.int x1), .val (.int x2), .val (.int x3), .val (.int x4), .val (.int (4 : Int32)), .val (.int ls), .val (.int w0), .val (.int w1), .val (.int w2), .val (.int w3), .val (.double (4652218415073722368 : UInt64)), .second, .val (.ref b54), .val (.ref b59), .val (.long (((((ls.toInt64) * (1024 : Int64)) + (w1.toInt64)) + ((2 : Int64) * (w2.toInt64))) + ((3 : Int64) * (w3.toInt64)))), .second, .val (.double (Jvm.FP.ddiv (Jvm.FP.l2d (((((ls.toInt64) * (1024 : Int64)) + (w1.toInt64)) + ((2 : Int64) * (w2.toInt64))) + ((3 : Int64) * (w3.toInt64)))) (4652218415073722368 : UInt64))), .second] [(.double (Jvm.FP.ddiv (Jvm.FP.l2d (((((ls.toInt64) * (1024 : Int64)) + (w1.toInt64)) + ((2 : Int64) * (w2.toInt64))) + ((3 : Int64) * (w3.toInt64)))) (4652218415073722368 : UInt64))), (.double rr_67)])) _
      refine XS.dcmpS X67.here hx rfl (hb hby at_351) rfl (v := (0 : Int32)) (own_eq G67_0 href (own_mean4 (a := nw0) (b := nw1) (c := nw2) (d := nw3) (by decide) (by omega) (by omega) (by omega) (by omega))) ?_
      show Steps p.tables e below (T67.setTop (mkF m 352 #[.val (.int x0), .val (.int x1), .val (.int x2), .val (.int x3), .val (.int x4), .val (.int (4 : Int32)), .val (.int ls), .val (.int w0), .val (.int w1), .val (.int w2), .val (.int w3), .val (.double (4652218415073722368 : UInt64)), .second, .val (.ref b54), .val (.ref b59), .val (.long (((((ls.toInt64) * (1024 : Int64)) + (w1.toInt64)) + ((2 : Int64) * (w2.toInt64))) + ((3 : Int64) * (w3.toInt64)))), .second, .val (.double (Jvm.FP.ddiv (Jvm.FP.l2d (((((ls.toInt64) * (1024 : Int64)) + (w1.toInt64)) + ((2 : Int64) * (w2.toInt64))) + ((3 : Int64) * (w3.toInt64)))) (4652218415073722368 : UInt64))), .second] [(.int (0 : Int32))])) _
      refine XS.ifNo X67.here hx rfl (hb hby at_352) rfl ((if0 _ _).trans (teq (rfl : (0 : Int32) = (0 : Int32))).2) ?_
      show Steps p.tables e below (T67.setTop (mkF m 355 #[.val (.int x0), .val (.int x1), .val (.int x2), .val (.int x3), .val (.int x4), .val (.int (4 : Int32)), .val (.int ls), .val (.int w0), .val (.int w1), .val (.int w2), .val (.int w3), .val (.double (4652218415073722368 : UInt64)), .second, .val (.ref b54), .val (.ref b59), .val (.long (((((ls.toInt64) * (1024 : Int64)) + (w1.toInt64)) + ((2 : Int64) * (w2.toInt64))) + ((3 : Int64) * (w3.toInt64)))), .second, .val (.double (Jvm.FP.ddiv (Jvm.FP.l2d (((((ls.toInt64) * (1024 : Int64)) + (w1.toInt64)) + ((2 : Int64) * (w2.toInt64))) + ((3 : Int64) * (w3.toInt64)))) (4652218415073722368 : UInt64))), .second] [])) _
      refine XS.iconst X67.here hx rfl (hb hby at_355) ?_
      show Steps p.tables e below (T67.setTop (mkF m 356 #[.val (.int x0), .val (.int x1), .val (.int x2), .val (.int x3), .val (.int x4), .val (.int (4 : Int32)), .val (.int ls), .val (.int w0), .val (.int w1), .val (.int w2), .val (.int w3), .val (.double (4652218415073722368 : UInt64)), .second, .val (.ref b54), .val (.ref b59), .val (.long (((((ls.toInt64) * (1024 : Int64)) + (w1.toInt64)) + ((2 : Int64) * (w2.toInt64))) + ((3 : Int64) * (w3.toInt64)))), .second, .val (.double (Jvm.FP.ddiv (Jvm.FP.l2d (((((ls.toInt64) * (1024 : Int64)) + (w1.toInt64)) + ((2 : Int64) * (w2.toInt64))) + ((3 : Int64) * (w3.toInt64)))) (4652218415073722368 : UInt64))), .second] [(.int (1 : Int32))])) _
      refine XS.goto X67.here hx rfl (pc0 := 356) (pc' := 360) rfl (hb hby at_356) (by decide) (by decide) ?_
      show Steps p.tables e below (T67.setTop (mkF m 360 #[.val (.int x0), .val (.int x1), .val (.int x2), .val (.int x3), .val (.int x4), .val (.int (4 : Int32)), .val (.int ls), .val (.int w0), .val (.int w1), .val (.int w2), .val (.int w3), .val (.double (4652218415073722368 : UInt64)), .second, .val (.ref b54), .val (.ref b59), .val (.long (((((ls.toInt64) * (1024 : Int64)) + (w1.toInt64)) + ((2 : Int64) * (w2.toInt64))) + ((3 : Int64) * (w3.toInt64)))), .second, .val (.double (Jvm.FP.ddiv (Jvm.FP.l2d (((((ls.toInt64) * (1024 : Int64)) + (w1.toInt64)) + ((2 : Int64) * (w2.toInt64))) + ((3 : Int64) * (w3.toInt64)))) (4652218415073722368 : UInt64))), .second] [(.int (1 : Int32))])) _
      exact retN X67 hx (t := .boolean) Bd.returns (by simp) (hb hby at_360) hr
    · show Q0 Z x0 x1 x2 x3 x4 h0 n0 _ T67.heap _
      rw [K67c]
      exact ⟨rfl, N67⟩

set_option maxRecDepth 65536 in
set_option maxHeartbeats 40000000 in
theorem comes_1 {Post : Tables → Env → Array Value → State → Outcome → State → Prop} (hpost : ∀ tb e args s v u, (limb_1_1.after args s (.returned v) u = true ∧ limb_1_2.after args s (.returned v) u = true ∧ True) → FrameEnd s (.returned v) u (Jvm.fieldLocs frame_1_writes args s ++ Jvm.arrayLocs frame_1_arrays args s ++ Jvm.staticLocs frame_1_statics s) 16 128 → Post tb e args s (.returned v) u) :
    ArmFor flags0 classFile x code maxLocals ret World_1 tables_1 room_1 Calls_1 rest_1 Pre_1 Post := by
  intro l hfl _ _ p e ha hc hk s m args below hf hA hF happ hP
  obtain ⟨hcalls, hrest, hpre⟩ := hP
  obtain ⟨-, -, -, hnamed, -, -, -, hat⟩ := (Spec.applies_iff hf).mp happ
  obtain ⟨hg, hn⟩ := and_e (Cond.before_iff.mp (show (Jvm.Cond.and given_1 narrow_1).before args s = true from hpre))
  obtain ⟨hcnt, hg0⟩ := and_e hg
  obtain ⟨ha0, hg1⟩ := and_e hg0
  obtain ⟨ha1, hg2⟩ := and_e hg1
  obtain ⟨ha2, hg3⟩ := and_e hg2
  obtain ⟨ha3, hg4⟩ := and_e hg3
  obtain ⟨w0, w1, w2, w3, w4, rfl⟩ : ∃ w0 w1 w2 w3 w4 : Value, args = #[w0, w1, w2, w3, w4] := by
    have hs : args.size = 5 := by simpa [Cond.value, given_1] using hcnt
    obtain ⟨L⟩ := args
    match L, hs with
    | [w0, w1, w2, w3, w4], _ => exact ⟨w0, w1, w2, w3, w4, rfl⟩
  have hw := fun d (hd : d ∈ tables_1) => atoms_spec (ws := Jvm.Cond.code x code maxLocals ret :: tables_1) hat d (List.mem_cons_of_mem _ hd)
  have hfit : Fit s := fun {y c} hc i hi => by
    obtain ⟨ha, rfl⟩ := Array.getElem?_eq_some_iff.mp hc
    have q := List.all_eq_true.mp ((Array.all_eq_true_iff_forall_mem.mp hF) _ (Array.getElem_mem ha)) i (List.mem_range.mpr hi)
    simpa [Array.getElem?_eq_getElem hi] using q
  obtain ⟨i0, ei0⟩ := is_v ha0
  obtain rfl : w0 = (.int i0) := Option.some.inj ei0
  obtain ⟨i1, ei1⟩ := is_v ha1
  obtain rfl : w1 = (.int i1) := Option.some.inj ei1
  obtain ⟨i2, ei2⟩ := is_v ha2
  obtain rfl : w2 = (.int i2) := Option.some.inj ei2
  obtain ⟨i3, ei3⟩ := is_v ha3
  obtain rfl : w3 = (.int i3) := Option.some.inj ei3
  obtain ⟨i4, ei4⟩ := is_v hg4
  obtain rfl : w4 = (.int i4) := Option.some.inj ei4
  obtain ⟨n, o, h1, h2, h3, _, L, rfl, ⟨rfl, N⟩, hq⟩ := rm0 l s _ hw tables_1 i0 i1 i2 i3 i4 s.heap s.heap.size (Nat.le_refl _)  p e ha hc hk s m _ below hf ((Spec.applies_iff_loose hf).mp happ).1 ⟨rfl, State.Warmed39.refl s, rfl⟩ trivial
  refine ⟨n, _, h1, h2, h3, hpost _ _ _ _ _ _ ⟨Cond.after_iff.mpr rfl, Cond.after_iff.mpr (eq_i res_at (Term.int_eval (1)) rfl), trivial⟩ ⟨hq.1, hq.2.1, (hq.2.2.sift fun y hy => Or.inr (N y hy)).mono (by decide) (by decide)⟩⟩
theorem main_1_1 : Claimed_1_1 := comes_1 fun _ _ _ _ _ _ h hF => ⟨h.1, hF⟩
theorem main_1_2 : Claimed_1_2 := comes_1 fun _ _ _ _ _ _ h hF => ⟨h.2.1, hF⟩
end Jvm.Pilot.@@N@@
namespace Jvm.Pilot.@@N@@
open Jvm Jvm.ClassFile Sem Op Lib Jvm.Free Jvm.Stand Jvm.Pilot.@@N@@.Jvm.D
/-! MADE BY PROGRAM (witnessworld.py) out of the Statement's table words and the real class files: 12 classes; the members and pool entries that the words name. The judged class is class 1, her method 1. -/
namespace start1
open Jvm.ClassFile
def u (s : String) : CpInfo := .utf8 (stringToUtf16 s)
/-- a pool by its gaps: so many unusable entries, then the entry; so many at the end -/
def gap : Nat → List CpInfo → List CpInfo
  | 0, r => r
  | n + 1, r => .unusable :: gap n r
def poolList (es : List (Nat × CpInfo)) (last : Nat) : List CpInfo := es.foldr (fun e r => gap e.1 (e.2 :: r)) (gap last [])
def pool (es : List (Nat × CpInfo)) (last : Nat) : Array CpInfo := ⟨poolList es last⟩
def fileOf (pool : Array CpInfo) (this : Nat) (attrs : Array Attribute := #[]) (ms : Array MethodInfo := #[]) (fl : Nat := 33) (sup : Nat := 0) (ifs : Array Nat := #[]) (fds : Array FieldInfo := #[]) : ClassFile where
  minorVersion := 0
  majorVersion := 65
  constantPool := pool
  accessFlags := fl
  thisClass := this
  superClass := sup
  interfaces := ifs
  fields := fds
  methods := ms
  attributes := attrs
def plain (name : String) (sup : Option ClassId) : Class where
  name := name
  kind := .ordinary
  loader := none
  accessFlags := 33
  super := sup
  interfaces := #[]
  cf := none
  fields := #[]
  methods := #[]
  instanceTypes := #[]
  staticTypes := #[]
  resolved := #[]
  callSites := []
  init := .initialized
  statics := none
  mirror := none

def pool0 : Array CpInfo := pool [(5, u "<init>"), (0, u "()V"), (1, .class_ 10), (1, u "java/lang/Object")] 113

def k0c0 : Code := { maxStack := 0, maxLocals := 1, code := object_method_1_code, exceptionTable := #[], attributes := #[] }
def k0m0 : Method := { name := "<init>", desc := "()V", sig := { parameters := [], returnType := none }, accessFlags := 1, code := some k0c0 }
/-- java/lang/Object -/
def k0 : Class := { plain "java/lang/Object" none with
  accessFlags := 33
  interfaces := #[]
  cf := some (fileOf pool0 8 #[] #[{ accessFlags := 1, nameIndex := 5, descriptorIndex := 6, attributes := #[] }] 33 0 #[] #[])
  fields := #[]
  methods := #[k0m0]
  instanceTypes := #[]
  staticTypes := #[]
  resolved := Array.replicate 124 none
  statics := none }

def pool1 : Array CpInfo := pool [(2, .class_ 4), (1, u "java/lang/Object"), (0, u "<init>"), (0, u "()V"), (0, .integer 2147483647), (2, .methodref 11 12), (0, .class_ 13), (0, .nameAndType 14 15), (0, u "java/lang/Math"), (0, u "min"), (0, u "(II)I"), (0, .double 4652218415073722368), (1, .class_ 19), (0, u "com/example/berthline/berthline/engine/pool/NextJobs"), (0, .methodref 18 21), (0, .nameAndType 5 22), (0, u "(I[D)V"), (0, .long 1024), (1, .long 2), (1, .long 3), (1, .methodref 18 30), (0, .nameAndType 31 32), (0, u "mean"), (0, u "()D"), (0, .class_ 34), (0, u "com/example/berthline/berthline/engine/pool/NextJobsMeanPinLaw"), (2, u "law"), (0, u "(IIIII)Z")] 5

def k1m0 : Method := { name := "<init>", desc := "()V", sig := { parameters := [], returnType := none }, accessFlags := 1, code := none }
def k1c1 : Code := { maxStack := 7, maxLocals := 19, code := code, exceptionTable := #[], attributes := #[] }
def k1m1 : Method := { name := "law", desc := "(IIIII)Z", sig := { parameters := [.int, .int, .int, .int, .int], returnType := some .boolean }, accessFlags := 9, code := some k1c1 }
/-- com/example/berthline/berthline/engine/pool/NextJobsMeanPinLaw -/
def k1 : Class := { plain "com/example/berthline/berthline/engine/pool/NextJobsMeanPinLaw" (some 0) with
  accessFlags := 49
  interfaces := #[]
  cf := some (fileOf pool1 33 #[] #[{ accessFlags := 1, nameIndex := 5, descriptorIndex := 6, attributes := #[] }, { accessFlags := 9, nameIndex := 37, descriptorIndex := 38, attributes := #[] }] 49 2 #[] #[])
  fields := #[]
  methods := #[k1m0, k1m1]
  instanceTypes := #[]
  staticTypes := #[]
  resolved := Array.replicate 44 none
  statics := none }

def pool2 : Array CpInfo := pool [(1, .class_ 2), (0, u "java/lang/Math"), (1, .class_ 6), (1, u "java/lang/Object"), (0, u "<init>"), (0, u "()V"), (89, .class_ 100), (1, u "java/lang/Math$RandomNumberGeneratorHolder"), (71, u "negativeZeroFloatBits"), (0, u "J"), (2, u "negativeZeroDoubleBits"), (24, u "min"), (43, u "$assertionsDisabled"), (0, u "Z"), (88, u "(II)I"), (2, u "twoToTheDoubleScaleDown"), (0, u "D"), (4, u "twoToTheDoubleScaleUp"), (9, u "E"), (3, u "PI"), (2, u "TAU"), (2, u "DEGREES_TO_RADIANS"), (0, u "RADIANS_TO_DEGREES")] 94

def k2m0 : Method := { name := "<init>", desc := "()V", sig := { parameters := [], returnType := none }, accessFlags := 2, code := none }
def k2c1 : Code := { maxStack := 2, maxLocals := 2, code := jdk_29_method_69_code, exceptionTable := #[], attributes := #[] }
def k2m1 : Method := { name := "min", desc := "(II)I", sig := { parameters := [.int, .int], returnType := some .int }, accessFlags := 9, code := some k2c1 }
/-- java/lang/Math -/
def k2 : Class := { plain "java/lang/Math" (some 0) with
  accessFlags := 49
  interfaces := #[]
  cf := some (fileOf pool2 1 #[.nestMembers #[98]] #[{ accessFlags := 2, nameIndex := 7, descriptorIndex := 8, attributes := #[] }, { accessFlags := 9, nameIndex := 201, descriptorIndex := 335, attributes := #[] }] 49 4 #[] #[{ accessFlags := 25, nameIndex := 354, descriptorIndex := 339, attributes := #[] }, { accessFlags := 25, nameIndex := 358, descriptorIndex := 339, attributes := #[] }, { accessFlags := 25, nameIndex := 361, descriptorIndex := 339, attributes := #[] }, { accessFlags := 26, nameIndex := 364, descriptorIndex := 339, attributes := #[] }, { accessFlags := 26, nameIndex := 365, descriptorIndex := 339, attributes := #[] }, { accessFlags := 26, nameIndex := 172, descriptorIndex := 173, attributes := #[] }, { accessFlags := 26, nameIndex := 176, descriptorIndex := 173, attributes := #[] }, { accessFlags := 8, nameIndex := 344, descriptorIndex := 339, attributes := #[] }, { accessFlags := 8, nameIndex := 338, descriptorIndex := 339, attributes := #[] }, { accessFlags := 4120, nameIndex := 245, descriptorIndex := 246, attributes := #[] }])
  fields := #[{ name := "E", type := .double, accessFlags := 25, slot := 0, constantValue := 0 }, { name := "PI", type := .double, accessFlags := 25, slot := 1, constantValue := 0 }, { name := "TAU", type := .double, accessFlags := 25, slot := 2, constantValue := 0 }, { name := "DEGREES_TO_RADIANS", type := .double, accessFlags := 26, slot := 3, constantValue := 0 }, { name := "RADIANS_TO_DEGREES", type := .double, accessFlags := 26, slot := 4, constantValue := 0 }, { name := "negativeZeroFloatBits", type := .long, accessFlags := 26, slot := 5, constantValue := 0 }, { name := "negativeZeroDoubleBits", type := .long, accessFlags := 26, slot := 6, constantValue := 0 }, { name := "twoToTheDoubleScaleUp", type := .double, accessFlags := 8, slot := 7, constantValue := 0 }, { name := "twoToTheDoubleScaleDown", type := .double, accessFlags := 8, slot := 8, constantValue := 0 }, { name := "$assertionsDisabled", type := .boolean, accessFlags := 4120, slot := 9, constantValue := 0 }]
  methods := #[k2m0, k2m1]
  instanceTypes := #[]
  staticTypes := #[.double, .double, .double, .double, .double, .long, .long, .double, .double, .boolean]
  resolved := Array.replicate 460 none
  statics := none }

def pool3 : Array CpInfo := pool [(1, .methodref 2 3), (0, .class_ 4), (0, .nameAndType 5 6), (0, u "java/lang/Object"), (0, u "<init>"), (0, u "()V"), (0, .fieldref 8 9), (0, .class_ 10), (0, .nameAndType 11 12), (0, u "com/example/berthline/berthline/engine/pool/NextJobs"), (0, u "least"), (0, u "I"), (0, .fieldref 8 14), (0, .nameAndType 15 16), (0, u "probabilities"), (0, u "[D"), (33, u "(I[D)V"), (8, u "SUM_TOLERANCE"), (0, u "D"), (9, u "mean"), (0, u "()D")] 19

def k3c0 : Code := { maxStack := 2, maxLocals := 3, code := prog_90_method_1_code, exceptionTable := #[], attributes := #[] }
def k3m0 : Method := { name := "<init>", desc := "(I[D)V", sig := { parameters := [.int, (.array .double)], returnType := none }, accessFlags := 0, code := some k3c0 }
def k3c1 : Code := { maxStack := 6, maxLocals := 4, code := prog_90_method_8_code, exceptionTable := #[], attributes := #[] }
def k3m1 : Method := { name := "mean", desc := "()D", sig := { parameters := [], returnType := some .double }, accessFlags := 1, code := some k3c1 }
/-- com/example/berthline/berthline/engine/pool/NextJobs -/
def k3 : Class := { plain "com/example/berthline/berthline/engine/pool/NextJobs" (some 0) with
  accessFlags := 49
  interfaces := #[]
  cf := some (fileOf pool3 8 #[] #[{ accessFlags := 0, nameIndex := 5, descriptorIndex := 50, attributes := #[] }, { accessFlags := 1, nameIndex := 70, descriptorIndex := 71, attributes := #[] }] 49 2 #[] #[{ accessFlags := 26, nameIndex := 59, descriptorIndex := 60, attributes := #[] }, { accessFlags := 18, nameIndex := 11, descriptorIndex := 12, attributes := #[] }, { accessFlags := 18, nameIndex := 15, descriptorIndex := 16, attributes := #[] }])
  fields := #[{ name := "SUM_TOLERANCE", type := .double, accessFlags := 26, slot := 0, constantValue := 0 }, { name := "least", type := .int, accessFlags := 18, slot := 0, constantValue := 0 }, { name := "probabilities", type := (.array .double), accessFlags := 18, slot := 1, constantValue := 0 }]
  methods := #[k3m0, k3m1]
  instanceTypes := #[.int, (.array .double)]
  staticTypes := #[.double]
  resolved := Array.replicate 91 none
  statics := none }

def pool4 : Array CpInfo := pool [(1, u "java/lang/Cloneable"), (0, .class_ 1), (0, u "java/lang/Object"), (0, .class_ 3)] 3

/-- java/lang/Cloneable -/
def k4 : Class := { plain "java/lang/Cloneable" (some 0) with
  accessFlags := 1537
  interfaces := #[]
  cf := some (fileOf pool4 2 #[] #[] 1537 4 #[] #[])
  fields := #[]
  methods := #[]
  instanceTypes := #[]
  staticTypes := #[]
  resolved := Array.replicate 8 none
  statics := none }

def pool5 : Array CpInfo := pool [(1, u "java/io/Serializable"), (0, .class_ 1), (0, u "java/lang/Object"), (0, .class_ 3)] 3

/-- java/io/Serializable -/
def k5 : Class := { plain "java/io/Serializable" (some 0) with
  accessFlags := 1537
  interfaces := #[]
  cf := some (fileOf pool5 2 #[] #[] 1537 4 #[] #[])
  fields := #[]
  methods := #[]
  instanceTypes := #[]
  staticTypes := #[]
  resolved := Array.replicate 8 none
  statics := none }

/-- the primitive byte -/
def k6 : Class := { plain "byte" none with kind := .primitive 'B', accessFlags := 0x411 }
/-- [B -/
def k7 : Class := { plain "[B" (some 0) with kind := .array 6 .byte, interfaces := #[4, 5], accessFlags := 1041 }

/-- the primitive double -/
def k8 : Class := { plain "double" none with kind := .primitive 'D', accessFlags := 0x411 }
/-- [D -/
def k9 : Class := { plain "[D" (some 0) with kind := .array 8 .double, interfaces := #[4, 5], accessFlags := 1041 }

/-- the primitive int -/
def k10 : Class := { plain "int" none with kind := .primitive 'I', accessFlags := 0x411 }
/-- [I -/
def k11 : Class := { plain "[I" (some 0) with kind := .array 10 .int, interfaces := #[4, 5], accessFlags := 1041 }

def heap : Heap := #[]
def classes : Array Class := #[k0, k1, k2, k3, k4, k5, k6, k7, k8, k9, k10, k11]
def interned : List (Array UInt16 × Addr) := []
def slotsUsed : Nat := 0
def theMethod : MethodId := ⟨1, 1⟩
def args0 : Array Value := #[.int 5, .int 7, .int 5, .int 7, .int 5]
def aboutOver (below : List Frame) : State where
  vm := { classes := classes, interned := interned.toArray }
  heap := heap
  slotsUsed := slotsUsed
  threads := #[{ frames := .invoking theMethod args0 :: below }]
def below0 : List Frame := [.native { method := ⟨0, 0⟩, args := #[] }]
def about1 : State := aboutOver below0
def p0 : Program := .bare "" "" ""
def e0 : Env := launch0.env 0 0 0
theorem w_frames : about1.frames = Frame.invoking theMethod args0 :: below0 := rfl
set_option maxRecDepth 65536 in
theorem w_args : argsFit about1.vm theMethod args0 = true := by decide +kernel
set_option maxRecDepth 65536 in
theorem w_heap : heapFits about1 = true := by decide +kernel
set_option maxRecDepth 65536 in
theorem w_runnable : about1.curStatus? = some .runnable := by decide +kernel
set_option maxRecDepth 65536 in
theorem w_alone : about1.alone = true := by decide +kernel
set_option maxRecDepth 65536 in
theorem w_named : about1.methodNamed? x = some theMethod := by decide +kernel
set_option maxRecDepth 65536 in
theorem w_hears : about1.hears theMethod below0 = true := by decide +kernel
set_option maxRecDepth 65536 in
theorem w_ripe : about1.ripe theMethod args0 below0 = true := by decide +kernel
theorem w_running : about1.status = .running := rfl
set_option maxRecDepth 65536 in
theorem w_room : about1.hasRoom e0.platform room_1 = true :=
  launch0.hasRoom_least _ room_1 (by decide +kernel) (by decide +kernel) (by decide +kernel) (by decide +kernel) (by decide +kernel) (by decide +kernel)
theorem allAtoms_all (ts : List Jvm.Cond) (a : Array Jvm.Value) (st : Jvm.State) : (allAtoms ts).before a st = ts.all (fun c => c.before a st) := by
  induction ts with
  | nil => rfl
  | cons c t ih =>
    show (Jvm.Cond.and c (allAtoms t)).before a st = _
    rw [Jvm.Cond.before_and, ih, List.all_cons]
def words1 : List Jvm.Cond := Jvm.Cond.code x code maxLocals ret :: tables_1
/-- a 'code' word, met by the world's own term for the bytes: nothing is compared byte by byte -/
theorem code_word {y : MethodName} {bytes : ByteArray} {mx : Nat} {rt : Option FieldType} {a : Array Value} {s : State} {m : MethodId} {meth : Method} {c : Code} (h1 : s.methodNamed? y = some m) (h2 : s.vm.method? m = some meth) (h3 : meth.code = some c) (h4 : c.code = bytes)
    (h5 : (c.maxLocals == mx && c.exceptionTable.isEmpty && decide (c.maxStack ≤ mostOperands) && decide (meth.sig.returnType = rt) && !meth.locks && decide (parseMethodDescriptor y.desc = some meth.sig)) = true) : (Jvm.Cond.code y bytes mx rt).before a s = true := by
  simp only [Bool.and_eq_true, beq_iff_eq, Bool.not_eq_true', decide_eq_true_eq] at h5
  obtain ⟨⟨⟨⟨⟨g1, g2⟩, g3⟩, g4⟩, g5⟩, g6⟩ := h5
  simp [Cond.before, Cond.holds, Cond.value, h1, h2, h3, h4, g1, g2, g3, g4, g5, g6]
def isCode : Jvm.Cond → Bool
  | .code _ _ _ _ => true
  | _ => false
theorem all_split {L : List Jvm.Cond} {P : Jvm.Cond → Bool} (h1 : L.all (fun c => isCode c || P c) = true) (h2 : ∀ c ∈ L.filter isCode, P c = true) : L.all P = true := by
  refine List.all_eq_true.mpr fun c hc => ?_
  have h := List.all_eq_true.mp h1 c hc
  rcases Bool.eq_false_or_eq_true (isCode c) with hi | hi
  · exact h2 c (List.mem_filter.mpr ⟨hc, hi⟩)
  · simpa [hi] using h
set_option maxRecDepth 65536 in
theorem w_c0 : (Jvm.Cond.code x code maxLocals ret).before args0 about1 = true := code_word (m := ⟨1, 1⟩) (meth := k1m1) (c := k1c1) (by decide +kernel) rfl rfl rfl (by decide +kernel)
set_option maxRecDepth 65536 in
theorem w_c1 : (Jvm.Cond.code ({ cls := "java/lang/Math", name := "min", desc := "(II)I" } : Jvm.MethodName) jdk_29_method_69_code (2 : Nat) (Option.some Jvm.ClassFile.FieldType.int)).before args0 about1 = true := code_word (m := ⟨2, 1⟩) (meth := k2m1) (c := k2c1) (by decide +kernel) rfl rfl rfl (by decide +kernel)
set_option maxRecDepth 65536 in
theorem w_c2 : (Jvm.Cond.code ({ cls := "com/example/berthline/berthline/engine/pool/NextJobs", name := "<init>", desc := "(I[D)V" } : Jvm.MethodName) prog_90_method_1_code (3 : Nat) (Option.none : Option Jvm.ClassFile.FieldType)).before args0 about1 = true := code_word (m := ⟨3, 0⟩) (meth := k3m0) (c := k3c0) (by decide +kernel) rfl rfl rfl (by decide +kernel)
set_option maxRecDepth 65536 in
theorem w_c3 : (Jvm.Cond.code ({ cls := "java/lang/Object", name := "<init>", desc := "()V" } : Jvm.MethodName) object_method_1_code (1 : Nat) (Option.none : Option Jvm.ClassFile.FieldType)).before args0 about1 = true := code_word (m := ⟨0, 0⟩) (meth := k0m0) (c := k0c0) (by decide +kernel) rfl rfl rfl (by decide +kernel)
set_option maxRecDepth 65536 in
theorem w_c4 : (Jvm.Cond.code ({ cls := "com/example/berthline/berthline/engine/pool/NextJobs", name := "mean", desc := "()D" } : Jvm.MethodName) prog_90_method_8_code (4 : Nat) (Option.some Jvm.ClassFile.FieldType.double)).before args0 about1 = true := code_word (m := ⟨3, 1⟩) (meth := k3m1) (c := k3c1) (by decide +kernel) rfl rfl rfl (by decide +kernel)
def codes1 : List Jvm.Cond := [Jvm.Cond.code x code maxLocals ret, Jvm.Cond.code ({ cls := "java/lang/Math", name := "min", desc := "(II)I" } : Jvm.MethodName) jdk_29_method_69_code (2 : Nat) (Option.some Jvm.ClassFile.FieldType.int), Jvm.Cond.code ({ cls := "com/example/berthline/berthline/engine/pool/NextJobs", name := "<init>", desc := "(I[D)V" } : Jvm.MethodName) prog_90_method_1_code (3 : Nat) (Option.none : Option Jvm.ClassFile.FieldType), Jvm.Cond.code ({ cls := "java/lang/Object", name := "<init>", desc := "()V" } : Jvm.MethodName) object_method_1_code (1 : Nat) (Option.none : Option Jvm.ClassFile.FieldType), Jvm.Cond.code ({ cls := "com/example/berthline/berthline/engine/pool/NextJobs", name := "mean", desc := "()D" } : Jvm.MethodName) prog_90_method_8_code (4 : Nat) (Option.some Jvm.ClassFile.FieldType.double)]
set_option maxRecDepth 65536 in
theorem codes_eq : words1.filter isCode = codes1 := rfl
theorem w_codes : ∀ c ∈ words1.filter isCode, c.before args0 about1 = true := by
  rw [codes_eq]
  intro c hc
  simp only [codes1, List.mem_cons, List.not_mem_nil, or_false] at hc
  rcases hc with rfl | rfl | rfl | rfl | rfl
  · exact w_c0
  · exact w_c1
  · exact w_c2
  · exact w_c3
  · exact w_c4
set_option maxRecDepth 65536 in
theorem w_t1 : (words1.take 24).all (fun c => isCode c || c.before args0 about1) = true := by decide +kernel
set_option maxRecDepth 65536 in
theorem w_t2 : (words1.drop 24).all (fun c => isCode c || c.before args0 about1) = true := by decide +kernel
theorem w_tables : (allAtoms (Jvm.Cond.code x code maxLocals ret :: tables_1)).before args0 about1 = true := by
  rw [allAtoms_all]
  show words1.all (fun c => c.before args0 about1) = true
  refine all_split ?_ w_codes
  rw [← List.take_append_drop 24 words1, List.all_append, w_t1, w_t2]
  rfl
set_option maxRecDepth 65536 in
theorem w_case : (Jvm.Cond.and given_1 narrow_1).before args0 about1 = true := by decide +kernel
theorem w_applies : (headSpec (Jvm.Cond.code x code maxLocals ret :: tables_1) room_1).applies x e0.platform about1 = true :=
  (Spec.applies_iff w_frames).mpr ⟨w_running, w_runnable, w_alone, w_named, w_hears, w_ripe, w_room, w_tables⟩
theorem atStart : AtStart classFile x code maxLocals ret World_1 tables_1 room_1 Calls_1 rest_1 Pre_1 launch0 p0 e0 about1 theMethod args0 below0 :=
  ⟨lists_1, trivial, launch0.admits_env _ _ _, launch0.least_env, fairChoices_fair.cas, fairChoices_fair.clock, w_frames, w_args, w_heap, w_applies, trivial, trivial, w_case⟩
end start1
theorem witness_1 : WitnessClaimed_1 := ⟨start1.p0, start1.e0, start1.about1, start1.theMethod, start1.args0, start1.below0, start1.atStart⟩
end Jvm.Pilot.@@N@@
