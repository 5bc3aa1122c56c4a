import JvmDerived
import JvmDerived.Pilot.@@N@@Statement
import JvmDerived.Pilot.@@N@@Code
set_option linter.unusedVariables false
set_option linter.unusedSimpArgs false
namespace Jvm.RoadKit
open Sem ClassFile Op Lib Jvm.Stand Jvm.Free Jvm.LawKit
section New
variable {p : Program} {l : Launch} {e : Env} {R : Room} {s : State} {m : MethodId} {args : Array Value} {below : List Frame} {meth : Method} {c : Code} {T : State} {locs : List Loc} {cells slots : Nat}
theorem retI (X : Stand p l e R s m args below meth c T locs cells slots) (hx : p.tables.exec = Jvm.exec) {pc : Nat} {Ls : Array Slot} {z : Int32} {rest : List Value} (hret : meth.sig.returnType = some .int) (hd : decode c.code pc = .ok (.ireturn, 1)) {fs : List Frame}
    (hl : ∀ (f : JFrame) (acts : List Action), f.method = m → f.locked = none → f.entered = [] → (doReturn e (T.setTop f) acts (some (.int z))).1 = T.setFrames fs) : Steps p.tables e below (T.setTop (mkF m pc Ls (.int z :: rest))) (T.setFrames fs) := by
  have hm' : T.vm.method? m = some meth := X.method'
  have hn : narrow .int (.int z) = .int z := rfl
  show Steps p.tables e below (T.setTop { method := m, pc := pc, locals := Ls, stack := _ :: rest, locked := none }) _
  jvm_step X.here [X.here.top, hx, hd, hm', hret, hn]
  first | (intro acts; rw [hl _ acts rfl rfl rfl]) | rw [hl _ _ rfl rfl rfl]
  exact Steps.refl _
end New
end Jvm.RoadKit
namespace Jvm.Pilot.@@N@@
open Jvm Jvm.ClassFile Sem Op Lib Jvm.Free Jvm.Stand Jvm.LawKit Jvm.RoadKit Bundle Jvm.Pilot.@@N@@.Jvm.D

def own_tk (r p w a : Int32) : Int32 := if a < r then 0 else if w = 0 then (if p < a then 0 else 1) else 1
def own_ex (r p v a : Int32) : Int32 := if a < r then 0 else if p < a then nar .boolean v else nar .boolean 1
theorem own_one (x : Int32) : x &&& 1 = 0 ∨ x &&& 1 = 1 := by
  have h := Jvm.RoadKit.fits_nar_bool x
  simpa [fits, nar] using h
theorem own_eq (r p v a : Int32) : own_tk r p (nar .boolean v) a = own_ex r p v a := by
  have h1 : nar .boolean 1 = 1 := by decide
  have h := own_one v
  unfold own_ex
  rw [h1]
  have e : nar .boolean v = v &&& 1 := rfl
  rw [e]
  generalize v &&& 1 = w at h
  have n1 : ¬ ((1 : Int32) = 0) := by decide
  unfold own_tk
  rcases h with rfl | rfl
  · rw [if_pos rfl]
  · rw [if_neg n1]
    by_cases q : p < a
    · rw [if_pos q]
    · rw [if_neg q]

theorem d1_0 : decode prog_4_method_1_code 0 = .ok (.aload_n 0, 1) := by decide +kernel
theorem d1_1 : decode prog_4_method_1_code 1 = .ok (.invokespecial 1, 3) := by decide +kernel
theorem d1_4 : decode prog_4_method_1_code 4 = .ok (.aload_n 0, 1) := by decide +kernel
theorem d1_5 : decode prog_4_method_1_code 5 = .ok (.iload_n 1, 1) := by decide +kernel
theorem d1_6 : decode prog_4_method_1_code 6 = .ok (.putfield 7, 3) := by decide +kernel
theorem d1_9 : decode prog_4_method_1_code 9 = .ok (.aload_n 0, 1) := by decide +kernel
theorem d1_10 : decode prog_4_method_1_code 10 = .ok (.iload_n 2, 1) := by decide +kernel
theorem d1_11 : decode prog_4_method_1_code 11 = .ok (.putfield 13, 3) := by decide +kernel
theorem d1_14 : decode prog_4_method_1_code 14 = .ok (.aload_n 0, 1) := by decide +kernel
theorem d1_15 : decode prog_4_method_1_code 15 = .ok (.iload_n 3, 1) := by decide +kernel
theorem d1_16 : decode prog_4_method_1_code 16 = .ok (.putfield 16, 3) := by decide +kernel
theorem d1_19 : decode prog_4_method_1_code 19 = .ok (.return_, 1) := by decide +kernel
theorem pn_com_example_alterlint_alterlint_Arity : plainName "com/example/alterlint/alterlint/Arity" = true := by first | (simp [plainName, overriddenIn]; done) | decide +kernel
theorem ef_1 (m : MethodId) (aa : Addr) (xr : Int32) (xp : Int32) (xv : Int32) : entryFrame m #[(.ref aa), (.int xr), (.int xp), (.int xv)] 4 = mkF m 0 #[.val (.ref aa), .val (.int xr), .val (.int xp), .val (.int xv)] [] := by first | (simp [entryFrame, mkF, argsToLocals, Value.category]; done) | rfl
def Q1 (Z : State) (aa : Addr) (xr : Int32) (xp : Int32) (xv : Int32) (h0 : Heap) (n0 : Nat) (v : Option Value) (h : Heap) (L : List Loc) : Prop := v = none ∧ Fr n0 L ∧ Keep h0 h [aa] ∧ Exa Z h aa "com/example/alterlint/alterlint/Arity" ∧ Fld Z h aa "com/example/alterlint/alterlint/Arity" "required" "I" (.int xr) ∧ Fld Z h aa "com/example/alterlint/alterlint/Arity" "parameters" "I" (.int xp) ∧ Fld Z h aa "com/example/alterlint/alterlint/Arity" "variadic" "Z" (.int (nar .boolean xv))
set_option maxRecDepth 65536 in
set_option maxHeartbeats 40000000 in
theorem rm1 (l : Launch) (Z : State) (a0 : Array Value) (hw : ∀ d ∈ tables_1, d.before a0 Z = true) (ws : List Jvm.Cond) (aa : Addr) (xr : Int32) (xp : Int32) (xv : Int32) (h0 : Heap) (n0 : Nat) (Z0 : n0 ≤ h0.size) (E_a : Exa Z h0 aa "com/example/alterlint/alterlint/Arity") (F_r : Fld Z h0 aa "com/example/alterlint/alterlint/Arity" "required" "I" (.int (0 : Int32))) (F_p : Fld Z h0 aa "com/example/alterlint/alterlint/Arity" "parameters" "I" (.int (0 : Int32))) (F_v : Fld Z h0 aa "com/example/alterlint/alterlint/Arity" "variadic" "Z" (.int (0 : Int32))) (g_a : n0 ≤ aa) :
    MetFree l (⟨"com/example/alterlint/alterlint/Arity", "<init>", "(IIZ)V"⟩ : MethodName) (head1 (Jvm.Cond.code (⟨"com/example/alterlint/alterlint/Arity", "<init>", "(IIZ)V"⟩ : MethodName) prog_4_method_1_code 4 none :: ws) ({ frames := 1, cells := 0, slots := 0, locals := 12 } : Room)) (fun a U => a = #[(.ref aa), (.int xr), (.int xp), (.int xv)] ∧ Z.Warmed39 U.vm ∧ U.heap = h0) (fun _ _ _ _ _ => True) (fun _ U o U' => ∃ v L, o = .returned v ∧ Q1 Z aa xr xp xv h0 n0 v U'.heap L ∧ FrameEnd U o U' L ({ frames := 1, cells := 0, slots := 0, locals := 12 } : Room).cells ({ frames := 1, cells := 0, slots := 0, locals := 12 } : Room).slots) := by
  refine MetFree.of_bodySF (plainFor_of_name pn_com_example_alterlint_alterlint_Arity) hisR ?_
  intro p e s m args below meth c s₁ Bd hml0 hP hK
  obtain ⟨rfl, hZ, hh⟩ := hP
  have hx := Bd.exec
  have hby := Bd.bytes
  have hml : c.maxLocals = 4 := hml0
  have hown : s.vm.findClass "com/example/alterlint/alterlint/Arity" = some m.cls := findClass_of_methodNamed Bd.named
  have hnm := (name_of_methodNamed Bd.named Bd.method).1
  have X0 : Stand p l e ({ frames := 1, cells := 0, slots := 0, locals := 12 } : Room) s m #[(.ref aa), (.int xr), (.int xp), (.int xv)] below meth c s₁ [] 0 0 := Stand.of_body Bd
  have e0 : s₁.heap = h0 := by rw [← hh, Bd.state]; rfl
  have N0 := Fr.nil n0
  have pre0 : ∀ t, Steps p.tables e below (s₁.setTop (mkF m 0 #[.val (.ref aa), .val (.int xr), .val (.int xp), .val (.int xv)] [])) t → Steps p.tables e below (s₁.setTop (entryFrame m #[(.ref aa), (.int xr), (.int xp), (.int xv)] 4)) t := fun t k => castTop (ef_1 m aa xr xp xv) k
  obtain ⟨T1, X1, e1, st1⟩ := initO X0 hx hZ hown (hw _ (List.mem_of_getElem? (i := 7) rfl)) (hw _ (List.mem_of_getElem? (i := 8) rfl)) (hw _ (List.mem_of_getElem? (i := 9) rfl)) e0 (g := (mkF m 1 #[.val (.ref aa), .val (.int xr), .val (.int xp), .val (.int xv)] [(.ref aa)])) rfl (by rw [hml]; rfl) rfl (hb hby d1_1) (by decide) (W := 0) (by show 2 * 0 + _ ≤ _; exact Nat.le_of_eq rfl) (by decide)
  obtain ⟨T2, h2, X2, e2, W2, st2⟩ := putF X1 hx hZ hown (host := "") (Or.inl (hw _ (List.mem_of_getElem? (i := 10) rfl))) Via.refl e1 F_r E_a (Or.inr ⟨(hw _ (List.mem_of_getElem? (i := 11) rfl)), rfl, hnm⟩) (hw _ (List.mem_of_getElem? (i := 2) rfl)) (ty := .int) (by decide) rfl rfl (g := (mkF m 6 #[.val (.ref aa), .val (.int xr), .val (.int xp), .val (.int xv)] [(.int xr), (.ref aa)])) rfl rfl (hb hby d1_6)
  have Fw2 : Fld Z h2 aa "com/example/alterlint/alterlint/Arity" "required" "I" (.int xr) := Fld.same W2 F_r
  have E_3 := E_a.wr W2
  have F_4 := F_p.other W2 (Or.inr (slot_ne (Or.inr (hw _ (List.mem_of_getElem? (i := 13) rfl))) (Or.inr (hw _ (List.mem_of_getElem? (i := 11) rfl))) (by decide) (t := .int) (t' := .int) (by decide) (by decide)))
  have F_5 := F_v.other W2 (Or.inr (slot_ne (Or.inr (hw _ (List.mem_of_getElem? (i := 15) rfl))) (Or.inr (hw _ (List.mem_of_getElem? (i := 11) rfl))) (by decide) (t := .boolean) (t' := .int) (by decide) (by decide)))
  have N2 := Fr.snoc X2 N0 g_a
  have Z2 : n0 ≤ h2.size := Nat.le_trans Z0 (Keep.of_wr W2).1
  have K2 : Keep h0 h2 [aa] := (Keep.refl h0 [aa]).wr W2 (Or.inl (List.mem_of_getElem? (i := 0) rfl))
  obtain ⟨T6, h6, X6, e6, W6, st6⟩ := putF X2 hx hZ hown (host := "") (Or.inl (hw _ (List.mem_of_getElem? (i := 12) rfl))) Via.refl e2 F_4 E_3 (Or.inr ⟨(hw _ (List.mem_of_getElem? (i := 13) rfl)), rfl, hnm⟩) (hw _ (List.mem_of_getElem? (i := 2) rfl)) (ty := .int) (by decide) rfl rfl (g := (mkF m 11 #[.val (.ref aa), .val (.int xr), .val (.int xp), .val (.int xv)] [(.int xp), (.ref aa)])) rfl rfl (hb hby d1_11)
  have Fw6 : Fld Z h6 aa "com/example/alterlint/alterlint/Arity" "parameters" "I" (.int xp) := Fld.same W6 F_4
  have E_7 := E_3.wr W6
  have F_8 := F_5.other W6 (Or.inr (slot_ne (Or.inr (hw _ (List.mem_of_getElem? (i := 15) rfl))) (Or.inr (hw _ (List.mem_of_getElem? (i := 13) rfl))) (by decide) (t := .boolean) (t' := .int) (by decide) (by decide)))
  have F_9 := Fw2.other W6 (Or.inr (slot_ne (Or.inr (hw _ (List.mem_of_getElem? (i := 11) rfl))) (Or.inr (hw _ (List.mem_of_getElem? (i := 13) rfl))) (by decide) (t := .int) (t' := .int) (by decide) (by decide)))
  have N6 := Fr.snoc X6 N2 g_a
  have Z6 : n0 ≤ h6.size := Nat.le_trans Z2 (Keep.of_wr W6).1
  have K6 : Keep h0 h6 [aa] := K2.wr W6 (Or.inl (List.mem_of_getElem? (i := 0) rfl))
  obtain ⟨T10, h10, X10, e10, W10, st10⟩ := putFN X6 hx hZ hown (hw _ (List.mem_of_getElem? (i := 14) rfl)) Via.refl e6 F_8 E_7 (Or.inr ⟨(hw _ (List.mem_of_getElem? (i := 15) rfl)), rfl, hnm⟩) (hw _ (List.mem_of_getElem? (i := 2) rfl)) (ty := .boolean) (v' := .int (nar .boolean xv)) (by decide) rfl (fits_nar_bool _) (g := (mkF m 16 #[.val (.ref aa), .val (.int xr), .val (.int xp), .val (.int xv)] [(.int xv), (.ref aa)])) rfl rfl (hb hby d1_16)
  have Fw10 : Fld Z h10 aa "com/example/alterlint/alterlint/Arity" "variadic" "Z" (.int (nar .boolean xv)) := Fld.same W10 F_8
  have E_11 := E_7.wr W10
  have F_12 := F_9.other W10 (Or.inr (slot_ne (Or.inr (hw _ (List.mem_of_getElem? (i := 11) rfl))) (Or.inr (hw _ (List.mem_of_getElem? (i := 15) rfl))) (by decide) (t := .int) (t' := .boolean) (by decide) (by decide)))
  have F_13 := Fw6.other W10 (Or.inr (slot_ne (Or.inr (hw _ (List.mem_of_getElem? (i := 13) rfl))) (Or.inr (hw _ (List.mem_of_getElem? (i := 15) rfl))) (by decide) (t := .int) (t' := .boolean) (by decide) (by decide)))
  have N10 := Fr.snoc X10 N6 g_a
  have Z10 : n0 ≤ h10.size := Nat.le_trans Z6 (Keep.of_wr W10).1
  have K10 : Keep h0 h10 [aa] := K6.wr W10 (Or.inl (List.mem_of_getElem? (i := 0) rfl))
  obtain ⟨fs, hr, hrun, hended, hW, hsame⟩ := X10.leave (v := none) (fun _ => rfl)
  refine ⟨_, _, pre0 _ ?_, hrun, hended, _, _, rfl, ?_, ⟨_, rfl⟩, hW, hsame.mono (by decide) (by decide)⟩
  · show Steps p.tables e below (s₁.setTop (mkF m 0 #[.val (.ref aa), .val (.int xr), .val (.int xp), .val (.int xv)] [])) _
    refine XS.aloadN X0.here hx rfl (hb hby d1_0) rfl rfl ?_
    show Steps p.tables e below (s₁.setTop (mkF m 1 #[.val (.ref aa), .val (.int xr), .val (.int xp), .val (.int xv)] [(.ref aa)])) _
    refine st1 _ ?_
    show Steps p.tables e below (T1.setTop (mkF m 4 #[.val (.ref aa), .val (.int xr), .val (.int xp), .val (.int xv)] [])) _
    refine XS.aloadN X1.here hx rfl (hb hby d1_4) rfl rfl ?_
    show Steps p.tables e below (T1.setTop (mkF m 5 #[.val (.ref aa), .val (.int xr), .val (.int xp), .val (.int xv)] [(.ref aa)])) _
    refine XS.iloadN X1.here hx rfl (hb hby d1_5) rfl ?_
    show Steps p.tables e below (T1.setTop (mkF m 6 #[.val (.ref aa), .val (.int xr), .val (.int xp), .val (.int xv)] [(.int xr), (.ref aa)])) _
    refine st2 _ ?_
    show Steps p.tables e below (T2.setTop (mkF m 9 #[.val (.ref aa), .val (.int xr), .val (.int xp), .val (.int xv)] [])) _
    refine XS.aloadN X2.here hx rfl (hb hby d1_9) rfl rfl ?_
    show Steps p.tables e below (T2.setTop (mkF m 10 #[.val (.ref aa), .val (.int xr), .val (.int xp), .val (.int xv)] [(.ref aa)])) _
    refine XS.iloadN X2.here hx rfl (hb hby d1_10) rfl ?_
    show Steps p.tables e below (T2.setTop (mkF m 11 #[.val (.ref aa), .val (.int xr), .val (.int xp), .val (.int xv)] [(.int xp), (.ref aa)])) _
    refine st6 _ ?_
    show Steps p.tables e below (T6.setTop (mkF m 14 #[.val (.ref aa), .val (.int xr), .val (.int xp), .val (.int xv)] [])) _
    refine XS.aloadN X6.here hx rfl (hb hby d1_14) rfl rfl ?_
    show Steps p.tables e below (T6.setTop (mkF m 15 #[.val (.ref aa), .val (.int xr), .val (.int xp), .val (.int xv)] [(.ref aa)])) _
    refine XS.iloadN X6.here hx rfl (hb hby d1_15) rfl ?_
    show Steps p.tables e below (T6.setTop (mkF m 16 #[.val (.ref aa), .val (.int xr), .val (.int xp), .val (.int xv)] [(.int xv), (.ref aa)])) _
    refine st10 _ ?_
    show Steps p.tables e below (T10.setTop (mkF m 19 #[.val (.ref aa), .val (.int xr), .val (.int xp), .val (.int xv)] [])) _
    exact X10.returnOut hx Bd.returns (hb hby d1_19) hr
  · show Q1 Z aa xr xp xv h0 n0 _ T10.heap _
    rw [e10]
    exact ⟨rfl, N10, K10, E_11, F_12, F_13, Fw10⟩

theorem d3_0 : decode prog_4_method_2_code 0 = .ok (.iload_n 1, 1) := by decide +kernel
theorem d3_1 : decode prog_4_method_2_code 1 = .ok (.aload_n 0, 1) := by decide +kernel
theorem d3_2 : decode prog_4_method_2_code 2 = .ok (.getfield 7, 3) := by decide +kernel
theorem d3_5 : decode prog_4_method_2_code 5 = .ok (.if_icmp .lt 22, 3) := by decide +kernel
theorem d3_27 : decode prog_4_method_2_code 27 = .ok (.iconst 0, 1) := by decide +kernel
theorem d3_28 : decode prog_4_method_2_code 28 = .ok (.ireturn, 1) := by decide +kernel
theorem d3_8 : decode prog_4_method_2_code 8 = .ok (.aload_n 0, 1) := by decide +kernel
theorem d3_9 : decode prog_4_method_2_code 9 = .ok (.getfield 16, 3) := by decide +kernel
theorem d3_12 : decode prog_4_method_2_code 12 = .ok (.ifCond .ne 11, 3) := by decide +kernel
theorem d3_15 : decode prog_4_method_2_code 15 = .ok (.iload_n 1, 1) := by decide +kernel
theorem d3_16 : decode prog_4_method_2_code 16 = .ok (.aload_n 0, 1) := by decide +kernel
theorem d3_17 : decode prog_4_method_2_code 17 = .ok (.getfield 13, 3) := by decide +kernel
theorem d3_20 : decode prog_4_method_2_code 20 = .ok (.if_icmp .gt 7, 3) := by decide +kernel
theorem d3_23 : decode prog_4_method_2_code 23 = .ok (.iconst 1, 1) := by decide +kernel
theorem d3_24 : decode prog_4_method_2_code 24 = .ok (.goto 4, 3) := by decide +kernel
theorem ef_3 (m : MethodId) (aa : Addr) (xa : Int32) : entryFrame m #[(.ref aa), (.int xa)] 2 = mkF m 0 #[.val (.ref aa), .val (.int xa)] [] := by first | (simp [entryFrame, mkF, argsToLocals, Value.category]; done) | rfl
def Q3 (Z : State) (aa : Addr) (xa : Int32) (xr : Int32) (xp : Int32) (xw : Int32) (h0 : Heap) (n0 : Nat) (v : Option Value) (h : Heap) (L : List Loc) : Prop := v = some (.int (own_tk xr xp xw xa)) ∧ Fr n0 L ∧ h = h0
set_option maxRecDepth 65536 in
set_option maxHeartbeats 40000000 in
theorem rm3 (l : Launch) (Z : State) (a0 : Array Value) (hw : ∀ d ∈ tables_1, d.before a0 Z = true) (ws : List Jvm.Cond) (aa : Addr) (xa : Int32) (xr : Int32) (xp : Int32) (xw : Int32) (h0 : Heap) (n0 : Nat) (Z0 : n0 ≤ h0.size) (F_r : Fld Z h0 aa "com/example/alterlint/alterlint/Arity" "required" "I" (.int xr)) (F_p : Fld Z h0 aa "com/example/alterlint/alterlint/Arity" "parameters" "I" (.int xp)) (F_v : Fld Z h0 aa "com/example/alterlint/alterlint/Arity" "variadic" "Z" (.int xw)) :
    MetFree l (⟨"com/example/alterlint/alterlint/Arity", "takes", "(I)Z"⟩ : MethodName) (head1 (Jvm.Cond.code (⟨"com/example/alterlint/alterlint/Arity", "takes", "(I)Z"⟩ : MethodName) prog_4_method_2_code 2 (some .boolean) :: ws) ({ frames := 0, cells := 0, slots := 0, locals := 0 } : Room)) (fun a U => a = #[(.ref aa), (.int xa)] ∧ Z.Warmed39 U.vm ∧ U.heap = h0) (fun _ _ _ _ _ => True) (fun _ U o U' => ∃ v L, o = .returned v ∧ Q3 Z aa xa xr xp xw h0 n0 v U'.heap L ∧ FrameEnd U o U' L ({ frames := 0, cells := 0, slots := 0, locals := 0 } : Room).cells ({ frames := 0, cells := 0, slots := 0, locals := 0 } : Room).slots) := by
  refine MetFree.of_bodySF (plainFor_of_name pn_com_example_alterlint_alterlint_Arity) hisR ?_
  intro p e s m args below meth c s₁ Bd hml0 hP hK
  obtain ⟨rfl, hZ, hh⟩ := hP
  have hx := Bd.exec
  have hby := Bd.bytes
  have hml : c.maxLocals = 2 := hml0
  have hown : s.vm.findClass "com/example/alterlint/alterlint/Arity" = some m.cls := findClass_of_methodNamed Bd.named
  have hnm := (name_of_methodNamed Bd.named Bd.method).1
  have X0 : Stand p l e ({ frames := 0, cells := 0, slots := 0, locals := 0 } : Room) s m #[(.ref aa), (.int xa)] below meth c s₁ [] 0 0 := Stand.of_body Bd
  have e0 : s₁.heap = h0 := by rw [← hh, Bd.state]; rfl
  have N0 := Fr.nil n0
  have pre0 : ∀ t, Steps p.tables e below (s₁.setTop (mkF m 0 #[.val (.ref aa), .val (.int xa)] [])) t → Steps p.tables e below (s₁.setTop (entryFrame m #[(.ref aa), (.int xa)] 2)) t := fun t k => castTop (ef_3 m aa xa) k
  obtain ⟨T14, X14, e14, st14⟩ := getF X0 hx hZ hown (host := "") (Or.inl (hw _ (List.mem_of_getElem? (i := 10) rfl))) Via.refl e0 F_r (g := (mkF m 2 #[.val (.ref aa), .val (.int xa)] [(.ref aa), (.int xa)])) rfl rfl (hb hby d3_2)
  by_cases hc15 : xa < xr
  · obtain ⟨fs, hr, hrun, hended, hW, hsame⟩ := X14.leave (v := some (.int (0 : Int32))) (fun h => by rw [Bd.returns] at h; cases h)
    refine ⟨_, _, pre0 _ ?_, hrun, hended, _, _, rfl, ?_, ⟨_, rfl⟩, hW, hsame.mono (by decide) (by decide)⟩
    · show Steps p.tables e below (s₁.setTop (mkF m 0 #[.val (.ref aa), .val (.int xa)] [])) _
      refine XS.iloadN X0.here hx rfl (hb hby d3_0) rfl ?_
      show Steps p.tables e below (s₁.setTop (mkF m 1 #[.val (.ref aa), .val (.int xa)] [(.int xa)])) _
      refine XS.aloadN X0.here hx rfl (hb hby d3_1) rfl rfl ?_
      show Steps p.tables e below (s₁.setTop (mkF m 2 #[.val (.ref aa), .val (.int xa)] [(.ref aa), (.int xa)])) _
      refine st14 _ ?_
      show Steps p.tables e below (T14.setTop (mkF m 5 #[.val (.ref aa), .val (.int xa)] [(.int xr), (.int xa)])) _
      refine XS.icmpYes X14.here hx rfl (pc0 := 5) (pc' := 27) rfl (hb hby d3_5) rfl (tlt hc15).1 (by decide) (by decide) ?_
      show Steps p.tables e below (T14.setTop (mkF m 27 #[.val (.ref aa), .val (.int xa)] [])) _
      refine XS.iconst X14.here hx rfl (hb hby d3_27) ?_
      show Steps p.tables e below (T14.setTop (mkF m 28 #[.val (.ref aa), .val (.int xa)] [(.int (0 : Int32))])) _
      exact retN X14 hx (t := .boolean) Bd.returns (by simp) (hb hby d3_28) hr
    · show Q3 Z aa xa xr xp xw h0 n0 _ T14.heap _
      rw [e14]
      exact ⟨(congrArg some (congrArg Value.int (by simp [own_tk, hc15]))), N0, rfl⟩
  · obtain ⟨T16, X16, e16, st16⟩ := getF X14 hx hZ hown (host := "") (Or.inl (hw _ (List.mem_of_getElem? (i := 14) rfl))) Via.refl e14 F_v (g := (mkF m 9 #[.val (.ref aa), .val (.int xa)] [(.ref aa)])) rfl rfl (hb hby d3_9)
    by_cases hc17 : xw = (0 : Int32)
    · obtain ⟨T18, X18, e18, st18⟩ := getF X16 hx hZ hown (host := "") (Or.inl (hw _ (List.mem_of_getElem? (i := 12) rfl))) Via.refl e16 F_p (g := (mkF m 17 #[.val (.ref aa), .val (.int xa)] [(.ref aa), (.int xa)])) rfl rfl (hb hby d3_17)
      by_cases hc19 : xp < xa
      · obtain ⟨fs, hr, hrun, hended, hW, hsame⟩ := X18.leave (v := some (.int (0 : Int32))) (fun h => by rw [Bd.returns] at h; cases h)
        refine ⟨_, _, pre0 _ ?_, hrun, hended, _, _, rfl, ?_, ⟨_, rfl⟩, hW, hsame.mono (by decide) (by decide)⟩
        · show Steps p.tables e below (s₁.setTop (mkF m 0 #[.val (.ref aa), .val (.int xa)] [])) _
          refine XS.iloadN X0.here hx rfl (hb hby d3_0) rfl ?_
          show Steps p.tables e below (s₁.setTop (mkF m 1 #[.val (.ref aa), .val (.int xa)] [(.int xa)])) _
          refine XS.aloadN X0.here hx rfl (hb hby d3_1) rfl rfl ?_
          show Steps p.tables e below (s₁.setTop (mkF m 2 #[.val (.ref aa), .val (.int xa)] [(.ref aa), (.int xa)])) _
          refine st14 _ ?_
          show Steps p.tables e below (T14.setTop (mkF m 5 #[.val (.ref aa), .val (.int xa)] [(.int xr), (.int xa)])) _
          refine XS.icmpNo X14.here hx rfl (hb hby d3_5) rfl (flt hc15).1 ?_
          show Steps p.tables e below (T14.setTop (mkF m 8 #[.val (.ref aa), .val (.int xa)] [])) _
          refine XS.aloadN X14.here hx rfl (hb hby d3_8) rfl rfl ?_
          show Steps p.tables e below (T14.setTop (mkF m 9 #[.val (.ref aa), .val (.int xa)] [(.ref aa)])) _
          refine st16 _ ?_
          show Steps p.tables e below (T16.setTop (mkF m 12 #[.val (.ref aa), .val (.int xa)] [(.int xw)])) _
          refine XS.ifNo X16.here hx rfl (hb hby d3_12) rfl ((if0 _ _).trans (teq hc17).2) ?_
          show Steps p.tables e below (T16.setTop (mkF m 15 #[.val (.ref aa), .val (.int xa)] [])) _
          refine XS.iloadN X16.here hx rfl (hb hby d3_15) rfl ?_
          show Steps p.tables e below (T16.setTop (mkF m 16 #[.val (.ref aa), .val (.int xa)] [(.int xa)])) _
          refine XS.aloadN X16.here hx rfl (hb hby d3_16) rfl rfl ?_
          show Steps p.tables e below (T16.setTop (mkF m 17 #[.val (.ref aa), .val (.int xa)] [(.ref aa), (.int xa)])) _
          refine st18 _ ?_
          show Steps p.tables e below (T18.setTop (mkF m 20 #[.val (.ref aa), .val (.int xa)] [(.int xp), (.int xa)])) _
          refine XS.icmpYes X18.here hx rfl (pc0 := 20) (pc' := 27) rfl (hb hby d3_20) rfl (tlt hc19).2.2.1 (by decide) (by decide) ?_
          show Steps p.tables e below (T18.setTop (mkF m 27 #[.val (.ref aa), .val (.int xa)] [])) _
          refine XS.iconst X18.here hx rfl (hb hby d3_27) ?_
          show Steps p.tables e below (T18.setTop (mkF m 28 #[.val (.ref aa), .val (.int xa)] [(.int (0 : Int32))])) _
          exact retN X18 hx (t := .boolean) Bd.returns (by simp) (hb hby d3_28) hr
        · show Q3 Z aa xa xr xp xw h0 n0 _ T18.heap _
          rw [e18]
          exact ⟨(congrArg some (congrArg Value.int (by simp [own_tk, hc15, hc17, hc19]))), N0, rfl⟩
      · obtain ⟨fs, hr, hrun, hended, hW, hsame⟩ := X18.leave (v := some (.int (1 : Int32))) (fun h => by rw [Bd.returns] at h; cases h)
        refine ⟨_, _, pre0 _ ?_, hrun, hended, _, _, rfl, ?_, ⟨_, rfl⟩, hW, hsame.mono (by decide) (by decide)⟩
        · show Steps p.tables e below (s₁.setTop (mkF m 0 #[.val (.ref aa), .val (.int xa)] [])) _
          refine XS.iloadN X0.here hx rfl (hb hby d3_0) rfl ?_
          show Steps p.tables e below (s₁.setTop (mkF m 1 #[.val (.ref aa), .val (.int xa)] [(.int xa)])) _
          refine XS.aloadN X0.here hx rfl (hb hby d3_1) rfl rfl ?_
          show Steps p.tables e below (s₁.setTop (mkF m 2 #[.val (.ref aa), .val (.int xa)] [(.ref aa), (.int xa)])) _
          refine st14 _ ?_
          show Steps p.tables e below (T14.setTop (mkF m 5 #[.val (.ref aa), .val (.int xa)] [(.int xr), (.int xa)])) _
          refine XS.icmpNo X14.here hx rfl (hb hby d3_5) rfl (flt hc15).1 ?_
          show Steps p.tables e below (T14.setTop (mkF m 8 #[.val (.ref aa), .val (.int xa)] [])) _
          refine XS.aloadN X14.here hx rfl (hb hby d3_8) rfl rfl ?_
          show Steps p.tables e below (T14.setTop (mkF m 9 #[.val (.ref aa), .val (.int xa)] [(.ref aa)])) _
          refine st16 _ ?_
          show Steps p.tables e below (T16.setTop (mkF m 12 #[.val (.ref aa), .val (.int xa)] [(.int xw)])) _
          refine XS.ifNo X16.here hx rfl (hb hby d3_12) rfl ((if0 _ _).trans (teq hc17).2) ?_
          show Steps p.tables e below (T16.setTop (mkF m 15 #[.val (.ref aa), .val (.int xa)] [])) _
          refine XS.iloadN X16.here hx rfl (hb hby d3_15) rfl ?_
          show Steps p.tables e below (T16.setTop (mkF m 16 #[.val (.ref aa), .val (.int xa)] [(.int xa)])) _
          refine XS.aloadN X16.here hx rfl (hb hby d3_16) rfl rfl ?_
          show Steps p.tables e below (T16.setTop (mkF m 17 #[.val (.ref aa), .val (.int xa)] [(.ref aa), (.int xa)])) _
          refine st18 _ ?_
          show Steps p.tables e below (T18.setTop (mkF m 20 #[.val (.ref aa), .val (.int xa)] [(.int xp), (.int xa)])) _
          refine XS.icmpNo X18.here hx rfl (hb hby d3_20) rfl (flt hc19).2.2.1 ?_
          show Steps p.tables e below (T18.setTop (mkF m 23 #[.val (.ref aa), .val (.int xa)] [])) _
          refine XS.iconst X18.here hx rfl (hb hby d3_23) ?_
          show Steps p.tables e below (T18.setTop (mkF m 24 #[.val (.ref aa), .val (.int xa)] [(.int (1 : Int32))])) _
          refine XS.goto X18.here hx rfl (pc0 := 24) (pc' := 28) rfl (hb hby d3_24) (by decide) (by decide) ?_
          show Steps p.tables e below (T18.setTop (mkF m 28 #[.val (.ref aa), .val (.int xa)] [(.int (1 : Int32))])) _
          exact retN X18 hx (t := .boolean) Bd.returns (by simp) (hb hby d3_28) hr
        · show Q3 Z aa xa xr xp xw h0 n0 _ T18.heap _
          rw [e18]
          exact ⟨(congrArg some (congrArg Value.int (by simp [own_tk, hc15, hc17, hc19]))), N0, rfl⟩
    · obtain ⟨fs, hr, hrun, hended, hW, hsame⟩ := X16.leave (v := some (.int (1 : Int32))) (fun h => by rw [Bd.returns] at h; cases h)
      refine ⟨_, _, pre0 _ ?_, hrun, hended, _, _, rfl, ?_, ⟨_, rfl⟩, hW, hsame.mono (by decide) (by decide)⟩
      · show Steps p.tables e below (s₁.setTop (mkF m 0 #[.val (.ref aa), .val (.int xa)] [])) _
        refine XS.iloadN X0.here hx rfl (hb hby d3_0) rfl ?_
        show Steps p.tables e below (s₁.setTop (mkF m 1 #[.val (.ref aa), .val (.int xa)] [(.int xa)])) _
        refine XS.aloadN X0.here hx rfl (hb hby d3_1) rfl rfl ?_
        show Steps p.tables e below (s₁.setTop (mkF m 2 #[.val (.ref aa), .val (.int xa)] [(.ref aa), (.int xa)])) _
        refine st14 _ ?_
        show Steps p.tables e below (T14.setTop (mkF m 5 #[.val (.ref aa), .val (.int xa)] [(.int xr), (.int xa)])) _
        refine XS.icmpNo X14.here hx rfl (hb hby d3_5) rfl (flt hc15).1 ?_
        show Steps p.tables e below (T14.setTop (mkF m 8 #[.val (.ref aa), .val (.int xa)] [])) _
        refine XS.aloadN X14.here hx rfl (hb hby d3_8) rfl rfl ?_
        show Steps p.tables e below (T14.setTop (mkF m 9 #[.val (.ref aa), .val (.int xa)] [(.ref aa)])) _
        refine st16 _ ?_
        show Steps p.tables e below (T16.setTop (mkF m 12 #[.val (.ref aa), .val (.int xa)] [(.int xw)])) _
        refine XS.ifYes X16.here hx rfl (pc0 := 12) (pc' := 23) rfl (hb hby d3_12) rfl ((if0 _ _).trans (feq hc17).2) (by decide) (by decide) ?_
        show Steps p.tables e below (T16.setTop (mkF m 23 #[.val (.ref aa), .val (.int xa)] [])) _
        refine XS.iconst X16.here hx rfl (hb hby d3_23) ?_
        show Steps p.tables e below (T16.setTop (mkF m 24 #[.val (.ref aa), .val (.int xa)] [(.int (1 : Int32))])) _
        refine XS.goto X16.here hx rfl (pc0 := 24) (pc' := 28) rfl (hb hby d3_24) (by decide) (by decide) ?_
        show Steps p.tables e below (T16.setTop (mkF m 28 #[.val (.ref aa), .val (.int xa)] [(.int (1 : Int32))])) _
        exact retN X16 hx (t := .boolean) Bd.returns (by simp) (hb hby d3_28) hr
      · show Q3 Z aa xa xr xp xw h0 n0 _ T16.heap _
        rw [e16]
        exact ⟨(congrArg some (congrArg Value.int (by simp [own_tk, hc15, hc17]))), N0, rfl⟩

theorem d4_0 : decode method_2_code 0 = .ok (.iload_n 3, 1) := by decide +kernel
theorem d4_1 : decode method_2_code 1 = .ok (.iload_n 0, 1) := by decide +kernel
theorem d4_2 : decode method_2_code 2 = .ok (.if_icmp .ge 5, 3) := by decide +kernel
theorem d4_5 : decode method_2_code 5 = .ok (.iconst 0, 1) := by decide +kernel
theorem d4_6 : decode method_2_code 6 = .ok (.ireturn, 1) := by decide +kernel
theorem d4_7 : decode method_2_code 7 = .ok (.iload_n 3, 1) := by decide +kernel
theorem d4_8 : decode method_2_code 8 = .ok (.iload_n 1, 1) := by decide +kernel
theorem d4_9 : decode method_2_code 9 = .ok (.if_icmp .gt 5, 3) := by decide +kernel
theorem d4_14 : decode method_2_code 14 = .ok (.iload_n 2, 1) := by decide +kernel
theorem d4_15 : decode method_2_code 15 = .ok (.ireturn, 1) := by decide +kernel
theorem d4_12 : decode method_2_code 12 = .ok (.iconst 1, 1) := by decide +kernel
theorem d4_13 : decode method_2_code 13 = .ok (.ireturn, 1) := by decide +kernel
theorem pn_com_example_alterlint_alterlint_ArityTakesPinLaw : plainName "com/example/alterlint/alterlint/ArityTakesPinLaw" = true := by first | (simp [plainName, overriddenIn]; done) | decide +kernel
theorem ef_4 (m : MethodId) (xr : Int32) (xp : Int32) (xv : Int32) (xa : Int32) : entryFrame m #[(.int xr), (.int xp), (.int xv), (.int xa)] 4 = mkF m 0 #[.val (.int xr), .val (.int xp), .val (.int xv), .val (.int xa)] [] := by first | (simp [entryFrame, mkF, argsToLocals, Value.category]; done) | rfl
def Q4 (Z : State) (xr : Int32) (xp : Int32) (xv : Int32) (xa : Int32) (h0 : Heap) (n0 : Nat) (v : Option Value) (h : Heap) (L : List Loc) : Prop := v = some (.int (own_ex xr xp xv xa)) ∧ Fr n0 L ∧ h = h0
set_option maxRecDepth 65536 in
set_option maxHeartbeats 40000000 in
theorem rm4 (l : Launch) (Z : State) (a0 : Array Value) (hw : ∀ d ∈ tables_1, d.before a0 Z = true) (ws : List Jvm.Cond) (xr : Int32) (xp : Int32) (xv : Int32) (xa : Int32) (h0 : Heap) (n0 : Nat) (Z0 : n0 ≤ h0.size) :
    MetFree l (⟨"com/example/alterlint/alterlint/ArityTakesPinLaw", "expected", "(IIZI)Z"⟩ : MethodName) (head1 (Jvm.Cond.code (⟨"com/example/alterlint/alterlint/ArityTakesPinLaw", "expected", "(IIZI)Z"⟩ : MethodName) method_2_code 4 (some .boolean) :: ws) ({ frames := 0, cells := 0, slots := 0, locals := 0 } : Room)) (fun a U => a = #[(.int xr), (.int xp), (.int xv), (.int xa)] ∧ Z.Warmed39 U.vm ∧ U.heap = h0) (fun _ _ _ _ _ => True) (fun _ U o U' => ∃ v L, o = .returned v ∧ Q4 Z xr xp xv xa h0 n0 v U'.heap L ∧ FrameEnd U o U' L ({ frames := 0, cells := 0, slots := 0, locals := 0 } : Room).cells ({ frames := 0, cells := 0, slots := 0, locals := 0 } : Room).slots) := by
  refine MetFree.of_bodySF (plainFor_of_name pn_com_example_alterlint_alterlint_ArityTakesPinLaw) hisR ?_
  intro p e s m args below meth c s₁ Bd hml0 hP hK
  obtain ⟨rfl, hZ, hh⟩ := hP
  have hx := Bd.exec
  have hby := Bd.bytes
  have hml : c.maxLocals = 4 := hml0
  have hown : s.vm.findClass "com/example/alterlint/alterlint/ArityTakesPinLaw" = some m.cls := findClass_of_methodNamed Bd.named
  have hnm := (name_of_methodNamed Bd.named Bd.method).1
  have X0 : Stand p l e ({ frames := 0, cells := 0, slots := 0, locals := 0 } : Room) s m #[(.int xr), (.int xp), (.int xv), (.int xa)] below meth c s₁ [] 0 0 := Stand.of_body Bd
  have e0 : s₁.heap = h0 := by rw [← hh, Bd.state]; rfl
  have N0 := Fr.nil n0
  have pre0 : ∀ t, Steps p.tables e below (s₁.setTop (mkF m 0 #[.val (.int xr), .val (.int xp), .val (.int xv), .val (.int xa)] [])) t → Steps p.tables e below (s₁.setTop (entryFrame m #[(.int xr), (.int xp), (.int xv), (.int xa)] 4)) t := fun t k => castTop (ef_4 m xr xp xv xa) k
  by_cases hc20 : xa < xr
  · obtain ⟨fs, hr, hrun, hended, hW, hsame⟩ := X0.leave (v := some (.int (0 : Int32))) (fun h => by rw [Bd.returns] at h; cases h)
    refine ⟨_, _, pre0 _ ?_, hrun, hended, _, _, rfl, ?_, ⟨_, rfl⟩, hW, hsame.mono (by decide) (by decide)⟩
    · show Steps p.tables e below (s₁.setTop (mkF m 0 #[.val (.int xr), .val (.int xp), .val (.int xv), .val (.int xa)] [])) _
      refine XS.iloadN X0.here hx rfl (hb hby d4_0) rfl ?_
      show Steps p.tables e below (s₁.setTop (mkF m 1 #[.val (.int xr), .val (.int xp), .val (.int xv), .val (.int xa)] [(.int xa)])) _
      refine XS.iloadN X0.here hx rfl (hb hby d4_1) rfl ?_
      show Steps p.tables e below (s₁.setTop (mkF m 2 #[.val (.int xr), .val (.int xp), .val (.int xv), .val (.int xa)] [(.int xr), (.int xa)])) _
      refine XS.icmpNo X0.here hx rfl (hb hby d4_2) rfl (tlt hc20).2.1 ?_
      show Steps p.tables e below (s₁.setTop (mkF m 5 #[.val (.int xr), .val (.int xp), .val (.int xv), .val (.int xa)] [])) _
      refine XS.iconst X0.here hx rfl (hb hby d4_5) ?_
      show Steps p.tables e below (s₁.setTop (mkF m 6 #[.val (.int xr), .val (.int xp), .val (.int xv), .val (.int xa)] [(.int (0 : Int32))])) _
      exact retN X0 hx (t := .boolean) Bd.returns (by simp) (hb hby d4_6) hr
    · show Q4 Z xr xp xv xa h0 n0 _ s₁.heap _
      rw [e0]
      exact ⟨(congrArg some (congrArg Value.int (by simp [own_ex, nar, hc20]))), N0, rfl⟩
  · by_cases hc21 : xp < xa
    · obtain ⟨fs, hr, hrun, hended, hW, hsame⟩ := X0.leave (v := some (.int (nar .boolean xv))) (fun h => by rw [Bd.returns] at h; cases h)
      refine ⟨_, _, pre0 _ ?_, hrun, hended, _, _, rfl, ?_, ⟨_, rfl⟩, hW, hsame.mono (by decide) (by decide)⟩
      · show Steps p.tables e below (s₁.setTop (mkF m 0 #[.val (.int xr), .val (.int xp), .val (.int xv), .val (.int xa)] [])) _
        refine XS.iloadN X0.here hx rfl (hb hby d4_0) rfl ?_
        show Steps p.tables e below (s₁.setTop (mkF m 1 #[.val (.int xr), .val (.int xp), .val (.int xv), .val (.int xa)] [(.int xa)])) _
        refine XS.iloadN X0.here hx rfl (hb hby d4_1) rfl ?_
        show Steps p.tables e below (s₁.setTop (mkF m 2 #[.val (.int xr), .val (.int xp), .val (.int xv), .val (.int xa)] [(.int xr), (.int xa)])) _
        refine XS.icmpYes X0.here hx rfl (pc0 := 2) (pc' := 7) rfl (hb hby d4_2) rfl (flt hc20).2.1 (by decide) (by decide) ?_
        show Steps p.tables e below (s₁.setTop (mkF m 7 #[.val (.int xr), .val (.int xp), .val (.int xv), .val (.int xa)] [])) _
        refine XS.iloadN X0.here hx rfl (hb hby d4_7) rfl ?_
        show Steps p.tables e below (s₁.setTop (mkF m 8 #[.val (.int xr), .val (.int xp), .val (.int xv), .val (.int xa)] [(.int xa)])) _
        refine XS.iloadN X0.here hx rfl (hb hby d4_8) rfl ?_
        show Steps p.tables e below (s₁.setTop (mkF m 9 #[.val (.int xr), .val (.int xp), .val (.int xv), .val (.int xa)] [(.int xp), (.int xa)])) _
        refine XS.icmpYes X0.here hx rfl (pc0 := 9) (pc' := 14) rfl (hb hby d4_9) rfl (tlt hc21).2.2.1 (by decide) (by decide) ?_
        show Steps p.tables e below (s₁.setTop (mkF m 14 #[.val (.int xr), .val (.int xp), .val (.int xv), .val (.int xa)] [])) _
        refine XS.iloadN X0.here hx rfl (hb hby d4_14) rfl ?_
        show Steps p.tables e below (s₁.setTop (mkF m 15 #[.val (.int xr), .val (.int xp), .val (.int xv), .val (.int xa)] [(.int xv)])) _
        exact retN X0 hx (t := .boolean) Bd.returns (by simp) (hb hby d4_15) hr
      · show Q4 Z xr xp xv xa h0 n0 _ s₁.heap _
        rw [e0]
        exact ⟨(congrArg some (congrArg Value.int (by simp [own_ex, nar, hc20, hc21]))), N0, rfl⟩
    · obtain ⟨fs, hr, hrun, hended, hW, hsame⟩ := X0.leave (v := some (.int (1 : Int32))) (fun h => by rw [Bd.returns] at h; cases h)
      refine ⟨_, _, pre0 _ ?_, hrun, hended, _, _, rfl, ?_, ⟨_, rfl⟩, hW, hsame.mono (by decide) (by decide)⟩
      · show Steps p.tables e below (s₁.setTop (mkF m 0 #[.val (.int xr), .val (.int xp), .val (.int xv), .val (.int xa)] [])) _
        refine XS.iloadN X0.here hx rfl (hb hby d4_0) rfl ?_
        show Steps p.tables e below (s₁.setTop (mkF m 1 #[.val (.int xr), .val (.int xp), .val (.int xv), .val (.int xa)] [(.int xa)])) _
        refine XS.iloadN X0.here hx rfl (hb hby d4_1) rfl ?_
        show Steps p.tables e below (s₁.setTop (mkF m 2 #[.val (.int xr), .val (.int xp), .val (.int xv), .val (.int xa)] [(.int xr), (.int xa)])) _
        refine XS.icmpYes X0.here hx rfl (pc0 := 2) (pc' := 7) rfl (hb hby d4_2) rfl (flt hc20).2.1 (by decide) (by decide) ?_
        show Steps p.tables e below (s₁.setTop (mkF m 7 #[.val (.int xr), .val (.int xp), .val (.int xv), .val (.int xa)] [])) _
        refine XS.iloadN X0.here hx rfl (hb hby d4_7) rfl ?_
        show Steps p.tables e below (s₁.setTop (mkF m 8 #[.val (.int xr), .val (.int xp), .val (.int xv), .val (.int xa)] [(.int xa)])) _
        refine XS.iloadN X0.here hx rfl (hb hby d4_8) rfl ?_
        show Steps p.tables e below (s₁.setTop (mkF m 9 #[.val (.int xr), .val (.int xp), .val (.int xv), .val (.int xa)] [(.int xp), (.int xa)])) _
        refine XS.icmpNo X0.here hx rfl (hb hby d4_9) rfl (flt hc21).2.2.1 ?_
        show Steps p.tables e below (s₁.setTop (mkF m 12 #[.val (.int xr), .val (.int xp), .val (.int xv), .val (.int xa)] [])) _
        refine XS.iconst X0.here hx rfl (hb hby d4_12) ?_
        show Steps p.tables e below (s₁.setTop (mkF m 13 #[.val (.int xr), .val (.int xp), .val (.int xv), .val (.int xa)] [(.int (1 : Int32))])) _
        exact retN X0 hx (t := .boolean) Bd.returns (by simp) (hb hby d4_13) hr
      · show Q4 Z xr xp xv xa h0 n0 _ s₁.heap _
        rw [e0]
        exact ⟨(congrArg some (congrArg Value.int (by simp [own_ex, nar, hc20, hc21]))), N0, rfl⟩

theorem pd_717487 : parseMethodDescriptor "(IIZ)V" = some ⟨[.int, .int, .boolean], none⟩ := by decide +kernel
theorem pd_722888 : parseMethodDescriptor "(I)Z" = some ⟨[.int], some .boolean⟩ := by decide +kernel
theorem pd_53803 : parseMethodDescriptor "(IIZI)Z" = some ⟨[.int, .int, .boolean, .int], some .boolean⟩ := by decide +kernel
theorem ef_0 (m : MethodId) (xx : Int32) (xy : Int32) (xf : Int32) (xa : Int32) : entryFrame m #[(.int xx), (.int xy), (.int xf), (.int xa)] maxLocals = mkF m 0 #[.val (.int xx), .val (.int xy), .val (.int xf), .val (.int xa), .unset, .unset, .unset, .unset, .unset] [] := by first | (simp [entryFrame, mkF, argsToLocals, Value.category, maxLocals]; done) | rfl
def Q0 (Z : State) (xx : Int32) (xy : Int32) (xf : Int32) (xa : Int32) (h0 : Heap) (n0 : Nat) (v : Option Value) (h : Heap) (L : List Loc) : Prop := v = some (.int 1) ∧ Fr n0 L
set_option maxRecDepth 65536 in
set_option maxHeartbeats 40000000 in
theorem rm0 (l : Launch) (Z : State) (a0 : Array Value) (hw : ∀ d ∈ tables_1, d.before a0 Z = true) (ws : List Jvm.Cond) (xx : Int32) (xy : Int32) (xf : Int32) (xa : Int32) (h0 : Heap) (n0 : Nat) (Z0 : n0 ≤ h0.size) :
    MetFree l x (head1 (Jvm.Cond.code x code maxLocals ret :: ws) room_1) (fun a U => a = #[(.int xx), (.int xy), (.int xf), (.int xa)] ∧ Z.Warmed39 U.vm ∧ U.heap = h0) (fun _ _ _ _ _ => True) (fun _ U o U' => ∃ v L, o = .returned v ∧ Q0 Z xx xy xf xa h0 n0 v U'.heap L ∧ FrameEnd U o U' L room_1.cells room_1.slots) := by
  refine MetFree.of_bodySF (plainFor_of_name pn_com_example_alterlint_alterlint_ArityTakesPinLaw) hisR ?_
  intro p e s m args below meth c s₁ Bd hml0 hP hK
  obtain ⟨rfl, hZ, hh⟩ := hP
  have hx := Bd.exec
  have hby := Bd.bytes
  have hml : c.maxLocals = 9 := hml0
  have hown : s.vm.findClass "com/example/alterlint/alterlint/ArityTakesPinLaw" = some m.cls := findClass_of_methodNamed Bd.named
  have hnm := (name_of_methodNamed Bd.named Bd.method).1
  have X0 : Stand p l e room_1 s m #[(.int xx), (.int xy), (.int xf), (.int xa)] below meth c s₁ [] 0 0 := Stand.of_body Bd
  have e0 : s₁.heap = h0 := by rw [← hh, Bd.state]; rfl
  have N0 := Fr.nil n0
  have pre0 : ∀ t, Steps p.tables e below (s₁.setTop (mkF m 0 #[.val (.int xx), .val (.int xy), .val (.int xf), .val (.int xa), .unset, .unset, .unset, .unset, .unset] [])) t → Steps p.tables e below (s₁.setTop (entryFrame m #[(.int xx), (.int xy), (.int xf), (.int xa)] maxLocals)) t := fun t k => castTop (ef_0 m xx xy xf xa) k
  have jn23 : ∀ t, Steps p.tables e below (s₁.setTop (mkF m 26 #[.val (.int xx), .val (.int xy), .val (.int xf), .val (.int xa), .val (.int (xx &&& (1073741823 : Int32))), .val (.int ((xx &&& (1073741823 : Int32)) + (xy &&& (1073741823 : Int32)))), .unset, .unset, .unset] [(.int (if (xf &&& (1 : Int32)) = (0 : Int32) then (0 : Int32) else (1 : Int32)))])) t → Steps p.tables e below (s₁.setTop (mkF m 18 #[.val (.int xx), .val (.int xy), .val (.int xf), .val (.int xa), .val (.int (xx &&& (1073741823 : Int32))), .val (.int ((xx &&& (1073741823 : Int32)) + (xy &&& (1073741823 : Int32)))), .unset, .unset, .unset] [(.int (xf &&& (1 : Int32)))])) t := by
    intro t kt
    by_cases hc22 : (xf &&& (1 : Int32)) = (0 : Int32)
    · simp only [if_pos hc22] at kt
      show Steps p.tables e below (s₁.setTop (mkF m 18 #[.val (.int xx), .val (.int xy), .val (.int xf), .val (.int xa), .val (.int (xx &&& (1073741823 : Int32))), .val (.int ((xx &&& (1073741823 : Int32)) + (xy &&& (1073741823 : Int32)))), .unset, .unset, .unset] [(.int (xf &&& (1 : Int32)))])) _
      refine XS.ifYes X0.here hx rfl (pc0 := 18) (pc' := 25) rfl (hb hby at_18) rfl ((if0 _ _).trans (teq hc22).1) (by decide) (by decide) ?_
      show Steps p.tables e below (s₁.setTop (mkF m 25 #[.val (.int xx), .val (.int xy), .val (.int xf), .val (.int xa), .val (.int (xx &&& (1073741823 : Int32))), .val (.int ((xx &&& (1073741823 : Int32)) + (xy &&& (1073741823 : Int32)))), .unset, .unset, .unset] [])) _
      refine XS.iconst X0.here hx rfl (hb hby at_25) ?_
      exact kt
    · simp only [if_neg hc22] at kt
      show Steps p.tables e below (s₁.setTop (mkF m 18 #[.val (.int xx), .val (.int xy), .val (.int xf), .val (.int xa), .val (.int (xx &&& (1073741823 : Int32))), .val (.int ((xx &&& (1073741823 : Int32)) + (xy &&& (1073741823 : Int32)))), .unset, .unset, .unset] [(.int (xf &&& (1 : Int32)))])) _
      refine XS.ifNo X0.here hx rfl (hb hby at_18) rfl ((if0 _ _).trans (feq hc22).1) ?_
      show Steps p.tables e below (s₁.setTop (mkF m 21 #[.val (.int xx), .val (.int xy), .val (.int xf), .val (.int xa), .val (.int (xx &&& (1073741823 : Int32))), .val (.int ((xx &&& (1073741823 : Int32)) + (xy &&& (1073741823 : Int32)))), .unset, .unset, .unset] [])) _
      refine XS.iconst X0.here hx rfl (hb hby at_21) ?_
      show Steps p.tables e below (s₁.setTop (mkF m 22 #[.val (.int xx), .val (.int xy), .val (.int xf), .val (.int xa), .val (.int (xx &&& (1073741823 : Int32))), .val (.int ((xx &&& (1073741823 : Int32)) + (xy &&& (1073741823 : Int32)))), .unset, .unset, .unset] [(.int (1 : Int32))])) _
      refine XS.goto X0.here hx rfl (pc0 := 22) (pc' := 26) rfl (hb hby at_22) (by decide) (by decide) ?_
      exact kt
  obtain ⟨T24, h24, X24, e24, E24, A24, D24, -, st24⟩ := newO X0 hx hZ hown (hw _ (List.mem_of_getElem? (i := 1) rfl)) (hw _ (List.mem_of_getElem? (i := 2) rfl)) (hw _ (List.mem_of_getElem? (i := 3) rfl)) e0 (g := (mkF m 28 #[.val (.int xx), .val (.int xy), .val (.int xf), .val (.int xa), .val (.int (xx &&& (1073741823 : Int32))), .val (.int ((xx &&& (1073741823 : Int32)) + (xy &&& (1073741823 : Int32)))), .val (.int (if (xf &&& (1 : Int32)) = (0 : Int32) then (0 : Int32) else (1 : Int32))), .unset, .unset] [])) rfl (hb hby at_28) (by decide) (by decide)
  obtain ⟨b24, g24⟩ : ∃ z, z = h0.size := ⟨_, rfl⟩
  rw [← g24] at A24 D24 st24
  have ge_b24 : n0 ≤ b24 := Nat.le_trans Z0 (Nat.le_of_eq g24.symm)
  have Z24 : n0 ≤ h24.size := Nat.le_trans Z0 E24.1
  have F_25 : Fld Z h24 b24 "com/example/alterlint/alterlint/Arity" "required" "I" (.int (0 : Int32)) := D24 (Or.inr (hw _ (List.mem_of_getElem? (i := 11) rfl))) (ty := .int) (by decide)
  have F_26 : Fld Z h24 b24 "com/example/alterlint/alterlint/Arity" "parameters" "I" (.int (0 : Int32)) := D24 (Or.inr (hw _ (List.mem_of_getElem? (i := 13) rfl))) (ty := .int) (by decide)
  have F_27 : Fld Z h24 b24 "com/example/alterlint/alterlint/Arity" "variadic" "Z" (.int (0 : Int32)) := D24 (Or.inr (hw _ (List.mem_of_getElem? (i := 15) rfl))) (ty := .boolean) (by decide)
  obtain ⟨_, _, ⟨T28, L28, k28, n28⟩, -, X28, ⟨Lc28, hQ28, l28, y28, z28⟩, st28⟩ := X24.specialBack hx (y := (⟨"com/example/alterlint/alterlint/Arity", "<init>", "(IIZ)V"⟩ : MethodName)) rfl hown (mvT hZ (hw _ (List.mem_of_getElem? (i := 4) rfl))) (mvT hZ (hw _ (List.mem_of_getElem? (i := 5) rfl))) (mvT hZ (hw _ (List.mem_of_getElem? (i := 6) rfl))) (by decide) (backOf (W := 1) (rm1 l Z a0 hw [] b24 (xx &&& (1073741823 : Int32)) ((xx &&& (1073741823 : Int32)) + (xy &&& (1073741823 : Int32))) (if (xf &&& (1 : Int32)) = (0 : Int32) then (0 : Int32) else (1 : Int32)) h24 n0 Z24 A24 F_25 F_26 F_27 ge_b24) hZ (hw _ (List.mem_of_getElem? (i := 6) rfl)) (hw _ (List.mem_of_getElem? (i := 3) rfl)) (by decide) (by decide)) (g := (mkF m 38 #[.val (.int xx), .val (.int xy), .val (.int xf), .val (.int xa), .val (.int (xx &&& (1073741823 : Int32))), .val (.int ((xx &&& (1073741823 : Int32)) + (xy &&& (1073741823 : Int32)))), .val (.int (if (xf &&& (1 : Int32)) = (0 : Int32) then (0 : Int32) else (1 : Int32))), .unset, .unset] [(.int (if (xf &&& (1 : Int32)) = (0 : Int32) then (0 : Int32) else (1 : Int32))), (.int ((xx &&& (1073741823 : Int32)) + (xy &&& (1073741823 : Int32)))), (.int (xx &&& (1073741823 : Int32))), (.ref b24), (.ref b24)])) rfl (by rw [hml]; rfl) (Steps.refl _) (a := b24) (argsL := [(.int (xx &&& (1073741823 : Int32))), (.int ((xx &&& (1073741823 : Int32)) + (xy &&& (1073741823 : Int32)))), (.int (if (xf &&& (1 : Int32)) = (0 : Int32) then (0 : Int32) else (1 : Int32)))]) (rest := [(.ref b24)]) (lenOf pd_717487 rfl) rfl (by show 2 * 0 + _ ≤ _; exact Nat.le_of_eq rfl) (hb hby at_38) (fun _ _ => ⟨rfl, e24, (by decide : 1 + 0 ≤ _), (by decide : 3 + 0 ≤ _)⟩)
  dsimp only [Pt.U, Pt.locs, Pt.cells, Pt.slots] at X28 l28 y28 z28 st28 hQ28
  subst l28 y28 z28
  obtain ⟨rfl, N28q, K28c, G28_0, G28_1, G28_2, G28_3⟩ := hQ28
  have N28 := Fr.app N0 N28q
  have E_29 := A24.keep K28c
  have Z28 : n0 ≤ T28.heap.size := Nat.le_trans Z24 K28c.1
  obtain ⟨cq30, kq30, q30a, q30b, q30c⟩ := isOf hZ rfl G28_0
  obtain ⟨_, _, ⟨T30, L30, k30, n30⟩, -, X30, ⟨Lc30, hQ30, l30, y30, z30⟩, st30⟩ := X28.virtualBack hx (y := (⟨"com/example/alterlint/alterlint/Arity", "takes", "(I)Z"⟩ : MethodName)) (z := (⟨"com/example/alterlint/alterlint/Arity", "takes", "(I)Z"⟩ : MethodName)) hown (mvT hZ (hw _ (List.mem_of_getElem? (i := 16) rfl))) (mvT hZ (hw _ (List.mem_of_getElem? (i := 17) rfl))) (notFace_of_selects (args := #[]) (mvT hZ (hw _ (List.mem_of_getElem? (i := 19) rfl)))) (mvT hZ (hw _ (List.mem_of_getElem? (i := 19) rfl))) (mvT hZ (hw _ (List.mem_of_getElem? (i := 18) rfl))) (by decide) (backOf (W := 0) (rm3 l Z a0 hw [] b24 xa (xx &&& (1073741823 : Int32)) ((xx &&& (1073741823 : Int32)) + (xy &&& (1073741823 : Int32))) (nar .boolean (if (xf &&& (1 : Int32)) = (0 : Int32) then (0 : Int32) else (1 : Int32))) T28.heap n0 Z28 G28_1 G28_2 G28_3) hZ (hw _ (List.mem_of_getElem? (i := 20) rfl)) (hw _ (List.mem_of_getElem? (i := 3) rfl)) (by decide) (by decide)) q30a q30c (g := (mkF m 46 #[.val (.int xx), .val (.int xy), .val (.int xf), .val (.int xa), .val (.int (xx &&& (1073741823 : Int32))), .val (.int ((xx &&& (1073741823 : Int32)) + (xy &&& (1073741823 : Int32)))), .val (.int (if (xf &&& (1 : Int32)) = (0 : Int32) then (0 : Int32) else (1 : Int32))), .val (.ref b24), .unset] [(.int xa), (.ref b24)])) rfl (by rw [hml]; rfl) (Steps.refl _) (argsL := [(.int xa)]) (rest := []) (lenOf pd_722888 rfl) rfl (by show 2 * 0 + _ ≤ _; exact Nat.le_of_eq rfl) (hb hby at_46) (fun _ _ => ⟨rfl, rfl, (by decide : 1 + 0 ≤ _), (by decide : 3 + 0 ≤ _)⟩)
  dsimp only [Pt.U, Pt.locs, Pt.cells, Pt.slots] at X30 l30 y30 z30 st30 hQ30
  subst l30 y30 z30
  obtain ⟨rfl, N30q, K30c⟩ := hQ30
  have N30 := Fr.app N28 N30q
  obtain ⟨_, _, ⟨T31, L31, k31, n31⟩, -, X31, ⟨Lc31, hQ31, l31, y31, z31⟩, st31⟩ := Jvm.LawKit.callS X30 hx (y := (⟨"com/example/alterlint/alterlint/ArityTakesPinLaw", "expected", "(IIZI)Z"⟩ : MethodName)) hown (mvT hZ (hw _ (List.mem_of_getElem? (i := 21) rfl))) (mvT hZ (hw _ (List.mem_of_getElem? (i := 22) rfl))) (mvT hZ (hw _ (List.mem_of_getElem? (i := 23) rfl))) (mvT hZ (hw _ (List.mem_of_getElem? (i := 24) rfl))) (by decide) (backOf (W := 1) (rm4 l Z a0 hw [] (xx &&& (1073741823 : Int32)) ((xx &&& (1073741823 : Int32)) + (xy &&& (1073741823 : Int32))) (if (xf &&& (1 : Int32)) = (0 : Int32) then (0 : Int32) else (1 : Int32)) xa T28.heap n0 Z28 ) hZ (hw _ (List.mem_of_getElem? (i := 24) rfl)) (hw _ (List.mem_of_getElem? (i := 23) rfl)) (by decide) (by decide)) (g := (mkF m 56 #[.val (.int xx), .val (.int xy), .val (.int xf), .val (.int xa), .val (.int (xx &&& (1073741823 : Int32))), .val (.int ((xx &&& (1073741823 : Int32)) + (xy &&& (1073741823 : Int32)))), .val (.int (if (xf &&& (1 : Int32)) = (0 : Int32) then (0 : Int32) else (1 : Int32))), .val (.ref b24), .unset] [(.int xa), (.int (if (xf &&& (1 : Int32)) = (0 : Int32) then (0 : Int32) else (1 : Int32))), (.int ((xx &&& (1073741823 : Int32)) + (xy &&& (1073741823 : Int32)))), (.int (xx &&& (1073741823 : Int32))), (.int (own_tk (xx &&& (1073741823 : Int32)) ((xx &&& (1073741823 : Int32)) + (xy &&& (1073741823 : Int32))) (nar .boolean (if (xf &&& (1 : Int32)) = (0 : Int32) then (0 : Int32) else (1 : Int32))) xa))])) rfl (by rw [hml]; rfl) (argsL := [(.int (xx &&& (1073741823 : Int32))), (.int ((xx &&& (1073741823 : Int32)) + (xy &&& (1073741823 : Int32)))), (.int (if (xf &&& (1 : Int32)) = (0 : Int32) then (0 : Int32) else (1 : Int32))), (.int xa)]) (rest := [(.int (own_tk (xx &&& (1073741823 : Int32)) ((xx &&& (1073741823 : Int32)) + (xy &&& (1073741823 : Int32))) (nar .boolean (if (xf &&& (1 : Int32)) = (0 : Int32) then (0 : Int32) else (1 : Int32))) xa))]) (lenOf pd_53803 rfl) rfl (by show 2 * 0 + _ ≤ _; exact Nat.le_of_eq rfl) (hb hby at_56) (fun _ _ => ⟨rfl, K30c, (by decide : 1 + 0 ≤ _), (by decide : 3 + 0 ≤ _)⟩)
  dsimp only [Pt.U, Pt.locs, Pt.cells, Pt.slots] at X31 l31 y31 z31 st31 hQ31
  subst l31 y31 z31
  obtain ⟨rfl, N31q, K31c⟩ := hQ31
  have N31 := Fr.app N30 N31q
  obtain ⟨cq32, kq32, q32a, q32b, q32c⟩ := isOf hZ K31c G28_0
  obtain ⟨_, _, ⟨T32, L32, k32, n32⟩, -, X32, ⟨Lc32, hQ32, l32, y32, z32⟩, st32⟩ := X31.virtualBack hx (y := (⟨"com/example/alterlint/alterlint/Arity", "takes", "(I)Z"⟩ : MethodName)) (z := (⟨"com/example/alterlint/alterlint/Arity", "takes", "(I)Z"⟩ : MethodName)) hown (mvT hZ (hw _ (List.mem_of_getElem? (i := 16) rfl))) (mvT hZ (hw _ (List.mem_of_getElem? (i := 17) rfl))) (notFace_of_selects (args := #[]) (mvT hZ (hw _ (List.mem_of_getElem? (i := 19) rfl)))) (mvT hZ (hw _ (List.mem_of_getElem? (i := 19) rfl))) (mvT hZ (hw _ (List.mem_of_getElem? (i := 18) rfl))) (by decide) (backOf (W := 0) (rm3 l Z a0 hw [] b24 ((xx &&& (1073741823 : Int32)) - (1 : Int32)) (xx &&& (1073741823 : Int32)) ((xx &&& (1073741823 : Int32)) + (xy &&& (1073741823 : Int32))) (nar .boolean (if (xf &&& (1 : Int32)) = (0 : Int32) then (0 : Int32) else (1 : Int32))) T28.heap n0 Z28 G28_1 G28_2 G28_3) hZ (hw _ (List.mem_of_getElem? (i := 20) rfl)) (hw _ (List.mem_of_getElem? (i := 3) rfl)) (by decide) (by decide)) q32a q32c (g := (mkF m 80 #[.val (.int xx), .val (.int xy), .val (.int xf), .val (.int xa), .val (.int (xx &&& (1073741823 : Int32))), .val (.int ((xx &&& (1073741823 : Int32)) + (xy &&& (1073741823 : Int32)))), .val (.int (if (xf &&& (1 : Int32)) = (0 : Int32) then (0 : Int32) else (1 : Int32))), .val (.ref b24), .val (.int (1 : Int32))] [(.int ((xx &&& (1073741823 : Int32)) - (1 : Int32))), (.ref b24)])) rfl (by rw [hml]; rfl) (Steps.refl _) (argsL := [(.int ((xx &&& (1073741823 : Int32)) - (1 : Int32)))]) (rest := []) (lenOf pd_722888 rfl) rfl (by show 2 * 0 + _ ≤ _; exact Nat.le_of_eq rfl) (hb hby at_80) (fun _ _ => ⟨rfl, K31c, (by decide : 1 + 0 ≤ _), (by decide : 3 + 0 ≤ _)⟩)
  dsimp only [Pt.U, Pt.locs, Pt.cells, Pt.slots] at X32 l32 y32 z32 st32 hQ32
  subst l32 y32 z32
  obtain ⟨rfl, N32q, K32c⟩ := hQ32
  have N32 := Fr.app N31 N32q
  obtain ⟨_, _, ⟨T33, L33, k33, n33⟩, -, X33, ⟨Lc33, hQ33, l33, y33, z33⟩, st33⟩ := Jvm.LawKit.callS X32 hx (y := (⟨"com/example/alterlint/alterlint/ArityTakesPinLaw", "expected", "(IIZI)Z"⟩ : MethodName)) hown (mvT hZ (hw _ (List.mem_of_getElem? (i := 21) rfl))) (mvT hZ (hw _ (List.mem_of_getElem? (i := 22) rfl))) (mvT hZ (hw _ (List.mem_of_getElem? (i := 23) rfl))) (mvT hZ (hw _ (List.mem_of_getElem? (i := 24) rfl))) (by decide) (backOf (W := 1) (rm4 l Z a0 hw [] (xx &&& (1073741823 : Int32)) ((xx &&& (1073741823 : Int32)) + (xy &&& (1073741823 : Int32))) (if (xf &&& (1 : Int32)) = (0 : Int32) then (0 : Int32) else (1 : Int32)) ((xx &&& (1073741823 : Int32)) - (1 : Int32)) T28.heap n0 Z28 ) hZ (hw _ (List.mem_of_getElem? (i := 24) rfl)) (hw _ (List.mem_of_getElem? (i := 23) rfl)) (by decide) (by decide)) (g := (mkF m 93 #[.val (.int xx), .val (.int xy), .val (.int xf), .val (.int xa), .val (.int (xx &&& (1073741823 : Int32))), .val (.int ((xx &&& (1073741823 : Int32)) + (xy &&& (1073741823 : Int32)))), .val (.int (if (xf &&& (1 : Int32)) = (0 : Int32) then (0 : Int32) else (1 : Int32))), .val (.ref b24), .val (.int (1 : Int32))] [(.int ((xx &&& (1073741823 : Int32)) - (1 : Int32))), (.int (if (xf &&& (1 : Int32)) = (0 : Int32) then (0 : Int32) else (1 : Int32))), (.int ((xx &&& (1073741823 : Int32)) + (xy &&& (1073741823 : Int32)))), (.int (xx &&& (1073741823 : Int32))), (.int (own_tk (xx &&& (1073741823 : Int32)) ((xx &&& (1073741823 : Int32)) + (xy &&& (1073741823 : Int32))) (nar .boolean (if (xf &&& (1 : Int32)) = (0 : Int32) then (0 : Int32) else (1 : Int32))) ((xx &&& (1073741823 : Int32)) - (1 : Int32))))])) rfl (by rw [hml]; rfl) (argsL := [(.int (xx &&& (1073741823 : Int32))), (.int ((xx &&& (1073741823 : Int32)) + (xy &&& (1073741823 : Int32)))), (.int (if (xf &&& (1 : Int32)) = (0 : Int32) then (0 : Int32) else (1 : Int32))), (.int ((xx &&& (1073741823 : Int32)) - (1 : Int32)))]) (rest := [(.int (own_tk (xx &&& (1073741823 : Int32)) ((xx &&& (1073741823 : Int32)) + (xy &&& (1073741823 : Int32))) (nar .boolean (if (xf &&& (1 : Int32)) = (0 : Int32) then (0 : Int32) else (1 : Int32))) ((xx &&& (1073741823 : Int32)) - (1 : Int32))))]) (lenOf pd_53803 rfl) rfl (by show 2 * 0 + _ ≤ _; exact Nat.le_of_eq rfl) (hb hby at_93) (fun _ _ => ⟨rfl, K32c, (by decide : 1 + 0 ≤ _), (by decide : 3 + 0 ≤ _)⟩)
  dsimp only [Pt.U, Pt.locs, Pt.cells, Pt.slots] at X33 l33 y33 z33 st33 hQ33
  subst l33 y33 z33
  obtain ⟨rfl, N33q, K33c⟩ := hQ33
  have N33 := Fr.app N32 N33q
  obtain ⟨cq34, kq34, q34a, q34b, q34c⟩ := isOf hZ K33c G28_0
  obtain ⟨_, _, ⟨T34, L34, k34, n34⟩, -, X34, ⟨Lc34, hQ34, l34, y34, z34⟩, st34⟩ := X33.virtualBack hx (y := (⟨"com/example/alterlint/alterlint/Arity", "takes", "(I)Z"⟩ : MethodName)) (z := (⟨"com/example/alterlint/alterlint/Arity", "takes", "(I)Z"⟩ : MethodName)) hown (mvT hZ (hw _ (List.mem_of_getElem? (i := 16) rfl))) (mvT hZ (hw _ (List.mem_of_getElem? (i := 17) rfl))) (notFace_of_selects (args := #[]) (mvT hZ (hw _ (List.mem_of_getElem? (i := 19) rfl)))) (mvT hZ (hw _ (List.mem_of_getElem? (i := 19) rfl))) (mvT hZ (hw _ (List.mem_of_getElem? (i := 18) rfl))) (by decide) (backOf (W := 0) (rm3 l Z a0 hw [] b24 (xx &&& (1073741823 : Int32)) (xx &&& (1073741823 : Int32)) ((xx &&& (1073741823 : Int32)) + (xy &&& (1073741823 : Int32))) (nar .boolean (if (xf &&& (1 : Int32)) = (0 : Int32) then (0 : Int32) else (1 : Int32))) T28.heap n0 Z28 G28_1 G28_2 G28_3) hZ (hw _ (List.mem_of_getElem? (i := 20) rfl)) (hw _ (List.mem_of_getElem? (i := 3) rfl)) (by decide) (by decide)) q34a q34c (g := (mkF m 115 #[.val (.int xx), .val (.int xy), .val (.int xf), .val (.int xa), .val (.int (xx &&& (1073741823 : Int32))), .val (.int ((xx &&& (1073741823 : Int32)) + (xy &&& (1073741823 : Int32)))), .val (.int (if (xf &&& (1 : Int32)) = (0 : Int32) then (0 : Int32) else (1 : Int32))), .val (.ref b24), .val (.int (1 : Int32))] [(.int (xx &&& (1073741823 : Int32))), (.ref b24)])) rfl (by rw [hml]; rfl) (Steps.refl _) (argsL := [(.int (xx &&& (1073741823 : Int32)))]) (rest := []) (lenOf pd_722888 rfl) rfl (by show 2 * 0 + _ ≤ _; exact Nat.le_of_eq rfl) (hb hby at_115) (fun _ _ => ⟨rfl, K33c, (by decide : 1 + 0 ≤ _), (by decide : 3 + 0 ≤ _)⟩)
  dsimp only [Pt.U, Pt.locs, Pt.cells, Pt.slots] at X34 l34 y34 z34 st34 hQ34
  subst l34 y34 z34
  obtain ⟨rfl, N34q, K34c⟩ := hQ34
  have N34 := Fr.app N33 N34q
  obtain ⟨_, _, ⟨T35, L35, k35, n35⟩, -, X35, ⟨Lc35, hQ35, l35, y35, z35⟩, st35⟩ := Jvm.LawKit.callS X34 hx (y := (⟨"com/example/alterlint/alterlint/ArityTakesPinLaw", "expected", "(IIZI)Z"⟩ : MethodName)) hown (mvT hZ (hw _ (List.mem_of_getElem? (i := 21) rfl))) (mvT hZ (hw _ (List.mem_of_getElem? (i := 22) rfl))) (mvT hZ (hw _ (List.mem_of_getElem? (i := 23) rfl))) (mvT hZ (hw _ (List.mem_of_getElem? (i := 24) rfl))) (by decide) (backOf (W := 1) (rm4 l Z a0 hw [] (xx &&& (1073741823 : Int32)) ((xx &&& (1073741823 : Int32)) + (xy &&& (1073741823 : Int32))) (if (xf &&& (1 : Int32)) = (0 : Int32) then (0 : Int32) else (1 : Int32)) (xx &&& (1073741823 : Int32)) T28.heap n0 Z28 ) hZ (hw _ (List.mem_of_getElem? (i := 24) rfl)) (hw _ (List.mem_of_getElem? (i := 23) rfl)) (by decide) (by decide)) (g := (mkF m 126 #[.val (.int xx), .val (.int xy), .val (.int xf), .val (.int xa), .val (.int (xx &&& (1073741823 : Int32))), .val (.int ((xx &&& (1073741823 : Int32)) + (xy &&& (1073741823 : Int32)))), .val (.int (if (xf &&& (1 : Int32)) = (0 : Int32) then (0 : Int32) else (1 : Int32))), .val (.ref b24), .val (.int (1 : Int32))] [(.int (xx &&& (1073741823 : Int32))), (.int (if (xf &&& (1 : Int32)) = (0 : Int32) then (0 : Int32) else (1 : Int32))), (.int ((xx &&& (1073741823 : Int32)) + (xy &&& (1073741823 : Int32)))), (.int (xx &&& (1073741823 : Int32))), (.int (own_tk (xx &&& (1073741823 : Int32)) ((xx &&& (1073741823 : Int32)) + (xy &&& (1073741823 : Int32))) (nar .boolean (if (xf &&& (1 : Int32)) = (0 : Int32) then (0 : Int32) else (1 : Int32))) (xx &&& (1073741823 : Int32))))])) rfl (by rw [hml]; rfl) (argsL := [(.int (xx &&& (1073741823 : Int32))), (.int ((xx &&& (1073741823 : Int32)) + (xy &&& (1073741823 : Int32)))), (.int (if (xf &&& (1 : Int32)) = (0 : Int32) then (0 : Int32) else (1 : Int32))), (.int (xx &&& (1073741823 : Int32)))]) (rest := [(.int (own_tk (xx &&& (1073741823 : Int32)) ((xx &&& (1073741823 : Int32)) + (xy &&& (1073741823 : Int32))) (nar .boolean (if (xf &&& (1 : Int32)) = (0 : Int32) then (0 : Int32) else (1 : Int32))) (xx &&& (1073741823 : Int32))))]) (lenOf pd_53803 rfl) rfl (by show 2 * 0 + _ ≤ _; exact Nat.le_of_eq rfl) (hb hby at_126) (fun _ _ => ⟨rfl, K34c, (by decide : 1 + 0 ≤ _), (by decide : 3 + 0 ≤ _)⟩)
  dsimp only [Pt.U, Pt.locs, Pt.cells, Pt.slots] at X35 l35 y35 z35 st35 hQ35
  subst l35 y35 z35
  obtain ⟨rfl, N35q, K35c⟩ := hQ35
  have N35 := Fr.app N34 N35q
  obtain ⟨cq36, kq36, q36a, q36b, q36c⟩ := isOf hZ K35c G28_0
  obtain ⟨_, _, ⟨T36, L36, k36, n36⟩, -, X36, ⟨Lc36, hQ36, l36, y36, z36⟩, st36⟩ := X35.virtualBack hx (y := (⟨"com/example/alterlint/alterlint/Arity", "takes", "(I)Z"⟩ : MethodName)) (z := (⟨"com/example/alterlint/alterlint/Arity", "takes", "(I)Z"⟩ : MethodName)) hown (mvT hZ (hw _ (List.mem_of_getElem? (i := 16) rfl))) (mvT hZ (hw _ (List.mem_of_getElem? (i := 17) rfl))) (notFace_of_selects (args := #[]) (mvT hZ (hw _ (List.mem_of_getElem? (i := 19) rfl)))) (mvT hZ (hw _ (List.mem_of_getElem? (i := 19) rfl))) (mvT hZ (hw _ (List.mem_of_getElem? (i := 18) rfl))) (by decide) (backOf (W := 0) (rm3 l Z a0 hw [] b24 ((xx &&& (1073741823 : Int32)) + (xy &&& (1073741823 : Int32))) (xx &&& (1073741823 : Int32)) ((xx &&& (1073741823 : Int32)) + (xy &&& (1073741823 : Int32))) (nar .boolean (if (xf &&& (1 : Int32)) = (0 : Int32) then (0 : Int32) else (1 : Int32))) T28.heap n0 Z28 G28_1 G28_2 G28_3) hZ (hw _ (List.mem_of_getElem? (i := 20) rfl)) (hw _ (List.mem_of_getElem? (i := 3) rfl)) (by decide) (by decide)) q36a q36c (g := (mkF m 148 #[.val (.int xx), .val (.int xy), .val (.int xf), .val (.int xa), .val (.int (xx &&& (1073741823 : Int32))), .val (.int ((xx &&& (1073741823 : Int32)) + (xy &&& (1073741823 : Int32)))), .val (.int (if (xf &&& (1 : Int32)) = (0 : Int32) then (0 : Int32) else (1 : Int32))), .val (.ref b24), .val (.int (1 : Int32))] [(.int ((xx &&& (1073741823 : Int32)) + (xy &&& (1073741823 : Int32)))), (.ref b24)])) rfl (by rw [hml]; rfl) (Steps.refl _) (argsL := [(.int ((xx &&& (1073741823 : Int32)) + (xy &&& (1073741823 : Int32))))]) (rest := []) (lenOf pd_722888 rfl) rfl (by show 2 * 0 + _ ≤ _; exact Nat.le_of_eq rfl) (hb hby at_148) (fun _ _ => ⟨rfl, K35c, (by decide : 1 + 0 ≤ _), (by decide : 3 + 0 ≤ _)⟩)
  dsimp only [Pt.U, Pt.locs, Pt.cells, Pt.slots] at X36 l36 y36 z36 st36 hQ36
  subst l36 y36 z36
  obtain ⟨rfl, N36q, K36c⟩ := hQ36
  have N36 := Fr.app N35 N36q
  obtain ⟨_, _, ⟨T37, L37, k37, n37⟩, -, X37, ⟨Lc37, hQ37, l37, y37, z37⟩, st37⟩ := Jvm.LawKit.callS X36 hx (y := (⟨"com/example/alterlint/alterlint/ArityTakesPinLaw", "expected", "(IIZI)Z"⟩ : MethodName)) hown (mvT hZ (hw _ (List.mem_of_getElem? (i := 21) rfl))) (mvT hZ (hw _ (List.mem_of_getElem? (i := 22) rfl))) (mvT hZ (hw _ (List.mem_of_getElem? (i := 23) rfl))) (mvT hZ (hw _ (List.mem_of_getElem? (i := 24) rfl))) (by decide) (backOf (W := 1) (rm4 l Z a0 hw [] (xx &&& (1073741823 : Int32)) ((xx &&& (1073741823 : Int32)) + (xy &&& (1073741823 : Int32))) (if (xf &&& (1 : Int32)) = (0 : Int32) then (0 : Int32) else (1 : Int32)) ((xx &&& (1073741823 : Int32)) + (xy &&& (1073741823 : Int32))) T28.heap n0 Z28 ) hZ (hw _ (List.mem_of_getElem? (i := 24) rfl)) (hw _ (List.mem_of_getElem? (i := 23) rfl)) (by decide) (by decide)) (g := (mkF m 159 #[.val (.int xx), .val (.int xy), .val (.int xf), .val (.int xa), .val (.int (xx &&& (1073741823 : Int32))), .val (.int ((xx &&& (1073741823 : Int32)) + (xy &&& (1073741823 : Int32)))), .val (.int (if (xf &&& (1 : Int32)) = (0 : Int32) then (0 : Int32) else (1 : Int32))), .val (.ref b24), .val (.int (1 : Int32))] [(.int ((xx &&& (1073741823 : Int32)) + (xy &&& (1073741823 : Int32)))), (.int (if (xf &&& (1 : Int32)) = (0 : Int32) then (0 : Int32) else (1 : Int32))), (.int ((xx &&& (1073741823 : Int32)) + (xy &&& (1073741823 : Int32)))), (.int (xx &&& (1073741823 : Int32))), (.int (own_tk (xx &&& (1073741823 : Int32)) ((xx &&& (1073741823 : Int32)) + (xy &&& (1073741823 : Int32))) (nar .boolean (if (xf &&& (1 : Int32)) = (0 : Int32) then (0 : Int32) else (1 : Int32))) ((xx &&& (1073741823 : Int32)) + (xy &&& (1073741823 : Int32)))))])) rfl (by rw [hml]; rfl) (argsL := [(.int (xx &&& (1073741823 : Int32))), (.int ((xx &&& (1073741823 : Int32)) + (xy &&& (1073741823 : Int32)))), (.int (if (xf &&& (1 : Int32)) = (0 : Int32) then (0 : Int32) else (1 : Int32))), (.int ((xx &&& (1073741823 : Int32)) + (xy &&& (1073741823 : Int32))))]) (rest := [(.int (own_tk (xx &&& (1073741823 : Int32)) ((xx &&& (1073741823 : Int32)) + (xy &&& (1073741823 : Int32))) (nar .boolean (if (xf &&& (1 : Int32)) = (0 : Int32) then (0 : Int32) else (1 : Int32))) ((xx &&& (1073741823 : Int32)) + (xy &&& (1073741823 : Int32)))))]) (lenOf pd_53803 rfl) rfl (by show 2 * 0 + _ ≤ _; exact Nat.le_of_eq rfl) (hb hby at_159) (fun _ _ => ⟨rfl, K36c, (by decide : 1 + 0 ≤ _), (by decide : 3 + 0 ≤ _)⟩)
  dsimp only [Pt.U, Pt.locs, Pt.cells, Pt.slots] at X37 l37 y37 z37 st37 hQ37
  subst l37 y37 z37
  obtain ⟨rfl, N37q, K37c⟩ := hQ37
  have N37 := Fr.app N36 N37q
  obtain ⟨cq38, kq38, q38a, q38b, q38c⟩ := isOf hZ K37c G28_0
  obtain ⟨_, _, ⟨T38, L38, k38, n38⟩, -, X38, ⟨Lc38, hQ38, l38, y38, z38⟩, st38⟩ := X37.virtualBack hx (y := (⟨"com/example/alterlint/alterlint/Arity", "takes", "(I)Z"⟩ : MethodName)) (z := (⟨"com/example/alterlint/alterlint/Arity", "takes", "(I)Z"⟩ : MethodName)) hown (mvT hZ (hw _ (List.mem_of_getElem? (i := 16) rfl))) (mvT hZ (hw _ (List.mem_of_getElem? (i := 17) rfl))) (notFace_of_selects (args := #[]) (mvT hZ (hw _ (List.mem_of_getElem? (i := 19) rfl)))) (mvT hZ (hw _ (List.mem_of_getElem? (i := 19) rfl))) (mvT hZ (hw _ (List.mem_of_getElem? (i := 18) rfl))) (by decide) (backOf (W := 0) (rm3 l Z a0 hw [] b24 (((xx &&& (1073741823 : Int32)) + (xy &&& (1073741823 : Int32))) + (1 : Int32)) (xx &&& (1073741823 : Int32)) ((xx &&& (1073741823 : Int32)) + (xy &&& (1073741823 : Int32))) (nar .boolean (if (xf &&& (1 : Int32)) = (0 : Int32) then (0 : Int32) else (1 : Int32))) T28.heap n0 Z28 G28_1 G28_2 G28_3) hZ (hw _ (List.mem_of_getElem? (i := 20) rfl)) (hw _ (List.mem_of_getElem? (i := 3) rfl)) (by decide) (by decide)) q38a q38c (g := (mkF m 183 #[.val (.int xx), .val (.int xy), .val (.int xf), .val (.int xa), .val (.int (xx &&& (1073741823 : Int32))), .val (.int ((xx &&& (1073741823 : Int32)) + (xy &&& (1073741823 : Int32)))), .val (.int (if (xf &&& (1 : Int32)) = (0 : Int32) then (0 : Int32) else (1 : Int32))), .val (.ref b24), .val (.int (1 : Int32))] [(.int (((xx &&& (1073741823 : Int32)) + (xy &&& (1073741823 : Int32))) + (1 : Int32))), (.ref b24)])) rfl (by rw [hml]; rfl) (Steps.refl _) (argsL := [(.int (((xx &&& (1073741823 : Int32)) + (xy &&& (1073741823 : Int32))) + (1 : Int32)))]) (rest := []) (lenOf pd_722888 rfl) rfl (by show 2 * 0 + _ ≤ _; exact Nat.le_of_eq rfl) (hb hby at_183) (fun _ _ => ⟨rfl, K37c, (by decide : 1 + 0 ≤ _), (by decide : 3 + 0 ≤ _)⟩)
  dsimp only [Pt.U, Pt.locs, Pt.cells, Pt.slots] at X38 l38 y38 z38 st38 hQ38
  subst l38 y38 z38
  obtain ⟨rfl, N38q, K38c⟩ := hQ38
  have N38 := Fr.app N37 N38q
  obtain ⟨_, _, ⟨T39, L39, k39, n39⟩, -, X39, ⟨Lc39, hQ39, l39, y39, z39⟩, st39⟩ := Jvm.LawKit.callS X38 hx (y := (⟨"com/example/alterlint/alterlint/ArityTakesPinLaw", "expected", "(IIZI)Z"⟩ : MethodName)) hown (mvT hZ (hw _ (List.mem_of_getElem? (i := 21) rfl))) (mvT hZ (hw _ (List.mem_of_getElem? (i := 22) rfl))) (mvT hZ (hw _ (List.mem_of_getElem? (i := 23) rfl))) (mvT hZ (hw _ (List.mem_of_getElem? (i := 24) rfl))) (by decide) (backOf (W := 1) (rm4 l Z a0 hw [] (xx &&& (1073741823 : Int32)) ((xx &&& (1073741823 : Int32)) + (xy &&& (1073741823 : Int32))) (if (xf &&& (1 : Int32)) = (0 : Int32) then (0 : Int32) else (1 : Int32)) (((xx &&& (1073741823 : Int32)) + (xy &&& (1073741823 : Int32))) + (1 : Int32)) T28.heap n0 Z28 ) hZ (hw _ (List.mem_of_getElem? (i := 24) rfl)) (hw _ (List.mem_of_getElem? (i := 23) rfl)) (by decide) (by decide)) (g := (mkF m 196 #[.val (.int xx), .val (.int xy), .val (.int xf), .val (.int xa), .val (.int (xx &&& (1073741823 : Int32))), .val (.int ((xx &&& (1073741823 : Int32)) + (xy &&& (1073741823 : Int32)))), .val (.int (if (xf &&& (1 : Int32)) = (0 : Int32) then (0 : Int32) else (1 : Int32))), .val (.ref b24), .val (.int (1 : Int32))] [(.int (((xx &&& (1073741823 : Int32)) + (xy &&& (1073741823 : Int32))) + (1 : Int32))), (.int (if (xf &&& (1 : Int32)) = (0 : Int32) then (0 : Int32) else (1 : Int32))), (.int ((xx &&& (1073741823 : Int32)) + (xy &&& (1073741823 : Int32)))), (.int (xx &&& (1073741823 : Int32))), (.int (own_tk (xx &&& (1073741823 : Int32)) ((xx &&& (1073741823 : Int32)) + (xy &&& (1073741823 : Int32))) (nar .boolean (if (xf &&& (1 : Int32)) = (0 : Int32) then (0 : Int32) else (1 : Int32))) (((xx &&& (1073741823 : Int32)) + (xy &&& (1073741823 : Int32))) + (1 : Int32))))])) rfl (by rw [hml]; rfl) (argsL := [(.int (xx &&& (1073741823 : Int32))), (.int ((xx &&& (1073741823 : Int32)) + (xy &&& (1073741823 : Int32)))), (.int (if (xf &&& (1 : Int32)) = (0 : Int32) then (0 : Int32) else (1 : Int32))), (.int (((xx &&& (1073741823 : Int32)) + (xy &&& (1073741823 : Int32))) + (1 : Int32)))]) (rest := [(.int (own_tk (xx &&& (1073741823 : Int32)) ((xx &&& (1073741823 : Int32)) + (xy &&& (1073741823 : Int32))) (nar .boolean (if (xf &&& (1 : Int32)) = (0 : Int32) then (0 : Int32) else (1 : Int32))) (((xx &&& (1073741823 : Int32)) + (xy &&& (1073741823 : Int32))) + (1 : Int32))))]) (lenOf pd_53803 rfl) rfl (by show 2 * 0 + _ ≤ _; exact Nat.le_of_eq rfl) (hb hby at_196) (fun _ _ => ⟨rfl, K38c, (by decide : 1 + 0 ≤ _), (by decide : 3 + 0 ≤ _)⟩)
  dsimp only [Pt.U, Pt.locs, Pt.cells, Pt.slots] at X39 l39 y39 z39 st39 hQ39
  subst l39 y39 z39
  obtain ⟨rfl, N39q, K39c⟩ := hQ39
  have N39 := Fr.app N38 N39q
  obtain ⟨fs, hr, hrun, hended, hW, hsame⟩ := X39.leave (v := some (.int (1 : Int32))) (fun h => by rw [Bd.returns] at h; cases h)
  refine ⟨_, _, pre0 _ ?_, hrun, hended, _, _, rfl, ?_, ⟨_, rfl⟩, hW, hsame.mono (by decide) (by decide)⟩
  · show Steps p.tables e below (s₁.setTop (mkF m 0 #[.val (.int xx), .val (.int xy), .val (.int xf), .val (.int xa), .unset, .unset, .unset, .unset, .unset] [])) _
    refine XS.iloadN X0.here hx rfl (hb hby at_0) rfl ?_
    show Steps p.tables e below (s₁.setTop (mkF m 1 #[.val (.int xx), .val (.int xy), .val (.int xf), .val (.int xa), .unset, .unset, .unset, .unset, .unset] [(.int xx)])) _
    refine Jvm.Stand.ldcI X0 hx hown (mvT hZ (hw _ (List.mem_of_getElem? (i := 0) rfl))) rfl (hb hby at_1) ?_
    show Steps p.tables e below (s₁.setTop (mkF m 3 #[.val (.int xx), .val (.int xy), .val (.int xf), .val (.int xa), .unset, .unset, .unset, .unset, .unset] [(.int (1073741823 : Int32)), (.int xx)])) _
    refine XS.iand X0.here hx rfl (hb hby at_3) rfl ?_
    show Steps p.tables e below (s₁.setTop (mkF m 4 #[.val (.int xx), .val (.int xy), .val (.int xf), .val (.int xa), .unset, .unset, .unset, .unset, .unset] [(.int (xx &&& (1073741823 : Int32)))])) _
    refine XS.istore X0.here hx rfl (hb hby at_4) rfl (l' := #[.val (.int xx), .val (.int xy), .val (.int xf), .val (.int xa), .val (.int (xx &&& (1073741823 : Int32))), .unset, .unset, .unset, .unset]) rfl ?_
    show Steps p.tables e below (s₁.setTop (mkF m 6 #[.val (.int xx), .val (.int xy), .val (.int xf), .val (.int xa), .val (.int (xx &&& (1073741823 : Int32))), .unset, .unset, .unset, .unset] [])) _
    refine XS.iload X0.here hx rfl (hb hby at_6) rfl ?_
    show Steps p.tables e below (s₁.setTop (mkF m 8 #[.val (.int xx), .val (.int xy), .val (.int xf), .val (.int xa), .val (.int (xx &&& (1073741823 : Int32))), .unset, .unset, .unset, .unset] [(.int (xx &&& (1073741823 : Int32)))])) _
    refine XS.iloadN X0.here hx rfl (hb hby at_8) rfl ?_
    show Steps p.tables e below (s₁.setTop (mkF m 9 #[.val (.int xx), .val (.int xy), .val (.int xf), .val (.int xa), .val (.int (xx &&& (1073741823 : Int32))), .unset, .unset, .unset, .unset] [(.int xy), (.int (xx &&& (1073741823 : Int32)))])) _
    refine Jvm.Stand.ldcI X0 hx hown (mvT hZ (hw _ (List.mem_of_getElem? (i := 0) rfl))) rfl (hb hby at_9) ?_
    show Steps p.tables e below (s₁.setTop (mkF m 11 #[.val (.int xx), .val (.int xy), .val (.int xf), .val (.int xa), .val (.int (xx &&& (1073741823 : Int32))), .unset, .unset, .unset, .unset] [(.int (1073741823 : Int32)), (.int xy), (.int (xx &&& (1073741823 : Int32)))])) _
    refine XS.iand X0.here hx rfl (hb hby at_11) rfl ?_
    show Steps p.tables e below (s₁.setTop (mkF m 12 #[.val (.int xx), .val (.int xy), .val (.int xf), .val (.int xa), .val (.int (xx &&& (1073741823 : Int32))), .unset, .unset, .unset, .unset] [(.int (xy &&& (1073741823 : Int32))), (.int (xx &&& (1073741823 : Int32)))])) _
    refine XS.iadd X0.here hx rfl (hb hby at_12) rfl ?_
    show Steps p.tables e below (s₁.setTop (mkF m 13 #[.val (.int xx), .val (.int xy), .val (.int xf), .val (.int xa), .val (.int (xx &&& (1073741823 : Int32))), .unset, .unset, .unset, .unset] [(.int ((xx &&& (1073741823 : Int32)) + (xy &&& (1073741823 : Int32))))])) _
    refine XS.istore X0.here hx rfl (hb hby at_13) rfl (l' := #[.val (.int xx), .val (.int xy), .val (.int xf), .val (.int xa), .val (.int (xx &&& (1073741823 : Int32))), .val (.int ((xx &&& (1073741823 : Int32)) + (xy &&& (1073741823 : Int32)))), .unset, .unset, .unset]) rfl ?_
    show Steps p.tables e below (s₁.setTop (mkF m 15 #[.val (.int xx), .val (.int xy), .val (.int xf), .val (.int xa), .val (.int (xx &&& (1073741823 : Int32))), .val (.int ((xx &&& (1073741823 : Int32)) + (xy &&& (1073741823 : Int32)))), .unset, .unset, .unset] [])) _
    refine XS.iloadN X0.here hx rfl (hb hby at_15) rfl ?_
    show Steps p.tables e below (s₁.setTop (mkF m 16 #[.val (.int xx), .val (.int xy), .val (.int xf), .val (.int xa), .val (.int (xx &&& (1073741823 : Int32))), .val (.int ((xx &&& (1073741823 : Int32)) + (xy &&& (1073741823 : Int32)))), .unset, .unset, .unset] [(.int xf)])) _
    refine XS.iconst X0.here hx rfl (hb hby at_16) ?_
    show Steps p.tables e below (s₁.setTop (mkF m 17 #[.val (.int xx), .val (.int xy), .val (.int xf), .val (.int xa), .val (.int (xx &&& (1073741823 : Int32))), .val (.int ((xx &&& (1073741823 : Int32)) + (xy &&& (1073741823 : Int32)))), .unset, .unset, .unset] [(.int (1 : Int32)), (.int xf)])) _
    refine XS.iand X0.here hx rfl (hb hby at_17) rfl ?_
    show Steps p.tables e below (s₁.setTop (mkF m 18 #[.val (.int xx), .val (.int xy), .val (.int xf), .val (.int xa), .val (.int (xx &&& (1073741823 : Int32))), .val (.int ((xx &&& (1073741823 : Int32)) + (xy &&& (1073741823 : Int32)))), .unset, .unset, .unset] [(.int (xf &&& (1 : Int32)))])) _
    refine jn23 _ ?_
    show Steps p.tables e below (s₁.setTop (mkF m 26 #[.val (.int xx), .val (.int xy), .val (.int xf), .val (.int xa), .val (.int (xx &&& (1073741823 : Int32))), .val (.int ((xx &&& (1073741823 : Int32)) + (xy &&& (1073741823 : Int32)))), .unset, .unset, .unset] [(.int (if (xf &&& (1 : Int32)) = (0 : Int32) then (0 : Int32) else (1 : Int32)))])) _
    refine XS.istore X0.here hx rfl (hb hby at_26) rfl (l' := #[.val (.int xx), .val (.int xy), .val (.int xf), .val (.int xa), .val (.int (xx &&& (1073741823 : Int32))), .val (.int ((xx &&& (1073741823 : Int32)) + (xy &&& (1073741823 : Int32)))), .val (.int (if (xf &&& (1 : Int32)) = (0 : Int32) then (0 : Int32) else (1 : Int32))), .unset, .unset]) rfl ?_
    show Steps p.tables e below (s₁.setTop (mkF m 28 #[.val (.int xx), .val (.int xy), .val (.int xf), .val (.int xa), .val (.int (xx &&& (1073741823 : Int32))), .val (.int ((xx &&& (1073741823 : Int32)) + (xy &&& (1073741823 : Int32)))), .val (.int (if (xf &&& (1 : Int32)) = (0 : Int32) then (0 : Int32) else (1 : Int32))), .unset, .unset] [])) _
    refine st24 _ ?_
    show Steps p.tables e below (T24.setTop (mkF m 31 #[.val (.int xx), .val (.int xy), .val (.int xf), .val (.int xa), .val (.int (xx &&& (1073741823 : Int32))), .val (.int ((xx &&& (1073741823 : Int32)) + (xy &&& (1073741823 : Int32)))), .val (.int (if (xf &&& (1 : Int32)) = (0 : Int32) then (0 : Int32) else (1 : Int32))), .unset, .unset] [(.ref b24)])) _
    refine XS.dup X24.here hx rfl (hb hby at_31) rfl rfl ?_
    show Steps p.tables e below (T24.setTop (mkF m 32 #[.val (.int xx), .val (.int xy), .val (.int xf), .val (.int xa), .val (.int (xx &&& (1073741823 : Int32))), .val (.int ((xx &&& (1073741823 : Int32)) + (xy &&& (1073741823 : Int32)))), .val (.int (if (xf &&& (1 : Int32)) = (0 : Int32) then (0 : Int32) else (1 : Int32))), .unset, .unset] [(.ref b24), (.ref b24)])) _
    refine XS.iload X24.here hx rfl (hb hby at_32) rfl ?_
    show Steps p.tables e below (T24.setTop (mkF m 34 #[.val (.int xx), .val (.int xy), .val (.int xf), .val (.int xa), .val (.int (xx &&& (1073741823 : Int32))), .val (.int ((xx &&& (1073741823 : Int32)) + (xy &&& (1073741823 : Int32)))), .val (.int (if (xf &&& (1 : Int32)) = (0 : Int32) then (0 : Int32) else (1 : Int32))), .unset, .unset] [(.int (xx &&& (1073741823 : Int32))), (.ref b24), (.ref b24)])) _
    refine XS.iload X24.here hx rfl (hb hby at_34) rfl ?_
    show Steps p.tables e below (T24.setTop (mkF m 36 #[.val (.int xx), .val (.int xy), .val (.int xf), .val (.int xa), .val (.int (xx &&& (1073741823 : Int32))), .val (.int ((xx &&& (1073741823 : Int32)) + (xy &&& (1073741823 : Int32)))), .val (.int (if (xf &&& (1 : Int32)) = (0 : Int32) then (0 : Int32) else (1 : Int32))), .unset, .unset] [(.int ((xx &&& (1073741823 : Int32)) + (xy &&& (1073741823 : Int32)))), (.int (xx &&& (1073741823 : Int32))), (.ref b24), (.ref b24)])) _
    refine XS.iload X24.here hx rfl (hb hby at_36) rfl ?_
    show Steps p.tables e below (T24.setTop (mkF m 38 #[.val (.int xx), .val (.int xy), .val (.int xf), .val (.int xa), .val (.int (xx &&& (1073741823 : Int32))), .val (.int ((xx &&& (1073741823 : Int32)) + (xy &&& (1073741823 : Int32)))), .val (.int (if (xf &&& (1 : Int32)) = (0 : Int32) then (0 : Int32) else (1 : Int32))), .unset, .unset] [(.int (if (xf &&& (1 : Int32)) = (0 : Int32) then (0 : Int32) else (1 : Int32))), (.int ((xx &&& (1073741823 : Int32)) + (xy &&& (1073741823 : Int32)))), (.int (xx &&& (1073741823 : Int32))), (.ref b24), (.ref b24)])) _
    refine st28.trans ?_
    show Steps p.tables e below (T28.setTop (mkF m 41 #[.val (.int xx), .val (.int xy), .val (.int xf), .val (.int xa), .val (.int (xx &&& (1073741823 : Int32))), .val (.int ((xx &&& (1073741823 : Int32)) + (xy &&& (1073741823 : Int32)))), .val (.int (if (xf &&& (1 : Int32)) = (0 : Int32) then (0 : Int32) else (1 : Int32))), .unset, .unset] [(.ref b24)])) _
    refine XS.astore X28.here hx rfl (hb hby at_41) rfl rfl (l' := #[.val (.int xx), .val (.int xy), .val (.int xf), .val (.int xa), .val (.int (xx &&& (1073741823 : Int32))), .val (.int ((xx &&& (1073741823 : Int32)) + (xy &&& (1073741823 : Int32)))), .val (.int (if (xf &&& (1 : Int32)) = (0 : Int32) then (0 : Int32) else (1 : Int32))), .val (.ref b24), .unset]) rfl ?_
    show Steps p.tables e below (T28.setTop (mkF m 43 #[.val (.int xx), .val (.int xy), .val (.int xf), .val (.int xa), .val (.int (xx &&& (1073741823 : Int32))), .val (.int ((xx &&& (1073741823 : Int32)) + (xy &&& (1073741823 : Int32)))), .val (.int (if (xf &&& (1 : Int32)) = (0 : Int32) then (0 : Int32) else (1 : Int32))), .val (.ref b24), .unset] [])) _
    refine XS.aload X28.here hx rfl (hb hby at_43) rfl rfl ?_
    show Steps p.tables e below (T28.setTop (mkF m 45 #[.val (.int xx), .val (.int xy), .val (.int xf), .val (.int xa), .val (.int (xx &&& (1073741823 : Int32))), .val (.int ((xx &&& (1073741823 : Int32)) + (xy &&& (1073741823 : Int32)))), .val (.int (if (xf &&& (1 : Int32)) = (0 : Int32) then (0 : Int32) else (1 : Int32))), .val (.ref b24), .unset] [(.ref b24)])) _
    refine XS.iloadN X28.here hx rfl (hb hby at_45) rfl ?_
    show Steps p.tables e below (T28.setTop (mkF m 46 #[.val (.int xx), .val (.int xy), .val (.int xf), .val (.int xa), .val (.int (xx &&& (1073741823 : Int32))), .val (.int ((xx &&& (1073741823 : Int32)) + (xy &&& (1073741823 : Int32)))), .val (.int (if (xf &&& (1 : Int32)) = (0 : Int32) then (0 : Int32) else (1 : Int32))), .val (.ref b24), .unset] [(.int xa), (.ref b24)])) _
    refine st30.trans ?_
    show Steps p.tables e below (T30.setTop (mkF m 49 #[.val (.int xx), .val (.int xy), .val (.int xf), .val (.int xa), .val (.int (xx &&& (1073741823 : Int32))), .val (.int ((xx &&& (1073741823 : Int32)) + (xy &&& (1073741823 : Int32)))), .val (.int (if (xf &&& (1 : Int32)) = (0 : Int32) then (0 : Int32) else (1 : Int32))), .val (.ref b24), .unset] [(.int (own_tk (xx &&& (1073741823 : Int32)) ((xx &&& (1073741823 : Int32)) + (xy &&& (1073741823 : Int32))) (nar .boolean (if (xf &&& (1 : Int32)) = (0 : Int32) then (0 : Int32) else (1 : Int32))) xa))])) _
    refine XS.iload X30.here hx rfl (hb hby at_49) rfl ?_
    show Steps p.tables e below (T30.setTop (mkF m 51 #[.val (.int xx), .val (.int xy), .val (.int xf), .val (.int xa), .val (.int (xx &&& (1073741823 : Int32))), .val (.int ((xx &&& (1073741823 : Int32)) + (xy &&& (1073741823 : Int32)))), .val (.int (if (xf &&& (1 : Int32)) = (0 : Int32) then (0 : Int32) else (1 : Int32))), .val (.ref b24), .unset] [(.int (xx &&& (1073741823 : Int32))), (.int (own_tk (xx &&& (1073741823 : Int32)) ((xx &&& (1073741823 : Int32)) + (xy &&& (1073741823 : Int32))) (nar .boolean (if (xf &&& (1 : Int32)) = (0 : Int32) then (0 : Int32) else (1 : Int32))) xa))])) _
    refine XS.iload X30.here hx rfl (hb hby at_51) rfl ?_
    show Steps p.tables e below (T30.setTop (mkF m 53 #[.val (.int xx), .val (.int xy), .val (.int xf), .val (.int xa), .val (.int (xx &&& (1073741823 : Int32))), .val (.int ((xx &&& (1073741823 : Int32)) + (xy &&& (1073741823 : Int32)))), .val (.int (if (xf &&& (1 : Int32)) = (0 : Int32) then (0 : Int32) else (1 : Int32))), .val (.ref b24), .unset] [(.int ((xx &&& (1073741823 : Int32)) + (xy &&& (1073741823 : Int32)))), (.int (xx &&& (1073741823 : Int32))), (.int (own_tk (xx &&& (1073741823 : Int32)) ((xx &&& (1073741823 : Int32)) + (xy &&& (1073741823 : Int32))) (nar .boolean (if (xf &&& (1 : Int32)) = (0 : Int32) then (0 : Int32) else (1 : Int32))) xa))])) _
    refine XS.iload X30.here hx rfl (hb hby at_53) rfl ?_
    show Steps p.tables e below (T30.setTop (mkF m 55 #[.val (.int xx), .val (.int xy), .val (.int xf), .val (.int xa), .val (.int (xx &&& (1073741823 : Int32))), .val (.int ((xx &&& (1073741823 : Int32)) + (xy &&& (1073741823 : Int32)))), .val (.int (if (xf &&& (1 : Int32)) = (0 : Int32) then (0 : Int32) else (1 : Int32))), .val (.ref b24), .unset] [(.int (if (xf &&& (1 : Int32)) = (0 : Int32) then (0 : Int32) else (1 : Int32))), (.int ((xx &&& (1073741823 : Int32)) + (xy &&& (1073741823 : Int32)))), (.int (xx &&& (1073741823 : Int32))), (.int (own_tk (xx &&& (1073741823 : Int32)) ((xx &&& (1073741823 : Int32)) + (xy &&& (1073741823 : Int32))) (nar .boolean (if (xf &&& (1 : Int32)) = (0 : Int32) then (0 : Int32) else (1 : Int32))) xa))])) _
    refine XS.iloadN X30.here hx rfl (hb hby at_55) rfl ?_
    show Steps p.tables e below (T30.setTop (mkF m 56 #[.val (.int xx), .val (.int xy), .val (.int xf), .val (.int xa), .val (.int (xx &&& (1073741823 : Int32))), .val (.int ((xx &&& (1073741823 : Int32)) + (xy &&& (1073741823 : Int32)))), .val (.int (if (xf &&& (1 : Int32)) = (0 : Int32) then (0 : Int32) else (1 : Int32))), .val (.ref b24), .unset] [(.int xa), (.int (if (xf &&& (1 : Int32)) = (0 : Int32) then (0 : Int32) else (1 : Int32))), (.int ((xx &&& (1073741823 : Int32)) + (xy &&& (1073741823 : Int32)))), (.int (xx &&& (1073741823 : Int32))), (.int (own_tk (xx &&& (1073741823 : Int32)) ((xx &&& (1073741823 : Int32)) + (xy &&& (1073741823 : Int32))) (nar .boolean (if (xf &&& (1 : Int32)) = (0 : Int32) then (0 : Int32) else (1 : Int32))) xa))])) _
    refine st31 _ ?_
    show Steps p.tables e below (T31.setTop (mkF m 59 #[.val (.int xx), .val (.int xy), .val (.int xf), .val (.int xa), .val (.int (xx &&& (1073741823 : Int32))), .val (.int ((xx &&& (1073741823 : Int32)) + (xy &&& (1073741823 : Int32)))), .val (.int (if (xf &&& (1 : Int32)) = (0 : Int32) then (0 : Int32) else (1 : Int32))), .val (.ref b24), .unset] [(.int (own_ex (xx &&& (1073741823 : Int32)) ((xx &&& (1073741823 : Int32)) + (xy &&& (1073741823 : Int32))) (if (xf &&& (1 : Int32)) = (0 : Int32) then (0 : Int32) else (1 : Int32)) xa)), (.int (own_tk (xx &&& (1073741823 : Int32)) ((xx &&& (1073741823 : Int32)) + (xy &&& (1073741823 : Int32))) (nar .boolean (if (xf &&& (1 : Int32)) = (0 : Int32) then (0 : Int32) else (1 : Int32))) xa))])) _
    refine XS.icmpNo X31.here hx rfl (hb hby at_59) rfl (teq (own_eq _ _ _ _)).2 ?_
    show Steps p.tables e below (T31.setTop (mkF m 62 #[.val (.int xx), .val (.int xy), .val (.int xf), .val (.int xa), .val (.int (xx &&& (1073741823 : Int32))), .val (.int ((xx &&& (1073741823 : Int32)) + (xy &&& (1073741823 : Int32)))), .val (.int (if (xf &&& (1 : Int32)) = (0 : Int32) then (0 : Int32) else (1 : Int32))), .val (.ref b24), .unset] [])) _
    refine XS.iconst X31.here hx rfl (hb hby at_62) ?_
    show Steps p.tables e below (T31.setTop (mkF m 63 #[.val (.int xx), .val (.int xy), .val (.int xf), .val (.int xa), .val (.int (xx &&& (1073741823 : Int32))), .val (.int ((xx &&& (1073741823 : Int32)) + (xy &&& (1073741823 : Int32)))), .val (.int (if (xf &&& (1 : Int32)) = (0 : Int32) then (0 : Int32) else (1 : Int32))), .val (.ref b24), .unset] [(.int (1 : Int32))])) _
    refine XS.goto X31.here hx rfl (pc0 := 63) (pc' := 67) rfl (hb hby at_63) (by decide) (by decide) ?_
    show Steps p.tables e below (T31.setTop (mkF m 67 #[.val (.int xx), .val (.int xy), .val (.int xf), .val (.int xa), .val (.int (xx &&& (1073741823 : Int32))), .val (.int ((xx &&& (1073741823 : Int32)) + (xy &&& (1073741823 : Int32)))), .val (.int (if (xf &&& (1 : Int32)) = (0 : Int32) then (0 : Int32) else (1 : Int32))), .val (.ref b24), .unset] [(.int (1 : Int32))])) _
    refine XS.istore X31.here hx rfl (hb hby at_67) rfl (l' := #[.val (.int xx), .val (.int xy), .val (.int xf), .val (.int xa), .val (.int (xx &&& (1073741823 : Int32))), .val (.int ((xx &&& (1073741823 : Int32)) + (xy &&& (1073741823 : Int32)))), .val (.int (if (xf &&& (1 : Int32)) = (0 : Int32) then (0 : Int32) else (1 : Int32))), .val (.ref b24), .val (.int (1 : Int32))]) rfl ?_
    show Steps p.tables e below (T31.setTop (mkF m 69 #[.val (.int xx), .val (.int xy), .val (.int xf), .val (.int xa), .val (.int (xx &&& (1073741823 : Int32))), .val (.int ((xx &&& (1073741823 : Int32)) + (xy &&& (1073741823 : Int32)))), .val (.int (if (xf &&& (1 : Int32)) = (0 : Int32) then (0 : Int32) else (1 : Int32))), .val (.ref b24), .val (.int (1 : Int32))] [])) _
    refine XS.iload X31.here hx rfl (hb hby at_69) rfl ?_
    show Steps p.tables e below (T31.setTop (mkF m 71 #[.val (.int xx), .val (.int xy), .val (.int xf), .val (.int xa), .val (.int (xx &&& (1073741823 : Int32))), .val (.int ((xx &&& (1073741823 : Int32)) + (xy &&& (1073741823 : Int32)))), .val (.int (if (xf &&& (1 : Int32)) = (0 : Int32) then (0 : Int32) else (1 : Int32))), .val (.ref b24), .val (.int (1 : Int32))] [(.int (1 : Int32))])) _
    refine XS.ifNo X31.here hx rfl (hb hby at_71) rfl ((if0 _ _).trans (feq (by decide : ¬ ((1 : Int32) = (0 : Int32)))).1) ?_
    show Steps p.tables e below (T31.setTop (mkF m 74 #[.val (.int xx), .val (.int xy), .val (.int xf), .val (.int xa), .val (.int (xx &&& (1073741823 : Int32))), .val (.int ((xx &&& (1073741823 : Int32)) + (xy &&& (1073741823 : Int32)))), .val (.int (if (xf &&& (1 : Int32)) = (0 : Int32) then (0 : Int32) else (1 : Int32))), .val (.ref b24), .val (.int (1 : Int32))] [])) _
    refine XS.aload X31.here hx rfl (hb hby at_74) rfl rfl ?_
    show Steps p.tables e below (T31.setTop (mkF m 76 #[.val (.int xx), .val (.int xy), .val (.int xf), .val (.int xa), .val (.int (xx &&& (1073741823 : Int32))), .val (.int ((xx &&& (1073741823 : Int32)) + (xy &&& (1073741823 : Int32)))), .val (.int (if (xf &&& (1 : Int32)) = (0 : Int32) then (0 : Int32) else (1 : Int32))), .val (.ref b24), .val (.int (1 : Int32))] [(.ref b24)])) _
    refine XS.iload X31.here hx rfl (hb hby at_76) rfl ?_
    show Steps p.tables e below (T31.setTop (mkF m 78 #[.val (.int xx), .val (.int xy), .val (.int xf), .val (.int xa), .val (.int (xx &&& (1073741823 : Int32))), .val (.int ((xx &&& (1073741823 : Int32)) + (xy &&& (1073741823 : Int32)))), .val (.int (if (xf &&& (1 : Int32)) = (0 : Int32) then (0 : Int32) else (1 : Int32))), .val (.ref b24), .val (.int (1 : Int32))] [(.int (xx &&& (1073741823 : Int32))), (.ref b24)])) _
    refine XS.iconst X31.here hx rfl (hb hby at_78) ?_
    show Steps p.tables e below (T31.setTop (mkF m 79 #[.val (.int xx), .val (.int xy), .val (.int xf), .val (.int xa), .val (.int (xx &&& (1073741823 : Int32))), .val (.int ((xx &&& (1073741823 : Int32)) + (xy &&& (1073741823 : Int32)))), .val (.int (if (xf &&& (1 : Int32)) = (0 : Int32) then (0 : Int32) else (1 : Int32))), .val (.ref b24), .val (.int (1 : Int32))] [(.int (1 : Int32)), (.int (xx &&& (1073741823 : Int32))), (.ref b24)])) _
    refine XS.isub X31.here hx rfl (hb hby at_79) rfl ?_
    show Steps p.tables e below (T31.setTop (mkF m 80 #[.val (.int xx), .val (.int xy), .val (.int xf), .val (.int xa), .val (.int (xx &&& (1073741823 : Int32))), .val (.int ((xx &&& (1073741823 : Int32)) + (xy &&& (1073741823 : Int32)))), .val (.int (if (xf &&& (1 : Int32)) = (0 : Int32) then (0 : Int32) else (1 : Int32))), .val (.ref b24), .val (.int (1 : Int32))] [(.int ((xx &&& (1073741823 : Int32)) - (1 : Int32))), (.ref b24)])) _
    refine st32.trans ?_
    show Steps p.tables e below (T32.setTop (mkF m 83 #[.val (.int xx), .val (.int xy), .val (.int xf), .val (.int xa), .val (.int (xx &&& (1073741823 : Int32))), .val (.int ((xx &&& (1073741823 : Int32)) + (xy &&& (1073741823 : Int32)))), .val (.int (if (xf &&& (1 : Int32)) = (0 : Int32) then (0 : Int32) else (1 : Int32))), .val (.ref b24), .val (.int (1 : Int32))] [(.int (own_tk (xx &&& (1073741823 : Int32)) ((xx &&& (1073741823 : Int32)) + (xy &&& (1073741823 : Int32))) (nar .boolean (if (xf &&& (1 : Int32)) = (0 : Int32) then (0 : Int32) else (1 : Int32))) ((xx &&& (1073741823 : Int32)) - (1 : Int32))))])) _
    refine XS.iload X32.here hx rfl (hb hby at_83) rfl ?_
    show Steps p.tables e below (T32.setTop (mkF m 85 #[.val (.int xx), .val (.int xy), .val (.int xf), .val (.int xa), .val (.int (xx &&& (1073741823 : Int32))), .val (.int ((xx &&& (1073741823 : Int32)) + (xy &&& (1073741823 : Int32)))), .val (.int (if (xf &&& (1 : Int32)) = (0 : Int32) then (0 : Int32) else (1 : Int32))), .val (.ref b24), .val (.int (1 : Int32))] [(.int (xx &&& (1073741823 : Int32))), (.int (own_tk (xx &&& (1073741823 : Int32)) ((xx &&& (1073741823 : Int32)) + (xy &&& (1073741823 : Int32))) (nar .boolean (if (xf &&& (1 : Int32)) = (0 : Int32) then (0 : Int32) else (1 : Int32))) ((xx &&& (1073741823 : Int32)) - (1 : Int32))))])) _
    refine XS.iload X32.here hx rfl (hb hby at_85) rfl ?_
    show Steps p.tables e below (T32.setTop (mkF m 87 #[.val (.int xx), .val (.int xy), .val (.int xf), .val (.int xa), .val (.int (xx &&& (1073741823 : Int32))), .val (.int ((xx &&& (1073741823 : Int32)) + (xy &&& (1073741823 : Int32)))), .val (.int (if (xf &&& (1 : Int32)) = (0 : Int32) then (0 : Int32) else (1 : Int32))), .val (.ref b24), .val (.int (1 : Int32))] [(.int ((xx &&& (1073741823 : Int32)) + (xy &&& (1073741823 : Int32)))), (.int (xx &&& (1073741823 : Int32))), (.int (own_tk (xx &&& (1073741823 : Int32)) ((xx &&& (1073741823 : Int32)) + (xy &&& (1073741823 : Int32))) (nar .boolean (if (xf &&& (1 : Int32)) = (0 : Int32) then (0 : Int32) else (1 : Int32))) ((xx &&& (1073741823 : Int32)) - (1 : Int32))))])) _
    refine XS.iload X32.here hx rfl (hb hby at_87) rfl ?_
    show Steps p.tables e below (T32.setTop (mkF m 89 #[.val (.int xx), .val (.int xy), .val (.int xf), .val (.int xa), .val (.int (xx &&& (1073741823 : Int32))), .val (.int ((xx &&& (1073741823 : Int32)) + (xy &&& (1073741823 : Int32)))), .val (.int (if (xf &&& (1 : Int32)) = (0 : Int32) then (0 : Int32) else (1 : Int32))), .val (.ref b24), .val (.int (1 : Int32))] [(.int (if (xf &&& (1 : Int32)) = (0 : Int32) then (0 : Int32) else (1 : Int32))), (.int ((xx &&& (1073741823 : Int32)) + (xy &&& (1073741823 : Int32)))), (.int (xx &&& (1073741823 : Int32))), (.int (own_tk (xx &&& (1073741823 : Int32)) ((xx &&& (1073741823 : Int32)) + (xy &&& (1073741823 : Int32))) (nar .boolean (if (xf &&& (1 : Int32)) = (0 : Int32) then (0 : Int32) else (1 : Int32))) ((xx &&& (1073741823 : Int32)) - (1 : Int32))))])) _
    refine XS.iload X32.here hx rfl (hb hby at_89) rfl ?_
    show Steps p.tables e below (T32.setTop (mkF m 91 #[.val (.int xx), .val (.int xy), .val (.int xf), .val (.int xa), .val (.int (xx &&& (1073741823 : Int32))), .val (.int ((xx &&& (1073741823 : Int32)) + (xy &&& (1073741823 : Int32)))), .val (.int (if (xf &&& (1 : Int32)) = (0 : Int32) then (0 : Int32) else (1 : Int32))), .val (.ref b24), .val (.int (1 : Int32))] [(.int (xx &&& (1073741823 : Int32))), (.int (if (xf &&& (1 : Int32)) = (0 : Int32) then (0 : Int32) else (1 : Int32))), (.int ((xx &&& (1073741823 : Int32)) + (xy &&& (1073741823 : Int32)))), (.int (xx &&& (1073741823 : Int32))), (.int (own_tk (xx &&& (1073741823 : Int32)) ((xx &&& (1073741823 : Int32)) + (xy &&& (1073741823 : Int32))) (nar .boolean (if (xf &&& (1 : Int32)) = (0 : Int32) then (0 : Int32) else (1 : Int32))) ((xx &&& (1073741823 : Int32)) - (1 : Int32))))])) _
    refine XS.iconst X32.here hx rfl (hb hby at_91) ?_
    show Steps p.tables e below (T32.setTop (mkF m 92 #[.val (.int xx), .val (.int xy), .val (.int xf), .val (.int xa), .val (.int (xx &&& (1073741823 : Int32))), .val (.int ((xx &&& (1073741823 : Int32)) + (xy &&& (1073741823 : Int32)))), .val (.int (if (xf &&& (1 : Int32)) = (0 : Int32) then (0 : Int32) else (1 : Int32))), .val (.ref b24), .val (.int (1 : Int32))] [(.int (1 : Int32)), (.int (xx &&& (1073741823 : Int32))), (.int (if (xf &&& (1 : Int32)) = (0 : Int32) then (0 : Int32) else (1 : Int32))), (.int ((xx &&& (1073741823 : Int32)) + (xy &&& (1073741823 : Int32)))), (.int (xx &&& (1073741823 : Int32))), (.int (own_tk (xx &&& (1073741823 : Int32)) ((xx &&& (1073741823 : Int32)) + (xy &&& (1073741823 : Int32))) (nar .boolean (if (xf &&& (1 : Int32)) = (0 : Int32) then (0 : Int32) else (1 : Int32))) ((xx &&& (1073741823 : Int32)) - (1 : Int32))))])) _
    refine XS.isub X32.here hx rfl (hb hby at_92) rfl ?_
    show Steps p.tables e below (T32.setTop (mkF m 93 #[.val (.int xx), .val (.int xy), .val (.int xf), .val (.int xa), .val (.int (xx &&& (1073741823 : Int32))), .val (.int ((xx &&& (1073741823 : Int32)) + (xy &&& (1073741823 : Int32)))), .val (.int (if (xf &&& (1 : Int32)) = (0 : Int32) then (0 : Int32) else (1 : Int32))), .val (.ref b24), .val (.int (1 : Int32))] [(.int ((xx &&& (1073741823 : Int32)) - (1 : Int32))), (.int (if (xf &&& (1 : Int32)) = (0 : Int32) then (0 : Int32) else (1 : Int32))), (.int ((xx &&& (1073741823 : Int32)) + (xy &&& (1073741823 : Int32)))), (.int (xx &&& (1073741823 : Int32))), (.int (own_tk (xx &&& (1073741823 : Int32)) ((xx &&& (1073741823 : Int32)) + (xy &&& (1073741823 : Int32))) (nar .boolean (if (xf &&& (1 : Int32)) = (0 : Int32) then (0 : Int32) else (1 : Int32))) ((xx &&& (1073741823 : Int32)) - (1 : Int32))))])) _
    refine st33 _ ?_
    show Steps p.tables e below (T33.setTop (mkF m 96 #[.val (.int xx), .val (.int xy), .val (.int xf), .val (.int xa), .val (.int (xx &&& (1073741823 : Int32))), .val (.int ((xx &&& (1073741823 : Int32)) + (xy &&& (1073741823 : Int32)))), .val (.int (if (xf &&& (1 : Int32)) = (0 : Int32) then (0 : Int32) else (1 : Int32))), .val (.ref b24), .val (.int (1 : Int32))] [(.int (own_ex (xx &&& (1073741823 : Int32)) ((xx &&& (1073741823 : Int32)) + (xy &&& (1073741823 : Int32))) (if (xf &&& (1 : Int32)) = (0 : Int32) then (0 : Int32) else (1 : Int32)) ((xx &&& (1073741823 : Int32)) - (1 : Int32)))), (.int (own_tk (xx &&& (1073741823 : Int32)) ((xx &&& (1073741823 : Int32)) + (xy &&& (1073741823 : Int32))) (nar .boolean (if (xf &&& (1 : Int32)) = (0 : Int32) then (0 : Int32) else (1 : Int32))) ((xx &&& (1073741823 : Int32)) - (1 : Int32))))])) _
    refine XS.icmpNo X33.here hx rfl (hb hby at_96) rfl (teq (own_eq _ _ _ _)).2 ?_
    show Steps p.tables e below (T33.setTop (mkF m 99 #[.val (.int xx), .val (.int xy), .val (.int xf), .val (.int xa), .val (.int (xx &&& (1073741823 : Int32))), .val (.int ((xx &&& (1073741823 : Int32)) + (xy &&& (1073741823 : Int32)))), .val (.int (if (xf &&& (1 : Int32)) = (0 : Int32) then (0 : Int32) else (1 : Int32))), .val (.ref b24), .val (.int (1 : Int32))] [])) _
    refine XS.iconst X33.here hx rfl (hb hby at_99) ?_
    show Steps p.tables e below (T33.setTop (mkF m 100 #[.val (.int xx), .val (.int xy), .val (.int xf), .val (.int xa), .val (.int (xx &&& (1073741823 : Int32))), .val (.int ((xx &&& (1073741823 : Int32)) + (xy &&& (1073741823 : Int32)))), .val (.int (if (xf &&& (1 : Int32)) = (0 : Int32) then (0 : Int32) else (1 : Int32))), .val (.ref b24), .val (.int (1 : Int32))] [(.int (1 : Int32))])) _
    refine XS.goto X33.here hx rfl (pc0 := 100) (pc' := 104) rfl (hb hby at_100) (by decide) (by decide) ?_
    show Steps p.tables e below (T33.setTop (mkF m 104 #[.val (.int xx), .val (.int xy), .val (.int xf), .val (.int xa), .val (.int (xx &&& (1073741823 : Int32))), .val (.int ((xx &&& (1073741823 : Int32)) + (xy &&& (1073741823 : Int32)))), .val (.int (if (xf &&& (1 : Int32)) = (0 : Int32) then (0 : Int32) else (1 : Int32))), .val (.ref b24), .val (.int (1 : Int32))] [(.int (1 : Int32))])) _
    refine XS.istore X33.here hx rfl (hb hby at_104) rfl (l' := #[.val (.int xx), .val (.int xy), .val (.int xf), .val (.int xa), .val (.int (xx &&& (1073741823 : Int32))), .val (.int ((xx &&& (1073741823 : Int32)) + (xy &&& (1073741823 : Int32)))), .val (.int (if (xf &&& (1 : Int32)) = (0 : Int32) then (0 : Int32) else (1 : Int32))), .val (.ref b24), .val (.int (1 : Int32))]) rfl ?_
    show Steps p.tables e below (T33.setTop (mkF m 106 #[.val (.int xx), .val (.int xy), .val (.int xf), .val (.int xa), .val (.int (xx &&& (1073741823 : Int32))), .val (.int ((xx &&& (1073741823 : Int32)) + (xy &&& (1073741823 : Int32)))), .val (.int (if (xf &&& (1 : Int32)) = (0 : Int32) then (0 : Int32) else (1 : Int32))), .val (.ref b24), .val (.int (1 : Int32))] [])) _
    refine XS.iload X33.here hx rfl (hb hby at_106) rfl ?_
    show Steps p.tables e below (T33.setTop (mkF m 108 #[.val (.int xx), .val (.int xy), .val (.int xf), .val (.int xa), .val (.int (xx &&& (1073741823 : Int32))), .val (.int ((xx &&& (1073741823 : Int32)) + (xy &&& (1073741823 : Int32)))), .val (.int (if (xf &&& (1 : Int32)) = (0 : Int32) then (0 : Int32) else (1 : Int32))), .val (.ref b24), .val (.int (1 : Int32))] [(.int (1 : Int32))])) _
    refine XS.ifNo X33.here hx rfl (hb hby at_108) rfl ((if0 _ _).trans (feq (by decide : ¬ ((1 : Int32) = (0 : Int32)))).1) ?_
    show Steps p.tables e below (T33.setTop (mkF m 111 #[.val (.int xx), .val (.int xy), .val (.int xf), .val (.int xa), .val (.int (xx &&& (1073741823 : Int32))), .val (.int ((xx &&& (1073741823 : Int32)) + (xy &&& (1073741823 : Int32)))), .val (.int (if (xf &&& (1 : Int32)) = (0 : Int32) then (0 : Int32) else (1 : Int32))), .val (.ref b24), .val (.int (1 : Int32))] [])) _
    refine XS.aload X33.here hx rfl (hb hby at_111) rfl rfl ?_
    show Steps p.tables e below (T33.setTop (mkF m 113 #[.val (.int xx), .val (.int xy), .val (.int xf), .val (.int xa), .val (.int (xx &&& (1073741823 : Int32))), .val (.int ((xx &&& (1073741823 : Int32)) + (xy &&& (1073741823 : Int32)))), .val (.int (if (xf &&& (1 : Int32)) = (0 : Int32) then (0 : Int32) else (1 : Int32))), .val (.ref b24), .val (.int (1 : Int32))] [(.ref b24)])) _
    refine XS.iload X33.here hx rfl (hb hby at_113) rfl ?_
    show Steps p.tables e below (T33.setTop (mkF m 115 #[.val (.int xx), .val (.int xy), .val (.int xf), .val (.int xa), .val (.int (xx &&& (1073741823 : Int32))), .val (.int ((xx &&& (1073741823 : Int32)) + (xy &&& (1073741823 : Int32)))), .val (.int (if (xf &&& (1 : Int32)) = (0 : Int32) then (0 : Int32) else (1 : Int32))), .val (.ref b24), .val (.int (1 : Int32))] [(.int (xx &&& (1073741823 : Int32))), (.ref b24)])) _
    refine st34.trans ?_
    show Steps p.tables e below (T34.setTop (mkF m 118 #[.val (.int xx), .val (.int xy), .val (.int xf), .val (.int xa), .val (.int (xx &&& (1073741823 : Int32))), .val (.int ((xx &&& (1073741823 : Int32)) + (xy &&& (1073741823 : Int32)))), .val (.int (if (xf &&& (1 : Int32)) = (0 : Int32) then (0 : Int32) else (1 : Int32))), .val (.ref b24), .val (.int (1 : Int32))] [(.int (own_tk (xx &&& (1073741823 : Int32)) ((xx &&& (1073741823 : Int32)) + (xy &&& (1073741823 : Int32))) (nar .boolean (if (xf &&& (1 : Int32)) = (0 : Int32) then (0 : Int32) else (1 : Int32))) (xx &&& (1073741823 : Int32))))])) _
    refine XS.iload X34.here hx rfl (hb hby at_118) rfl ?_
    show Steps p.tables e below (T34.setTop (mkF m 120 #[.val (.int xx), .val (.int xy), .val (.int xf), .val (.int xa), .val (.int (xx &&& (1073741823 : Int32))), .val (.int ((xx &&& (1073741823 : Int32)) + (xy &&& (1073741823 : Int32)))), .val (.int (if (xf &&& (1 : Int32)) = (0 : Int32) then (0 : Int32) else (1 : Int32))), .val (.ref b24), .val (.int (1 : Int32))] [(.int (xx &&& (1073741823 : Int32))), (.int (own_tk (xx &&& (1073741823 : Int32)) ((xx &&& (1073741823 : Int32)) + (xy &&& (1073741823 : Int32))) (nar .boolean (if (xf &&& (1 : Int32)) = (0 : Int32) then (0 : Int32) else (1 : Int32))) (xx &&& (1073741823 : Int32))))])) _
    refine XS.iload X34.here hx rfl (hb hby at_120) rfl ?_
    show Steps p.tables e below (T34.setTop (mkF m 122 #[.val (.int xx), .val (.int xy), .val (.int xf), .val (.int xa), .val (.int (xx &&& (1073741823 : Int32))), .val (.int ((xx &&& (1073741823 : Int32)) + (xy &&& (1073741823 : Int32)))), .val (.int (if (xf &&& (1 : Int32)) = (0 : Int32) then (0 : Int32) else (1 : Int32))), .val (.ref b24), .val (.int (1 : Int32))] [(.int ((xx &&& (1073741823 : Int32)) + (xy &&& (1073741823 : Int32)))), (.int (xx &&& (1073741823 : Int32))), (.int (own_tk (xx &&& (1073741823 : Int32)) ((xx &&& (1073741823 : Int32)) + (xy &&& (1073741823 : Int32))) (nar .boolean (if (xf &&& (1 : Int32)) = (0 : Int32) then (0 : Int32) else (1 : Int32))) (xx &&& (1073741823 : Int32))))])) _
    refine XS.iload X34.here hx rfl (hb hby at_122) rfl ?_
    show Steps p.tables e below (T34.setTop (mkF m 124 #[.val (.int xx), .val (.int xy), .val (.int xf), .val (.int xa), .val (.int (xx &&& (1073741823 : Int32))), .val (.int ((xx &&& (1073741823 : Int32)) + (xy &&& (1073741823 : Int32)))), .val (.int (if (xf &&& (1 : Int32)) = (0 : Int32) then (0 : Int32) else (1 : Int32))), .val (.ref b24), .val (.int (1 : Int32))] [(.int (if (xf &&& (1 : Int32)) = (0 : Int32) then (0 : Int32) else (1 : Int32))), (.int ((xx &&& (1073741823 : Int32)) + (xy &&& (1073741823 : Int32)))), (.int (xx &&& (1073741823 : Int32))), (.int (own_tk (xx &&& (1073741823 : Int32)) ((xx &&& (1073741823 : Int32)) + (xy &&& (1073741823 : Int32))) (nar .boolean (if (xf &&& (1 : Int32)) = (0 : Int32) then (0 : Int32) else (1 : Int32))) (xx &&& (1073741823 : Int32))))])) _
    refine XS.iload X34.here hx rfl (hb hby at_124) rfl ?_
    show Steps p.tables e below (T34.setTop (mkF m 126 #[.val (.int xx), .val (.int xy), .val (.int xf), .val (.int xa), .val (.int (xx &&& (1073741823 : Int32))), .val (.int ((xx &&& (1073741823 : Int32)) + (xy &&& (1073741823 : Int32)))), .val (.int (if (xf &&& (1 : Int32)) = (0 : Int32) then (0 : Int32) else (1 : Int32))), .val (.ref b24), .val (.int (1 : Int32))] [(.int (xx &&& (1073741823 : Int32))), (.int (if (xf &&& (1 : Int32)) = (0 : Int32) then (0 : Int32) else (1 : Int32))), (.int ((xx &&& (1073741823 : Int32)) + (xy &&& (1073741823 : Int32)))), (.int (xx &&& (1073741823 : Int32))), (.int (own_tk (xx &&& (1073741823 : Int32)) ((xx &&& (1073741823 : Int32)) + (xy &&& (1073741823 : Int32))) (nar .boolean (if (xf &&& (1 : Int32)) = (0 : Int32) then (0 : Int32) else (1 : Int32))) (xx &&& (1073741823 : Int32))))])) _
    refine st35 _ ?_
    show Steps p.tables e below (T35.setTop (mkF m 129 #[.val (.int xx), .val (.int xy), .val (.int xf), .val (.int xa), .val (.int (xx &&& (1073741823 : Int32))), .val (.int ((xx &&& (1073741823 : Int32)) + (xy &&& (1073741823 : Int32)))), .val (.int (if (xf &&& (1 : Int32)) = (0 : Int32) then (0 : Int32) else (1 : Int32))), .val (.ref b24), .val (.int (1 : Int32))] [(.int (own_ex (xx &&& (1073741823 : Int32)) ((xx &&& (1073741823 : Int32)) + (xy &&& (1073741823 : Int32))) (if (xf &&& (1 : Int32)) = (0 : Int32) then (0 : Int32) else (1 : Int32)) (xx &&& (1073741823 : Int32)))), (.int (own_tk (xx &&& (1073741823 : Int32)) ((xx &&& (1073741823 : Int32)) + (xy &&& (1073741823 : Int32))) (nar .boolean (if (xf &&& (1 : Int32)) = (0 : Int32) then (0 : Int32) else (1 : Int32))) (xx &&& (1073741823 : Int32))))])) _
    refine XS.icmpNo X35.here hx rfl (hb hby at_129) rfl (teq (own_eq _ _ _ _)).2 ?_
    show Steps p.tables e below (T35.setTop (mkF m 132 #[.val (.int xx), .val (.int xy), .val (.int xf), .val (.int xa), .val (.int (xx &&& (1073741823 : Int32))), .val (.int ((xx &&& (1073741823 : Int32)) + (xy &&& (1073741823 : Int32)))), .val (.int (if (xf &&& (1 : Int32)) = (0 : Int32) then (0 : Int32) else (1 : Int32))), .val (.ref b24), .val (.int (1 : Int32))] [])) _
    refine XS.iconst X35.here hx rfl (hb hby at_132) ?_
    show Steps p.tables e below (T35.setTop (mkF m 133 #[.val (.int xx), .val (.int xy), .val (.int xf), .val (.int xa), .val (.int (xx &&& (1073741823 : Int32))), .val (.int ((xx &&& (1073741823 : Int32)) + (xy &&& (1073741823 : Int32)))), .val (.int (if (xf &&& (1 : Int32)) = (0 : Int32) then (0 : Int32) else (1 : Int32))), .val (.ref b24), .val (.int (1 : Int32))] [(.int (1 : Int32))])) _
    refine XS.goto X35.here hx rfl (pc0 := 133) (pc' := 137) rfl (hb hby at_133) (by decide) (by decide) ?_
    show Steps p.tables e below (T35.setTop (mkF m 137 #[.val (.int xx), .val (.int xy), .val (.int xf), .val (.int xa), .val (.int (xx &&& (1073741823 : Int32))), .val (.int ((xx &&& (1073741823 : Int32)) + (xy &&& (1073741823 : Int32)))), .val (.int (if (xf &&& (1 : Int32)) = (0 : Int32) then (0 : Int32) else (1 : Int32))), .val (.ref b24), .val (.int (1 : Int32))] [(.int (1 : Int32))])) _
    refine XS.istore X35.here hx rfl (hb hby at_137) rfl (l' := #[.val (.int xx), .val (.int xy), .val (.int xf), .val (.int xa), .val (.int (xx &&& (1073741823 : Int32))), .val (.int ((xx &&& (1073741823 : Int32)) + (xy &&& (1073741823 : Int32)))), .val (.int (if (xf &&& (1 : Int32)) = (0 : Int32) then (0 : Int32) else (1 : Int32))), .val (.ref b24), .val (.int (1 : Int32))]) rfl ?_
    show Steps p.tables e below (T35.setTop (mkF m 139 #[.val (.int xx), .val (.int xy), .val (.int xf), .val (.int xa), .val (.int (xx &&& (1073741823 : Int32))), .val (.int ((xx &&& (1073741823 : Int32)) + (xy &&& (1073741823 : Int32)))), .val (.int (if (xf &&& (1 : Int32)) = (0 : Int32) then (0 : Int32) else (1 : Int32))), .val (.ref b24), .val (.int (1 : Int32))] [])) _
    refine XS.iload X35.here hx rfl (hb hby at_139) rfl ?_
    show Steps p.tables e below (T35.setTop (mkF m 141 #[.val (.int xx), .val (.int xy), .val (.int xf), .val (.int xa), .val (.int (xx &&& (1073741823 : Int32))), .val (.int ((xx &&& (1073741823 : Int32)) + (xy &&& (1073741823 : Int32)))), .val (.int (if (xf &&& (1 : Int32)) = (0 : Int32) then (0 : Int32) else (1 : Int32))), .val (.ref b24), .val (.int (1 : Int32))] [(.int (1 : Int32))])) _
    refine XS.ifNo X35.here hx rfl (hb hby at_141) rfl ((if0 _ _).trans (feq (by decide : ¬ ((1 : Int32) = (0 : Int32)))).1) ?_
    show Steps p.tables e below (T35.setTop (mkF m 144 #[.val (.int xx), .val (.int xy), .val (.int xf), .val (.int xa), .val (.int (xx &&& (1073741823 : Int32))), .val (.int ((xx &&& (1073741823 : Int32)) + (xy &&& (1073741823 : Int32)))), .val (.int (if (xf &&& (1 : Int32)) = (0 : Int32) then (0 : Int32) else (1 : Int32))), .val (.ref b24), .val (.int (1 : Int32))] [])) _
    refine XS.aload X35.here hx rfl (hb hby at_144) rfl rfl ?_
    show Steps p.tables e below (T35.setTop (mkF m 146 #[.val (.int xx), .val (.int xy), .val (.int xf), .val (.int xa), .val (.int (xx &&& (1073741823 : Int32))), .val (.int ((xx &&& (1073741823 : Int32)) + (xy &&& (1073741823 : Int32)))), .val (.int (if (xf &&& (1 : Int32)) = (0 : Int32) then (0 : Int32) else (1 : Int32))), .val (.ref b24), .val (.int (1 : Int32))] [(.ref b24)])) _
    refine XS.iload X35.here hx rfl (hb hby at_146) rfl ?_
    show Steps p.tables e below (T35.setTop (mkF m 148 #[.val (.int xx), .val (.int xy), .val (.int xf), .val (.int xa), .val (.int (xx &&& (1073741823 : Int32))), .val (.int ((xx &&& (1073741823 : Int32)) + (xy &&& (1073741823 : Int32)))), .val (.int (if (xf &&& (1 : Int32)) = (0 : Int32) then (0 : Int32) else (1 : Int32))), .val (.ref b24), .val (.int (1 : Int32))] [(.int ((xx &&& (1073741823 : Int32)) + (xy &&& (1073741823 : Int32)))), (.ref b24)])) _
    refine st36.trans ?_
    show Steps p.tables e below (T36.setTop (mkF m 151 #[.val (.int xx), .val (.int xy), .val (.int xf), .val (.int xa), .val (.int (xx &&& (1073741823 : Int32))), .val (.int ((xx &&& (1073741823 : Int32)) + (xy &&& (1073741823 : Int32)))), .val (.int (if (xf &&& (1 : Int32)) = (0 : Int32) then (0 : Int32) else (1 : Int32))), .val (.ref b24), .val (.int (1 : Int32))] [(.int (own_tk (xx &&& (1073741823 : Int32)) ((xx &&& (1073741823 : Int32)) + (xy &&& (1073741823 : Int32))) (nar .boolean (if (xf &&& (1 : Int32)) = (0 : Int32) then (0 : Int32) else (1 : Int32))) ((xx &&& (1073741823 : Int32)) + (xy &&& (1073741823 : Int32)))))])) _
    refine XS.iload X36.here hx rfl (hb hby at_151) rfl ?_
    show Steps p.tables e below (T36.setTop (mkF m 153 #[.val (.int xx), .val (.int xy), .val (.int xf), .val (.int xa), .val (.int (xx &&& (1073741823 : Int32))), .val (.int ((xx &&& (1073741823 : Int32)) + (xy &&& (1073741823 : Int32)))), .val (.int (if (xf &&& (1 : Int32)) = (0 : Int32) then (0 : Int32) else (1 : Int32))), .val (.ref b24), .val (.int (1 : Int32))] [(.int (xx &&& (1073741823 : Int32))), (.int (own_tk (xx &&& (1073741823 : Int32)) ((xx &&& (1073741823 : Int32)) + (xy &&& (1073741823 : Int32))) (nar .boolean (if (xf &&& (1 : Int32)) = (0 : Int32) then (0 : Int32) else (1 : Int32))) ((xx &&& (1073741823 : Int32)) + (xy &&& (1073741823 : Int32)))))])) _
    refine XS.iload X36.here hx rfl (hb hby at_153) rfl ?_
    show Steps p.tables e below (T36.setTop (mkF m 155 #[.val (.int xx), .val (.int xy), .val (.int xf), .val (.int xa), .val (.int (xx &&& (1073741823 : Int32))), .val (.int ((xx &&& (1073741823 : Int32)) + (xy &&& (1073741823 : Int32)))), .val (.int (if (xf &&& (1 : Int32)) = (0 : Int32) then (0 : Int32) else (1 : Int32))), .val (.ref b24), .val (.int (1 : Int32))] [(.int ((xx &&& (1073741823 : Int32)) + (xy &&& (1073741823 : Int32)))), (.int (xx &&& (1073741823 : Int32))), (.int (own_tk (xx &&& (1073741823 : Int32)) ((xx &&& (1073741823 : Int32)) + (xy &&& (1073741823 : Int32))) (nar .boolean (if (xf &&& (1 : Int32)) = (0 : Int32) then (0 : Int32) else (1 : Int32))) ((xx &&& (1073741823 : Int32)) + (xy &&& (1073741823 : Int32)))))])) _
    refine XS.iload X36.here hx rfl (hb hby at_155) rfl ?_
    show Steps p.tables e below (T36.setTop (mkF m 157 #[.val (.int xx), .val (.int xy), .val (.int xf), .val (.int xa), .val (.int (xx &&& (1073741823 : Int32))), .val (.int ((xx &&& (1073741823 : Int32)) + (xy &&& (1073741823 : Int32)))), .val (.int (if (xf &&& (1 : Int32)) = (0 : Int32) then (0 : Int32) else (1 : Int32))), .val (.ref b24), .val (.int (1 : Int32))] [(.int (if (xf &&& (1 : Int32)) = (0 : Int32) then (0 : Int32) else (1 : Int32))), (.int ((xx &&& (1073741823 : Int32)) + (xy &&& (1073741823 : Int32)))), (.int (xx &&& (1073741823 : Int32))), (.int (own_tk (xx &&& (1073741823 : Int32)) ((xx &&& (1073741823 : Int32)) + (xy &&& (1073741823 : Int32))) (nar .boolean (if (xf &&& (1 : Int32)) = (0 : Int32) then (0 : Int32) else (1 : Int32))) ((xx &&& (1073741823 : Int32)) + (xy &&& (1073741823 : Int32)))))])) _
    refine XS.iload X36.here hx rfl (hb hby at_157) rfl ?_
    show Steps p.tables e below (T36.setTop (mkF m 159 #[.val (.int xx), .val (.int xy), .val (.int xf), .val (.int xa), .val (.int (xx &&& (1073741823 : Int32))), .val (.int ((xx &&& (1073741823 : Int32)) + (xy &&& (1073741823 : Int32)))), .val (.int (if (xf &&& (1 : Int32)) = (0 : Int32) then (0 : Int32) else (1 : Int32))), .val (.ref b24), .val (.int (1 : Int32))] [(.int ((xx &&& (1073741823 : Int32)) + (xy &&& (1073741823 : Int32)))), (.int (if (xf &&& (1 : Int32)) = (0 : Int32) then (0 : Int32) else (1 : Int32))), (.int ((xx &&& (1073741823 : Int32)) + (xy &&& (1073741823 : Int32)))), (.int (xx &&& (1073741823 : Int32))), (.int (own_tk (xx &&& (1073741823 : Int32)) ((xx &&& (1073741823 : Int32)) + (xy &&& (1073741823 : Int32))) (nar .boolean (if (xf &&& (1 : Int32)) = (0 : Int32) then (0 : Int32) else (1 : Int32))) ((xx &&& (1073741823 : Int32)) + (xy &&& (1073741823 : Int32)))))])) _
    refine st37 _ ?_
    show Steps p.tables e below (T37.setTop (mkF m 162 #[.val (.int xx), .val (.int xy), .val (.int xf), .val (.int xa), .val (.int (xx &&& (1073741823 : Int32))), .val (.int ((xx &&& (1073741823 : Int32)) + (xy &&& (1073741823 : Int32)))), .val (.int (if (xf &&& (1 : Int32)) = (0 : Int32) then (0 : Int32) else (1 : Int32))), .val (.ref b24), .val (.int (1 : Int32))] [(.int (own_ex (xx &&& (1073741823 : Int32)) ((xx &&& (1073741823 : Int32)) + (xy &&& (1073741823 : Int32))) (if (xf &&& (1 : Int32)) = (0 : Int32) then (0 : Int32) else (1 : Int32)) ((xx &&& (1073741823 : Int32)) + (xy &&& (1073741823 : Int32))))), (.int (own_tk (xx &&& (1073741823 : Int32)) ((xx &&& (1073741823 : Int32)) + (xy &&& (1073741823 : Int32))) (nar .boolean (if (xf &&& (1 : Int32)) = (0 : Int32) then (0 : Int32) else (1 : Int32))) ((xx &&& (1073741823 : Int32)) + (xy &&& (1073741823 : Int32)))))])) _
    refine XS.icmpNo X37.here hx rfl (hb hby at_162) rfl (teq (own_eq _ _ _ _)).2 ?_
    show Steps p.tables e below (T37.setTop (mkF m 165 #[.val (.int xx), .val (.int xy), .val (.int xf), .val (.int xa), .val (.int (xx &&& (1073741823 : Int32))), .val (.int ((xx &&& (1073741823 : Int32)) + (xy &&& (1073741823 : Int32)))), .val (.int (if (xf &&& (1 : Int32)) = (0 : Int32) then (0 : Int32) else (1 : Int32))), .val (.ref b24), .val (.int (1 : Int32))] [])) _
    refine XS.iconst X37.here hx rfl (hb hby at_165) ?_
    show Steps p.tables e below (T37.setTop (mkF m 166 #[.val (.int xx), .val (.int xy), .val (.int xf), .val (.int xa), .val (.int (xx &&& (1073741823 : Int32))), .val (.int ((xx &&& (1073741823 : Int32)) + (xy &&& (1073741823 : Int32)))), .val (.int (if (xf &&& (1 : Int32)) = (0 : Int32) then (0 : Int32) else (1 : Int32))), .val (.ref b24), .val (.int (1 : Int32))] [(.int (1 : Int32))])) _
    refine XS.goto X37.here hx rfl (pc0 := 166) (pc' := 170) rfl (hb hby at_166) (by decide) (by decide) ?_
    show Steps p.tables e below (T37.setTop (mkF m 170 #[.val (.int xx), .val (.int xy), .val (.int xf), .val (.int xa), .val (.int (xx &&& (1073741823 : Int32))), .val (.int ((xx &&& (1073741823 : Int32)) + (xy &&& (1073741823 : Int32)))), .val (.int (if (xf &&& (1 : Int32)) = (0 : Int32) then (0 : Int32) else (1 : Int32))), .val (.ref b24), .val (.int (1 : Int32))] [(.int (1 : Int32))])) _
    refine XS.istore X37.here hx rfl (hb hby at_170) rfl (l' := #[.val (.int xx), .val (.int xy), .val (.int xf), .val (.int xa), .val (.int (xx &&& (1073741823 : Int32))), .val (.int ((xx &&& (1073741823 : Int32)) + (xy &&& (1073741823 : Int32)))), .val (.int (if (xf &&& (1 : Int32)) = (0 : Int32) then (0 : Int32) else (1 : Int32))), .val (.ref b24), .val (.int (1 : Int32))]) rfl ?_
    show Steps p.tables e below (T37.setTop (mkF m 172 #[.val (.int xx), .val (.int xy), .val (.int xf), .val (.int xa), .val (.int (xx &&& (1073741823 : Int32))), .val (.int ((xx &&& (1073741823 : Int32)) + (xy &&& (1073741823 : Int32)))), .val (.int (if (xf &&& (1 : Int32)) = (0 : Int32) then (0 : Int32) else (1 : Int32))), .val (.ref b24), .val (.int (1 : Int32))] [])) _
    refine XS.iload X37.here hx rfl (hb hby at_172) rfl ?_
    show Steps p.tables e below (T37.setTop (mkF m 174 #[.val (.int xx), .val (.int xy), .val (.int xf), .val (.int xa), .val (.int (xx &&& (1073741823 : Int32))), .val (.int ((xx &&& (1073741823 : Int32)) + (xy &&& (1073741823 : Int32)))), .val (.int (if (xf &&& (1 : Int32)) = (0 : Int32) then (0 : Int32) else (1 : Int32))), .val (.ref b24), .val (.int (1 : Int32))] [(.int (1 : Int32))])) _
    refine XS.ifNo X37.here hx rfl (hb hby at_174) rfl ((if0 _ _).trans (feq (by decide : ¬ ((1 : Int32) = (0 : Int32)))).1) ?_
    show Steps p.tables e below (T37.setTop (mkF m 177 #[.val (.int xx), .val (.int xy), .val (.int xf), .val (.int xa), .val (.int (xx &&& (1073741823 : Int32))), .val (.int ((xx &&& (1073741823 : Int32)) + (xy &&& (1073741823 : Int32)))), .val (.int (if (xf &&& (1 : Int32)) = (0 : Int32) then (0 : Int32) else (1 : Int32))), .val (.ref b24), .val (.int (1 : Int32))] [])) _
    refine XS.aload X37.here hx rfl (hb hby at_177) rfl rfl ?_
    show Steps p.tables e below (T37.setTop (mkF m 179 #[.val (.int xx), .val (.int xy), .val (.int xf), .val (.int xa), .val (.int (xx &&& (1073741823 : Int32))), .val (.int ((xx &&& (1073741823 : Int32)) + (xy &&& (1073741823 : Int32)))), .val (.int (if (xf &&& (1 : Int32)) = (0 : Int32) then (0 : Int32) else (1 : Int32))), .val (.ref b24), .val (.int (1 : Int32))] [(.ref b24)])) _
    refine XS.iload X37.here hx rfl (hb hby at_179) rfl ?_
    show Steps p.tables e below (T37.setTop (mkF m 181 #[.val (.int xx), .val (.int xy), .val (.int xf), .val (.int xa), .val (.int (xx &&& (1073741823 : Int32))), .val (.int ((xx &&& (1073741823 : Int32)) + (xy &&& (1073741823 : Int32)))), .val (.int (if (xf &&& (1 : Int32)) = (0 : Int32) then (0 : Int32) else (1 : Int32))), .val (.ref b24), .val (.int (1 : Int32))] [(.int ((xx &&& (1073741823 : Int32)) + (xy &&& (1073741823 : Int32)))), (.ref b24)])) _
    refine XS.iconst X37.here hx rfl (hb hby at_181) ?_
    show Steps p.tables e below (T37.setTop (mkF m 182 #[.val (.int xx), .val (.int xy), .val (.int xf), .val (.int xa), .val (.int (xx &&& (1073741823 : Int32))), .val (.int ((xx &&& (1073741823 : Int32)) + (xy &&& (1073741823 : Int32)))), .val (.int (if (xf &&& (1 : Int32)) = (0 : Int32) then (0 : Int32) else (1 : Int32))), .val (.ref b24), .val (.int (1 : Int32))] [(.int (1 : Int32)), (.int ((xx &&& (1073741823 : Int32)) + (xy &&& (1073741823 : Int32)))), (.ref b24)])) _
    refine XS.iadd X37.here hx rfl (hb hby at_182) rfl ?_
    show Steps p.tables e below (T37.setTop (mkF m 183 #[.val (.int xx), .val (.int xy), .val (.int xf), .val (.int xa), .val (.int (xx &&& (1073741823 : Int32))), .val (.int ((xx &&& (1073741823 : Int32)) + (xy &&& (1073741823 : Int32)))), .val (.int (if (xf &&& (1 : Int32)) = (0 : Int32) then (0 : Int32) else (1 : Int32))), .val (.ref b24), .val (.int (1 : Int32))] [(.int (((xx &&& (1073741823 : Int32)) + (xy &&& (1073741823 : Int32))) + (1 : Int32))), (.ref b24)])) _
    refine st38.trans ?_
    show Steps p.tables e below (T38.setTop (mkF m 186 #[.val (.int xx), .val (.int xy), .val (.int xf), .val (.int xa), .val (.int (xx &&& (1073741823 : Int32))), .val (.int ((xx &&& (1073741823 : Int32)) + (xy &&& (1073741823 : Int32)))), .val (.int (if (xf &&& (1 : Int32)) = (0 : Int32) then (0 : Int32) else (1 : Int32))), .val (.ref b24), .val (.int (1 : Int32))] [(.int (own_tk (xx &&& (1073741823 : Int32)) ((xx &&& (1073741823 : Int32)) + (xy &&& (1073741823 : Int32))) (nar .boolean (if (xf &&& (1 : Int32)) = (0 : Int32) then (0 : Int32) else (1 : Int32))) (((xx &&& (1073741823 : Int32)) + (xy &&& (1073741823 : Int32))) + (1 : Int32))))])) _
    refine XS.iload X38.here hx rfl (hb hby at_186) rfl ?_
    show Steps p.tables e below (T38.setTop (mkF m 188 #[.val (.int xx), .val (.int xy), .val (.int xf), .val (.int xa), .val (.int (xx &&& (1073741823 : Int32))), .val (.int ((xx &&& (1073741823 : Int32)) + (xy &&& (1073741823 : Int32)))), .val (.int (if (xf &&& (1 : Int32)) = (0 : Int32) then (0 : Int32) else (1 : Int32))), .val (.ref b24), .val (.int (1 : Int32))] [(.int (xx &&& (1073741823 : Int32))), (.int (own_tk (xx &&& (1073741823 : Int32)) ((xx &&& (1073741823 : Int32)) + (xy &&& (1073741823 : Int32))) (nar .boolean (if (xf &&& (1 : Int32)) = (0 : Int32) then (0 : Int32) else (1 : Int32))) (((xx &&& (1073741823 : Int32)) + (xy &&& (1073741823 : Int32))) + (1 : Int32))))])) _
    refine XS.iload X38.here hx rfl (hb hby at_188) rfl ?_
    show Steps p.tables e below (T38.setTop (mkF m 190 #[.val (.int xx), .val (.int xy), .val (.int xf), .val (.int xa), .val (.int (xx &&& (1073741823 : Int32))), .val (.int ((xx &&& (1073741823 : Int32)) + (xy &&& (1073741823 : Int32)))), .val (.int (if (xf &&& (1 : Int32)) = (0 : Int32) then (0 : Int32) else (1 : Int32))), .val (.ref b24), .val (.int (1 : Int32))] [(.int ((xx &&& (1073741823 : Int32)) + (xy &&& (1073741823 : Int32)))), (.int (xx &&& (1073741823 : Int32))), (.int (own_tk (xx &&& (1073741823 : Int32)) ((xx &&& (1073741823 : Int32)) + (xy &&& (1073741823 : Int32))) (nar .boolean (if (xf &&& (1 : Int32)) = (0 : Int32) then (0 : Int32) else (1 : Int32))) (((xx &&& (1073741823 : Int32)) + (xy &&& (1073741823 : Int32))) + (1 : Int32))))])) _
    refine XS.iload X38.here hx rfl (hb hby at_190) rfl ?_
    show Steps p.tables e below (T38.setTop (mkF m 192 #[.val (.int xx), .val (.int xy), .val (.int xf), .val (.int xa), .val (.int (xx &&& (1073741823 : Int32))), .val (.int ((xx &&& (1073741823 : Int32)) + (xy &&& (1073741823 : Int32)))), .val (.int (if (xf &&& (1 : Int32)) = (0 : Int32) then (0 : Int32) else (1 : Int32))), .val (.ref b24), .val (.int (1 : Int32))] [(.int (if (xf &&& (1 : Int32)) = (0 : Int32) then (0 : Int32) else (1 : Int32))), (.int ((xx &&& (1073741823 : Int32)) + (xy &&& (1073741823 : Int32)))), (.int (xx &&& (1073741823 : Int32))), (.int (own_tk (xx &&& (1073741823 : Int32)) ((xx &&& (1073741823 : Int32)) + (xy &&& (1073741823 : Int32))) (nar .boolean (if (xf &&& (1 : Int32)) = (0 : Int32) then (0 : Int32) else (1 : Int32))) (((xx &&& (1073741823 : Int32)) + (xy &&& (1073741823 : Int32))) + (1 : Int32))))])) _
    refine XS.iload X38.here hx rfl (hb hby at_192) rfl ?_
    show Steps p.tables e below (T38.setTop (mkF m 194 #[.val (.int xx), .val (.int xy), .val (.int xf), .val (.int xa), .val (.int (xx &&& (1073741823 : Int32))), .val (.int ((xx &&& (1073741823 : Int32)) + (xy &&& (1073741823 : Int32)))), .val (.int (if (xf &&& (1 : Int32)) = (0 : Int32) then (0 : Int32) else (1 : Int32))), .val (.ref b24), .val (.int (1 : Int32))] [(.int ((xx &&& (1073741823 : Int32)) + (xy &&& (1073741823 : Int32)))), (.int (if (xf &&& (1 : Int32)) = (0 : Int32) then (0 : Int32) else (1 : Int32))), (.int ((xx &&& (1073741823 : Int32)) + (xy &&& (1073741823 : Int32)))), (.int (xx &&& (1073741823 : Int32))), (.int (own_tk (xx &&& (1073741823 : Int32)) ((xx &&& (1073741823 : Int32)) + (xy &&& (1073741823 : Int32))) (nar .boolean (if (xf &&& (1 : Int32)) = (0 : Int32) then (0 : Int32) else (1 : Int32))) (((xx &&& (1073741823 : Int32)) + (xy &&& (1073741823 : Int32))) + (1 : Int32))))])) _
    refine XS.iconst X38.here hx rfl (hb hby at_194) ?_
    show Steps p.tables e below (T38.setTop (mkF m 195 #[.val (.int xx), .val (.int xy), .val (.int xf), .val (.int xa), .val (.int (xx &&& (1073741823 : Int32))), .val (.int ((xx &&& (1073741823 : Int32)) + (xy &&& (1073741823 : Int32)))), .val (.int (if (xf &&& (1 : Int32)) = (0 : Int32) then (0 : Int32) else (1 : Int32))), .val (.ref b24), .val (.int (1 : Int32))] [(.int (1 : Int32)), (.int ((xx &&& (1073741823 : Int32)) + (xy &&& (1073741823 : Int32)))), (.int (if (xf &&& (1 : Int32)) = (0 : Int32) then (0 : Int32) else (1 : Int32))), (.int ((xx &&& (1073741823 : Int32)) + (xy &&& (1073741823 : Int32)))), (.int (xx &&& (1073741823 : Int32))), (.int (own_tk (xx &&& (1073741823 : Int32)) ((xx &&& (1073741823 : Int32)) + (xy &&& (1073741823 : Int32))) (nar .boolean (if (xf &&& (1 : Int32)) = (0 : Int32) then (0 : Int32) else (1 : Int32))) (((xx &&& (1073741823 : Int32)) + (xy &&& (1073741823 : Int32))) + (1 : Int32))))])) _
    refine XS.iadd X38.here hx rfl (hb hby at_195) rfl ?_
    show Steps p.tables e below (T38.setTop (mkF m 196 #[.val (.int xx), .val (.int xy), .val (.int xf), .val (.int xa), .val (.int (xx &&& (1073741823 : Int32))), .val (.int ((xx &&& (1073741823 : Int32)) + (xy &&& (1073741823 : Int32)))), .val (.int (if (xf &&& (1 : Int32)) = (0 : Int32) then (0 : Int32) else (1 : Int32))), .val (.ref b24), .val (.int (1 : Int32))] [(.int (((xx &&& (1073741823 : Int32)) + (xy &&& (1073741823 : Int32))) + (1 : Int32))), (.int (if (xf &&& (1 : Int32)) = (0 : Int32) then (0 : Int32) else (1 : Int32))), (.int ((xx &&& (1073741823 : Int32)) + (xy &&& (1073741823 : Int32)))), (.int (xx &&& (1073741823 : Int32))), (.int (own_tk (xx &&& (1073741823 : Int32)) ((xx &&& (1073741823 : Int32)) + (xy &&& (1073741823 : Int32))) (nar .boolean (if (xf &&& (1 : Int32)) = (0 : Int32) then (0 : Int32) else (1 : Int32))) (((xx &&& (1073741823 : Int32)) + (xy &&& (1073741823 : Int32))) + (1 : Int32))))])) _
    refine st39 _ ?_
    show Steps p.tables e below (T39.setTop (mkF m 199 #[.val (.int xx), .val (.int xy), .val (.int xf), .val (.int xa), .val (.int (xx &&& (1073741823 : Int32))), .val (.int ((xx &&& (1073741823 : Int32)) + (xy &&& (1073741823 : Int32)))), .val (.int (if (xf &&& (1 : Int32)) = (0 : Int32) then (0 : Int32) else (1 : Int32))), .val (.ref b24), .val (.int (1 : Int32))] [(.int (own_ex (xx &&& (1073741823 : Int32)) ((xx &&& (1073741823 : Int32)) + (xy &&& (1073741823 : Int32))) (if (xf &&& (1 : Int32)) = (0 : Int32) then (0 : Int32) else (1 : Int32)) (((xx &&& (1073741823 : Int32)) + (xy &&& (1073741823 : Int32))) + (1 : Int32)))), (.int (own_tk (xx &&& (1073741823 : Int32)) ((xx &&& (1073741823 : Int32)) + (xy &&& (1073741823 : Int32))) (nar .boolean (if (xf &&& (1 : Int32)) = (0 : Int32) then (0 : Int32) else (1 : Int32))) (((xx &&& (1073741823 : Int32)) + (xy &&& (1073741823 : Int32))) + (1 : Int32))))])) _
    refine XS.icmpNo X39.here hx rfl (hb hby at_199) rfl (teq (own_eq _ _ _ _)).2 ?_
    show Steps p.tables e below (T39.setTop (mkF m 202 #[.val (.int xx), .val (.int xy), .val (.int xf), .val (.int xa), .val (.int (xx &&& (1073741823 : Int32))), .val (.int ((xx &&& (1073741823 : Int32)) + (xy &&& (1073741823 : Int32)))), .val (.int (if (xf &&& (1 : Int32)) = (0 : Int32) then (0 : Int32) else (1 : Int32))), .val (.ref b24), .val (.int (1 : Int32))] [])) _
    refine XS.iconst X39.here hx rfl (hb hby at_202) ?_
    show Steps p.tables e below (T39.setTop (mkF m 203 #[.val (.int xx), .val (.int xy), .val (.int xf), .val (.int xa), .val (.int (xx &&& (1073741823 : Int32))), .val (.int ((xx &&& (1073741823 : Int32)) + (xy &&& (1073741823 : Int32)))), .val (.int (if (xf &&& (1 : Int32)) = (0 : Int32) then (0 : Int32) else (1 : Int32))), .val (.ref b24), .val (.int (1 : Int32))] [(.int (1 : Int32))])) _
    refine XS.goto X39.here hx rfl (pc0 := 203) (pc' := 207) rfl (hb hby at_203) (by decide) (by decide) ?_
    show Steps p.tables e below (T39.setTop (mkF m 207 #[.val (.int xx), .val (.int xy), .val (.int xf), .val (.int xa), .val (.int (xx &&& (1073741823 : Int32))), .val (.int ((xx &&& (1073741823 : Int32)) + (xy &&& (1073741823 : Int32)))), .val (.int (if (xf &&& (1 : Int32)) = (0 : Int32) then (0 : Int32) else (1 : Int32))), .val (.ref b24), .val (.int (1 : Int32))] [(.int (1 : Int32))])) _
    refine XS.istore X39.here hx rfl (hb hby at_207) rfl (l' := #[.val (.int xx), .val (.int xy), .val (.int xf), .val (.int xa), .val (.int (xx &&& (1073741823 : Int32))), .val (.int ((xx &&& (1073741823 : Int32)) + (xy &&& (1073741823 : Int32)))), .val (.int (if (xf &&& (1 : Int32)) = (0 : Int32) then (0 : Int32) else (1 : Int32))), .val (.ref b24), .val (.int (1 : Int32))]) rfl ?_
    show Steps p.tables e below (T39.setTop (mkF m 209 #[.val (.int xx), .val (.int xy), .val (.int xf), .val (.int xa), .val (.int (xx &&& (1073741823 : Int32))), .val (.int ((xx &&& (1073741823 : Int32)) + (xy &&& (1073741823 : Int32)))), .val (.int (if (xf &&& (1 : Int32)) = (0 : Int32) then (0 : Int32) else (1 : Int32))), .val (.ref b24), .val (.int (1 : Int32))] [])) _
    refine XS.iload X39.here hx rfl (hb hby at_209) rfl ?_
    show Steps p.tables e below (T39.setTop (mkF m 211 #[.val (.int xx), .val (.int xy), .val (.int xf), .val (.int xa), .val (.int (xx &&& (1073741823 : Int32))), .val (.int ((xx &&& (1073741823 : Int32)) + (xy &&& (1073741823 : Int32)))), .val (.int (if (xf &&& (1 : Int32)) = (0 : Int32) then (0 : Int32) else (1 : Int32))), .val (.ref b24), .val (.int (1 : Int32))] [(.int (1 : Int32))])) _
    exact retN X39 hx (t := .boolean) Bd.returns (by simp) (hb hby at_211) hr
  · show Q0 Z xx xy xf xa h0 n0 _ T39.heap _
    rw [K39c]
    exact ⟨rfl, N39⟩

set_option maxRecDepth 65536 in
set_option maxHeartbeats 40000000 in
theorem comes_1 {Post : Tables → Env → Array Value → State → Outcome → State → Prop} (hpost : ∀ tb e args s v u, (limb_1_1.after args s (.returned v) u = true ∧ limb_1_2.after args s (.returned v) u = true ∧ True) → FrameEnd s (.returned v) u (Jvm.fieldLocs frame_1_writes args s ++ Jvm.arrayLocs frame_1_arrays args s ++ Jvm.staticLocs frame_1_statics s) 16 128 → Post tb e args s (.returned v) u) :
    ArmFor flags0 classFile x code maxLocals ret World_1 tables_1 room_1 Calls_1 rest_1 Pre_1 Post := by
  intro l hfl _ _ p e ha hc hk s m args below hf hA hF happ hP
  obtain ⟨hcalls, hrest, hpre⟩ := hP
  obtain ⟨-, -, -, hnamed, -, -, -, hat⟩ := (Spec.applies_iff hf).mp happ
  obtain ⟨hg, hn⟩ := and_e (Cond.before_iff.mp (show (Jvm.Cond.and given_1 narrow_1).before args s = true from hpre))
  obtain ⟨hcnt, hg0⟩ := and_e hg
  obtain ⟨ha0, hg1⟩ := and_e hg0
  obtain ⟨ha1, hg2⟩ := and_e hg1
  obtain ⟨ha2, hg3⟩ := and_e hg2
  obtain ⟨w0, w1, w2, w3, rfl⟩ : ∃ w0 w1 w2 w3 : Value, args = #[w0, w1, w2, w3] := by
    have hs : args.size = 4 := by simpa [Cond.value, given_1] using hcnt
    obtain ⟨L⟩ := args
    match L, hs with
    | [w0, w1, w2, w3], _ => exact ⟨w0, w1, w2, w3, rfl⟩
  have hw := fun d (hd : d ∈ tables_1) => atoms_spec (ws := Jvm.Cond.code x code maxLocals ret :: tables_1) hat d (List.mem_cons_of_mem _ hd)
  have hfit : Fit s := fun {y c} hc i hi => by
    obtain ⟨ha, rfl⟩ := Array.getElem?_eq_some_iff.mp hc
    have q := List.all_eq_true.mp ((Array.all_eq_true_iff_forall_mem.mp hF) _ (Array.getElem_mem ha)) i (List.mem_range.mpr hi)
    simpa [Array.getElem?_eq_getElem hi] using q
  obtain ⟨i0, ei0⟩ := is_v ha0
  obtain rfl : w0 = (.int i0) := Option.some.inj ei0
  obtain ⟨i1, ei1⟩ := is_v ha1
  obtain rfl : w1 = (.int i1) := Option.some.inj ei1
  obtain ⟨i2, ei2⟩ := is_v ha2
  obtain rfl : w2 = (.int i2) := Option.some.inj ei2
  obtain ⟨i3, ei3⟩ := is_v hg3
  obtain rfl : w3 = (.int i3) := Option.some.inj ei3
  obtain ⟨n, o, h1, h2, h3, _, L, rfl, ⟨rfl, N⟩, hq⟩ := rm0 l s _ hw tables_1 i0 i1 i2 i3 s.heap s.heap.size (Nat.le_refl _)  p e ha hc hk s m _ below hf ((Spec.applies_iff_loose hf).mp happ).1 ⟨rfl, State.Warmed39.refl s, rfl⟩ trivial
  refine ⟨n, _, h1, h2, h3, hpost _ _ _ _ _ _ ⟨Cond.after_iff.mpr rfl, Cond.after_iff.mpr (eq_i res_at (Term.int_eval (1)) rfl), trivial⟩ ⟨hq.1, hq.2.1, (hq.2.2.sift fun y hy => Or.inr (N y hy)).mono (by decide) (by decide)⟩⟩
theorem main_1_1 : Claimed_1_1 := comes_1 fun _ _ _ _ _ _ h hF => ⟨h.1, hF⟩
theorem main_1_2 : Claimed_1_2 := comes_1 fun _ _ _ _ _ _ h hF => ⟨h.2.1, hF⟩
end Jvm.Pilot.@@N@@
namespace Jvm.Pilot.@@N@@
open Jvm Jvm.ClassFile Sem Op Lib Jvm.Free Jvm.Stand Jvm.Pilot.@@N@@.Jvm.D
/-! MADE BY PROGRAM (witnessworld.py) out of the Statement's table words and the real class files: 9 classes; the members and pool entries that the words name. The judged class is class 1, her method 2. -/
namespace start1
open Jvm.ClassFile
def u (s : String) : CpInfo := .utf8 (stringToUtf16 s)
/-- a pool by its gaps: so many unusable entries, then the entry; so many at the end -/
def gap : Nat → List CpInfo → List CpInfo
  | 0, r => r
  | n + 1, r => .unusable :: gap n r
def poolList (es : List (Nat × CpInfo)) (last : Nat) : List CpInfo := es.foldr (fun e r => gap e.1 (e.2 :: r)) (gap last [])
def pool (es : List (Nat × CpInfo)) (last : Nat) : Array CpInfo := ⟨poolList es last⟩
def fileOf (pool : Array CpInfo) (this : Nat) (attrs : Array Attribute := #[]) (ms : Array MethodInfo := #[]) (fl : Nat := 33) (sup : Nat := 0) (ifs : Array Nat := #[]) (fds : Array FieldInfo := #[]) : ClassFile where
  minorVersion := 0
  majorVersion := 65
  constantPool := pool
  accessFlags := fl
  thisClass := this
  superClass := sup
  interfaces := ifs
  fields := fds
  methods := ms
  attributes := attrs
def plain (name : String) (sup : Option ClassId) : Class where
  name := name
  kind := .ordinary
  loader := none
  accessFlags := 33
  super := sup
  interfaces := #[]
  cf := none
  fields := #[]
  methods := #[]
  instanceTypes := #[]
  staticTypes := #[]
  resolved := #[]
  callSites := []
  init := .initialized
  statics := none
  mirror := none

def pool0 : Array CpInfo := pool [(5, u "<init>"), (0, u "()V"), (1, .class_ 10), (1, u "java/lang/Object")] 113

def k0c0 : Code := { maxStack := 0, maxLocals := 1, code := object_method_1_code, exceptionTable := #[], attributes := #[] }
def k0m0 : Method := { name := "<init>", desc := "()V", sig := { parameters := [], returnType := none }, accessFlags := 1, code := some k0c0 }
/-- java/lang/Object -/
def k0 : Class := { plain "java/lang/Object" none with
  accessFlags := 33
  interfaces := #[]
  cf := some (fileOf pool0 8 #[] #[{ accessFlags := 1, nameIndex := 5, descriptorIndex := 6, attributes := #[] }] 33 0 #[] #[])
  fields := #[]
  methods := #[k0m0]
  instanceTypes := #[]
  staticTypes := #[]
  resolved := Array.replicate 124 none
  statics := none }

def pool1 : Array CpInfo := pool [(2, .class_ 4), (1, u "java/lang/Object"), (0, u "<init>"), (0, u "()V"), (0, .integer 1073741823), (0, .class_ 9), (0, u "com/example/alterlint/alterlint/Arity"), (0, .methodref 8 11), (0, .nameAndType 5 12), (0, u "(IIZ)V"), (0, .methodref 8 14), (0, .nameAndType 15 16), (0, u "takes"), (0, u "(I)Z"), (0, .methodref 18 19), (0, .class_ 20), (0, .nameAndType 21 22), (0, u "com/example/alterlint/alterlint/ArityTakesPinLaw"), (0, u "expected"), (0, u "(IIZI)Z"), (3, u "law"), (0, u "(IIII)Z")] 2

def k1m0 : Method := { name := "<init>", desc := "()V", sig := { parameters := [], returnType := none }, accessFlags := 1, code := none }
def k1c1 : Code := { maxStack := 2, maxLocals := 4, code := method_2_code, exceptionTable := #[], attributes := #[] }
def k1m1 : Method := { name := "expected", desc := "(IIZI)Z", sig := { parameters := [.int, .int, .boolean, .int], returnType := some .boolean }, accessFlags := 10, code := some k1c1 }
def k1c2 : Code := { maxStack := 6, maxLocals := 9, code := code, exceptionTable := #[], attributes := #[] }
def k1m2 : Method := { name := "law", desc := "(IIII)Z", sig := { parameters := [.int, .int, .int, .int], returnType := some .boolean }, accessFlags := 9, code := some k1c2 }
/-- com/example/alterlint/alterlint/ArityTakesPinLaw -/
def k1 : Class := { plain "com/example/alterlint/alterlint/ArityTakesPinLaw" (some 0) with
  accessFlags := 49
  interfaces := #[]
  cf := some (fileOf pool1 18 #[] #[{ accessFlags := 1, nameIndex := 5, descriptorIndex := 6, attributes := #[] }, { accessFlags := 10, nameIndex := 21, descriptorIndex := 22, attributes := #[] }, { accessFlags := 9, nameIndex := 26, descriptorIndex := 27, attributes := #[] }] 49 2 #[] #[])
  fields := #[]
  methods := #[k1m0, k1m1, k1m2]
  instanceTypes := #[]
  staticTypes := #[]
  resolved := Array.replicate 30 none
  statics := none }

def pool2 : Array CpInfo := pool [(1, .methodref 2 3), (0, .class_ 4), (0, .nameAndType 5 6), (0, u "java/lang/Object"), (0, u "<init>"), (0, u "()V"), (0, .fieldref 8 9), (0, .class_ 10), (0, .nameAndType 11 12), (0, u "com/example/alterlint/alterlint/Arity"), (0, u "required"), (0, u "I"), (0, .fieldref 8 14), (0, .nameAndType 15 12), (0, u "parameters"), (0, .fieldref 8 17), (0, .nameAndType 18 19), (0, u "variadic"), (0, u "Z"), (0, u "(IIZ)V"), (2, u "takes"), (0, u "(I)Z")] 5

def k2c0 : Code := { maxStack := 2, maxLocals := 4, code := prog_4_method_1_code, exceptionTable := #[], attributes := #[] }
def k2m0 : Method := { name := "<init>", desc := "(IIZ)V", sig := { parameters := [.int, .int, .boolean], returnType := none }, accessFlags := 0, code := some k2c0 }
def k2c1 : Code := { maxStack := 2, maxLocals := 2, code := prog_4_method_2_code, exceptionTable := #[], attributes := #[] }
def k2m1 : Method := { name := "takes", desc := "(I)Z", sig := { parameters := [.int], returnType := some .boolean }, accessFlags := 0, code := some k2c1 }
/-- com/example/alterlint/alterlint/Arity -/
def k2 : Class := { plain "com/example/alterlint/alterlint/Arity" (some 0) with
  accessFlags := 48
  interfaces := #[]
  cf := some (fileOf pool2 8 #[] #[{ accessFlags := 0, nameIndex := 5, descriptorIndex := 20, attributes := #[] }, { accessFlags := 0, nameIndex := 23, descriptorIndex := 24, attributes := #[] }] 48 2 #[] #[{ accessFlags := 18, nameIndex := 11, descriptorIndex := 12, attributes := #[] }, { accessFlags := 18, nameIndex := 15, descriptorIndex := 12, attributes := #[] }, { accessFlags := 18, nameIndex := 18, descriptorIndex := 19, attributes := #[] }])
  fields := #[{ name := "required", type := .int, accessFlags := 18, slot := 0, constantValue := 0 }, { name := "parameters", type := .int, accessFlags := 18, slot := 1, constantValue := 0 }, { name := "variadic", type := .boolean, accessFlags := 18, slot := 2, constantValue := 0 }]
  methods := #[k2m0, k2m1]
  instanceTypes := #[.int, .int, .boolean]
  staticTypes := #[]
  resolved := Array.replicate 30 none
  statics := none }

def pool3 : Array CpInfo := pool [(1, u "java/lang/Cloneable"), (0, .class_ 1), (0, u "java/lang/Object"), (0, .class_ 3)] 3

/-- java/lang/Cloneable -/
def k3 : Class := { plain "java/lang/Cloneable" (some 0) with
  accessFlags := 1537
  interfaces := #[]
  cf := some (fileOf pool3 2 #[] #[] 1537 4 #[] #[])
  fields := #[]
  methods := #[]
  instanceTypes := #[]
  staticTypes := #[]
  resolved := Array.replicate 8 none
  statics := none }

def pool4 : Array CpInfo := pool [(1, u "java/io/Serializable"), (0, .class_ 1), (0, u "java/lang/Object"), (0, .class_ 3)] 3

/-- java/io/Serializable -/
def k4 : Class := { plain "java/io/Serializable" (some 0) with
  accessFlags := 1537
  interfaces := #[]
  cf := some (fileOf pool4 2 #[] #[] 1537 4 #[] #[])
  fields := #[]
  methods := #[]
  instanceTypes := #[]
  staticTypes := #[]
  resolved := Array.replicate 8 none
  statics := none }

/-- the primitive byte -/
def k5 : Class := { plain "byte" none with kind := .primitive 'B', accessFlags := 0x411 }
/-- [B -/
def k6 : Class := { plain "[B" (some 0) with kind := .array 5 .byte, interfaces := #[3, 4], accessFlags := 1041 }

/-- the primitive int -/
def k7 : Class := { plain "int" none with kind := .primitive 'I', accessFlags := 0x411 }
/-- [I -/
def k8 : Class := { plain "[I" (some 0) with kind := .array 7 .int, interfaces := #[3, 4], accessFlags := 1041 }

def heap : Heap := #[]
def classes : Array Class := #[k0, k1, k2, k3, k4, k5, k6, k7, k8]
def interned : List (Array UInt16 × Addr) := []
def slotsUsed : Nat := 0
def theMethod : MethodId := ⟨1, 2⟩
def args0 : Array Value := #[.int 5, .int 7, .int 1, .int 6]
def aboutOver (below : List Frame) : State where
  vm := { classes := classes, interned := interned.toArray }
  heap := heap
  slotsUsed := slotsUsed
  threads := #[{ frames := .invoking theMethod args0 :: below }]
def below0 : List Frame := [.native { method := ⟨0, 0⟩, args := #[] }]
def about1 : State := aboutOver below0
def p0 : Program := .bare "" "" ""
def e0 : Env := launch0.env 0 0 0
theorem w_frames : about1.frames = Frame.invoking theMethod args0 :: below0 := rfl
set_option maxRecDepth 65536 in
theorem w_args : argsFit about1.vm theMethod args0 = true := by decide +kernel
set_option maxRecDepth 65536 in
theorem w_heap : heapFits about1 = true := by decide +kernel
set_option maxRecDepth 65536 in
theorem w_runnable : about1.curStatus? = some .runnable := by decide +kernel
set_option maxRecDepth 65536 in
theorem w_alone : about1.alone = true := by decide +kernel
set_option maxRecDepth 65536 in
theorem w_named : about1.methodNamed? x = some theMethod := by decide +kernel
set_option maxRecDepth 65536 in
theorem w_hears : about1.hears theMethod below0 = true := by decide +kernel
set_option maxRecDepth 65536 in
theorem w_ripe : about1.ripe theMethod args0 below0 = true := by decide +kernel
theorem w_running : about1.status = .running := rfl
set_option maxRecDepth 65536 in
theorem w_room : about1.hasRoom e0.platform room_1 = true :=
  launch0.hasRoom_least _ room_1 (by decide +kernel) (by decide +kernel) (by decide +kernel) (by decide +kernel) (by decide +kernel) (by decide +kernel)
theorem allAtoms_all (ts : List Jvm.Cond) (a : Array Jvm.Value) (st : Jvm.State) : (allAtoms ts).before a st = ts.all (fun c => c.before a st) := by
  induction ts with
  | nil => rfl
  | cons c t ih =>
    show (Jvm.Cond.and c (allAtoms t)).before a st = _
    rw [Jvm.Cond.before_and, ih, List.all_cons]
def words1 : List Jvm.Cond := Jvm.Cond.code x code maxLocals ret :: tables_1
/-- a 'code' word, met by the world's own term for the bytes: nothing is compared byte by byte -/
theorem code_word {y : MethodName} {bytes : ByteArray} {mx : Nat} {rt : Option FieldType} {a : Array Value} {s : State} {m : MethodId} {meth : Method} {c : Code} (h1 : s.methodNamed? y = some m) (h2 : s.vm.method? m = some meth) (h3 : meth.code = some c) (h4 : c.code = bytes)
    (h5 : (c.maxLocals == mx && c.exceptionTable.isEmpty && decide (c.maxStack ≤ mostOperands) && decide (meth.sig.returnType = rt) && !meth.locks && decide (parseMethodDescriptor y.desc = some meth.sig)) = true) : (Jvm.Cond.code y bytes mx rt).before a s = true := by
  simp only [Bool.and_eq_true, beq_iff_eq, Bool.not_eq_true', decide_eq_true_eq] at h5
  obtain ⟨⟨⟨⟨⟨g1, g2⟩, g3⟩, g4⟩, g5⟩, g6⟩ := h5
  simp [Cond.before, Cond.holds, Cond.value, h1, h2, h3, h4, g1, g2, g3, g4, g5, g6]
def isCode : Jvm.Cond → Bool
  | .code _ _ _ _ => true
  | _ => false
theorem all_split {L : List Jvm.Cond} {P : Jvm.Cond → Bool} (h1 : L.all (fun c => isCode c || P c) = true) (h2 : ∀ c ∈ L.filter isCode, P c = true) : L.all P = true := by
  refine List.all_eq_true.mpr fun c hc => ?_
  have h := List.all_eq_true.mp h1 c hc
  rcases Bool.eq_false_or_eq_true (isCode c) with hi | hi
  · exact h2 c (List.mem_filter.mpr ⟨hc, hi⟩)
  · simpa [hi] using h
set_option maxRecDepth 65536 in
theorem w_c0 : (Jvm.Cond.code x code maxLocals ret).before args0 about1 = true := code_word (m := ⟨1, 2⟩) (meth := k1m2) (c := k1c2) (by decide +kernel) rfl rfl rfl (by decide +kernel)
set_option maxRecDepth 65536 in
theorem w_c1 : (Jvm.Cond.code ({ cls := "com/example/alterlint/alterlint/Arity", name := "<init>", desc := "(IIZ)V" } : Jvm.MethodName) prog_4_method_1_code (4 : Nat) (Option.none : Option Jvm.ClassFile.FieldType)).before args0 about1 = true := code_word (m := ⟨2, 0⟩) (meth := k2m0) (c := k2c0) (by decide +kernel) rfl rfl rfl (by decide +kernel)
set_option maxRecDepth 65536 in
theorem w_c2 : (Jvm.Cond.code ({ cls := "java/lang/Object", name := "<init>", desc := "()V" } : Jvm.MethodName) object_method_1_code (1 : Nat) (Option.none : Option Jvm.ClassFile.FieldType)).before args0 about1 = true := code_word (m := ⟨0, 0⟩) (meth := k0m0) (c := k0c0) (by decide +kernel) rfl rfl rfl (by decide +kernel)
set_option maxRecDepth 65536 in
theorem w_c3 : (Jvm.Cond.code ({ cls := "com/example/alterlint/alterlint/Arity", name := "takes", desc := "(I)Z" } : Jvm.MethodName) prog_4_method_2_code (2 : Nat) (Option.some Jvm.ClassFile.FieldType.boolean)).before args0 about1 = true := code_word (m := ⟨2, 1⟩) (meth := k2m1) (c := k2c1) (by decide +kernel) rfl rfl rfl (by decide +kernel)
set_option maxRecDepth 65536 in
theorem w_c4 : (Jvm.Cond.code ({ cls := "com/example/alterlint/alterlint/ArityTakesPinLaw", name := "expected", desc := "(IIZI)Z" } : Jvm.MethodName) method_2_code (4 : Nat) (Option.some Jvm.ClassFile.FieldType.boolean)).before args0 about1 = true := code_word (m := ⟨1, 1⟩) (meth := k1m1) (c := k1c1) (by decide +kernel) rfl rfl rfl (by decide +kernel)
def codes1 : List Jvm.Cond := [Jvm.Cond.code x code maxLocals ret, Jvm.Cond.code ({ cls := "com/example/alterlint/alterlint/Arity", name := "<init>", desc := "(IIZ)V" } : Jvm.MethodName) prog_4_method_1_code (4 : Nat) (Option.none : Option Jvm.ClassFile.FieldType), Jvm.Cond.code ({ cls := "java/lang/Object", name := "<init>", desc := "()V" } : Jvm.MethodName) object_method_1_code (1 : Nat) (Option.none : Option Jvm.ClassFile.FieldType), Jvm.Cond.code ({ cls := "com/example/alterlint/alterlint/Arity", name := "takes", desc := "(I)Z" } : Jvm.MethodName) prog_4_method_2_code (2 : Nat) (Option.some Jvm.ClassFile.FieldType.boolean), Jvm.Cond.code ({ cls := "com/example/alterlint/alterlint/ArityTakesPinLaw", name := "expected", desc := "(IIZI)Z" } : Jvm.MethodName) method_2_code (4 : Nat) (Option.some Jvm.ClassFile.FieldType.boolean)]
set_option maxRecDepth 65536 in
theorem codes_eq : words1.filter isCode = codes1 := rfl
theorem w_codes : ∀ c ∈ words1.filter isCode, c.before args0 about1 = true := by
  rw [codes_eq]
  intro c hc
  simp only [codes1, List.mem_cons, List.not_mem_nil, or_false] at hc
  rcases hc with rfl | rfl | rfl | rfl | rfl
  · exact w_c0
  · exact w_c1
  · exact w_c2
  · exact w_c3
  · exact w_c4
set_option maxRecDepth 65536 in
theorem w_t1 : (words1.take 24).all (fun c => isCode c || c.before args0 about1) = true := by decide +kernel
set_option maxRecDepth 65536 in
theorem w_t2 : (words1.drop 24).all (fun c => isCode c || c.before args0 about1) = true := by decide +kernel
theorem w_tables : (allAtoms (Jvm.Cond.code x code maxLocals ret :: tables_1)).before args0 about1 = true := by
  rw [allAtoms_all]
  show words1.all (fun c => c.before args0 about1) = true
  refine all_split ?_ w_codes
  rw [← List.take_append_drop 24 words1, List.all_append, w_t1, w_t2]
  rfl
set_option maxRecDepth 65536 in
theorem w_case : (Jvm.Cond.and given_1 narrow_1).before args0 about1 = true := by decide +kernel
theorem w_applies : (headSpec (Jvm.Cond.code x code maxLocals ret :: tables_1) room_1).applies x e0.platform about1 = true :=
  (Spec.applies_iff w_frames).mpr ⟨w_running, w_runnable, w_alone, w_named, w_hears, w_ripe, w_room, w_tables⟩
theorem atStart : AtStart classFile x code maxLocals ret World_1 tables_1 room_1 Calls_1 rest_1 Pre_1 launch0 p0 e0 about1 theMethod args0 below0 :=
  ⟨lists_1, trivial, launch0.admits_env _ _ _, launch0.least_env, fairChoices_fair.cas, fairChoices_fair.clock, w_frames, w_args, w_heap, w_applies, trivial, trivial, w_case⟩
end start1
theorem witness_1 : WitnessClaimed_1 := ⟨start1.p0, start1.e0, start1.about1, start1.theMethod, start1.args0, start1.below0, start1.atStart⟩
end Jvm.Pilot.@@N@@
