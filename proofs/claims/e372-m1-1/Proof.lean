import JvmDerived
import JvmDerived.Pilot.@@N@@Statement
import JvmDerived.Pilot.@@N@@Code
set_option linter.unusedVariables false
set_option linter.unusedSimpArgs false
namespace Jvm.RoadKit
open Sem ClassFile Op Lib Jvm.Stand Jvm.Free Jvm.LawKit
section New
variable {p : Program} {l : Launch} {e : Env} {R : Room} {s : State} {m : MethodId} {args : Array Value} {below : List Frame} {meth : Method} {c : Code} {T : State} {locs : List Loc} {cells slots : Nat}
theorem retI (X : Stand p l e R s m args below meth c T locs cells slots) (hx : p.tables.exec = Jvm.exec) {pc : Nat} {Ls : Array Slot} {z : Int32} {rest : List Value} (hret : meth.sig.returnType = some .int) (hd : decode c.code pc = .ok (.ireturn, 1)) {fs : List Frame}
    (hl : ∀ (f : JFrame) (acts : List Action), f.method = m → f.locked = none → f.entered = [] → (doReturn e (T.setTop f) acts (some (.int z))).1 = T.setFrames fs) : Steps p.tables e below (T.setTop (mkF m pc Ls (.int z :: rest))) (T.setFrames fs) := by
  have hm' : T.vm.method? m = some meth := X.method'
  have hn : narrow .int (.int z) = .int z := rfl
  show Steps p.tables e below (T.setTop { method := m, pc := pc, locals := Ls, stack := _ :: rest, locked := none }) _
  jvm_step X.here [X.here.top, hx, hd, hm', hret, hn]
  first | (intro acts; rw [hl _ acts rfl rfl rfl]) | rw [hl _ _ rfl rfl rfl]
  exact Steps.refl _
end New
end Jvm.RoadKit
namespace Jvm.Pilot.@@N@@
open Jvm Jvm.ClassFile Sem Op Lib Jvm.Free Jvm.Stand Jvm.LawKit Jvm.RoadKit Bundle Jvm.Pilot.@@N@@.Jvm.D

def own_isp (c : Int32) : Int32 := if c = 32 then 1 else if c = 9 then 1 else if c = 10 then 1 else if c = 13 then 1 else if c = 12 then 1 else if c = 11 then 1 else 0
def own_ref (c : Int32) : Int32 := if c = 32 then 1 else if c < 9 then 0 else if 13 < c then 0 else 1
theorem own_eq (c : Int32) : own_isp c = own_ref c := by
  simp only [own_isp, own_ref, Int32.lt_iff_toInt_lt, ← Int32.toInt_inj, Int32.reduceToInt]
  split
  · rfl
  · have h1 : (1 : Int32).toInt = 1 := by decide
    have h0 : (0 : Int32).toInt = 0 := by decide
    repeat' split
    all_goals first | rfl | omega

theorem d1_0 : decode prog_63_method_23_code 0 = .ok (.iload_n 0, 1) := by decide +kernel
theorem d1_1 : decode prog_63_method_23_code 1 = .ok (.bipush 32, 2) := by decide +kernel
theorem d1_3 : decode prog_63_method_23_code 3 = .ok (.if_icmp .eq 33, 3) := by decide +kernel
theorem d1_36 : decode prog_63_method_23_code 36 = .ok (.iconst 1, 1) := by decide +kernel
theorem d1_37 : decode prog_63_method_23_code 37 = .ok (.goto 4, 3) := by decide +kernel
theorem d1_41 : decode prog_63_method_23_code 41 = .ok (.ireturn, 1) := by decide +kernel
theorem d1_6 : decode prog_63_method_23_code 6 = .ok (.iload_n 0, 1) := by decide +kernel
theorem d1_7 : decode prog_63_method_23_code 7 = .ok (.bipush 9, 2) := by decide +kernel
theorem d1_9 : decode prog_63_method_23_code 9 = .ok (.if_icmp .eq 27, 3) := by decide +kernel
theorem d1_12 : decode prog_63_method_23_code 12 = .ok (.iload_n 0, 1) := by decide +kernel
theorem d1_13 : decode prog_63_method_23_code 13 = .ok (.bipush 10, 2) := by decide +kernel
theorem d1_15 : decode prog_63_method_23_code 15 = .ok (.if_icmp .eq 21, 3) := by decide +kernel
theorem d1_18 : decode prog_63_method_23_code 18 = .ok (.iload_n 0, 1) := by decide +kernel
theorem d1_19 : decode prog_63_method_23_code 19 = .ok (.bipush 13, 2) := by decide +kernel
theorem d1_21 : decode prog_63_method_23_code 21 = .ok (.if_icmp .eq 15, 3) := by decide +kernel
theorem d1_24 : decode prog_63_method_23_code 24 = .ok (.iload_n 0, 1) := by decide +kernel
theorem d1_25 : decode prog_63_method_23_code 25 = .ok (.bipush 12, 2) := by decide +kernel
theorem d1_27 : decode prog_63_method_23_code 27 = .ok (.if_icmp .eq 9, 3) := by decide +kernel
theorem d1_30 : decode prog_63_method_23_code 30 = .ok (.iload_n 0, 1) := by decide +kernel
theorem d1_31 : decode prog_63_method_23_code 31 = .ok (.bipush 11, 2) := by decide +kernel
theorem d1_33 : decode prog_63_method_23_code 33 = .ok (.if_icmp .ne 7, 3) := by decide +kernel
theorem d1_40 : decode prog_63_method_23_code 40 = .ok (.iconst 0, 1) := by decide +kernel
theorem pn_com_example_alterlint_alterlint_Lexer : plainName "com/example/alterlint/alterlint/Lexer" = true := by first | (simp [plainName, overriddenIn]; done) | decide +kernel
theorem ef_1 (m : MethodId) (xc : Int32) : entryFrame m #[(.int xc)] 1 = mkF m 0 #[.val (.int xc)] [] := by first | (simp [entryFrame, mkF, argsToLocals, Value.category]; done) | rfl
def Q1 (Z : State) (xc : Int32) (h0 : Heap) (n0 : Nat) (v : Option Value) (h : Heap) (L : List Loc) : Prop := v = some (.int (own_isp xc)) ∧ Fr n0 L ∧ h = h0
set_option maxRecDepth 65536 in
set_option maxHeartbeats 40000000 in
theorem rm1 (l : Launch) (Z : State) (a0 : Array Value) (hw : ∀ d ∈ tables_1, d.before a0 Z = true) (ws : List Jvm.Cond) (xc : Int32) (h0 : Heap) (n0 : Nat) (Z0 : n0 ≤ h0.size) :
    MetFree l (⟨"com/example/alterlint/alterlint/Lexer", "isSpace", "(C)Z"⟩ : MethodName) (head1 (Jvm.Cond.code (⟨"com/example/alterlint/alterlint/Lexer", "isSpace", "(C)Z"⟩ : MethodName) prog_63_method_23_code 1 (some .boolean) :: ws) ({ frames := 0, cells := 0, slots := 0, locals := 0 } : Room)) (fun a U => a = #[(.int xc)] ∧ Z.Warmed39 U.vm ∧ U.heap = h0) (fun _ _ _ _ _ => True) (fun _ U o U' => ∃ v L, o = .returned v ∧ Q1 Z xc h0 n0 v U'.heap L ∧ FrameEnd U o U' L ({ frames := 0, cells := 0, slots := 0, locals := 0 } : Room).cells ({ frames := 0, cells := 0, slots := 0, locals := 0 } : Room).slots) := by
  refine MetFree.of_bodySF (plainFor_of_name pn_com_example_alterlint_alterlint_Lexer) hisR ?_
  intro p e s m args below meth c s₁ Bd hml0 hP hK
  obtain ⟨rfl, hZ, hh⟩ := hP
  have hx := Bd.exec
  have hby := Bd.bytes
  have hml : c.maxLocals = 1 := hml0
  have hown : s.vm.findClass "com/example/alterlint/alterlint/Lexer" = some m.cls := findClass_of_methodNamed Bd.named
  have hnm := (name_of_methodNamed Bd.named Bd.method).1
  have X0 : Stand p l e ({ frames := 0, cells := 0, slots := 0, locals := 0 } : Room) s m #[(.int xc)] below meth c s₁ [] 0 0 := Stand.of_body Bd
  have e0 : s₁.heap = h0 := by rw [← hh, Bd.state]; rfl
  have N0 := Fr.nil n0
  have pre0 : ∀ t, Steps p.tables e below (s₁.setTop (mkF m 0 #[.val (.int xc)] [])) t → Steps p.tables e below (s₁.setTop (entryFrame m #[(.int xc)] 1)) t := fun t k => castTop (ef_1 m xc) k
  by_cases hc1 : xc = (32 : Int32)
  · obtain ⟨fs, hr, hrun, hended, hW, hsame⟩ := X0.leave (v := some (.int (1 : Int32))) (fun h => by rw [Bd.returns] at h; cases h)
    refine ⟨_, _, pre0 _ ?_, hrun, hended, _, _, rfl, ?_, ⟨_, rfl⟩, hW, hsame.mono (by decide) (by decide)⟩
    · show Steps p.tables e below (s₁.setTop (mkF m 0 #[.val (.int xc)] [])) _
      refine XS.iloadN X0.here hx rfl (hb hby d1_0) rfl ?_
      show Steps p.tables e below (s₁.setTop (mkF m 1 #[.val (.int xc)] [(.int xc)])) _
      refine XS.bipush X0.here hx rfl (hb hby d1_1) ?_
      show Steps p.tables e below (s₁.setTop (mkF m 3 #[.val (.int xc)] [(.int (32 : Int32)), (.int xc)])) _
      refine XS.icmpYes X0.here hx rfl (pc0 := 3) (pc' := 36) rfl (hb hby d1_3) rfl (teq hc1).1 (by decide) (by decide) ?_
      show Steps p.tables e below (s₁.setTop (mkF m 36 #[.val (.int xc)] [])) _
      refine XS.iconst X0.here hx rfl (hb hby d1_36) ?_
      show Steps p.tables e below (s₁.setTop (mkF m 37 #[.val (.int xc)] [(.int (1 : Int32))])) _
      refine XS.goto X0.here hx rfl (pc0 := 37) (pc' := 41) rfl (hb hby d1_37) (by decide) (by decide) ?_
      show Steps p.tables e below (s₁.setTop (mkF m 41 #[.val (.int xc)] [(.int (1 : Int32))])) _
      exact retN X0 hx (t := .boolean) Bd.returns (by simp) (hb hby d1_41) hr
    · show Q1 Z xc h0 n0 _ s₁.heap _
      rw [e0]
      exact ⟨(congrArg some (congrArg Value.int (by simp [own_isp, hc1]))), N0, rfl⟩
  · by_cases hc2 : xc = (9 : Int32)
    · obtain ⟨fs, hr, hrun, hended, hW, hsame⟩ := X0.leave (v := some (.int (1 : Int32))) (fun h => by rw [Bd.returns] at h; cases h)
      refine ⟨_, _, pre0 _ ?_, hrun, hended, _, _, rfl, ?_, ⟨_, rfl⟩, hW, hsame.mono (by decide) (by decide)⟩
      · show Steps p.tables e below (s₁.setTop (mkF m 0 #[.val (.int xc)] [])) _
        refine XS.iloadN X0.here hx rfl (hb hby d1_0) rfl ?_
        show Steps p.tables e below (s₁.setTop (mkF m 1 #[.val (.int xc)] [(.int xc)])) _
        refine XS.bipush X0.here hx rfl (hb hby d1_1) ?_
        show Steps p.tables e below (s₁.setTop (mkF m 3 #[.val (.int xc)] [(.int (32 : Int32)), (.int xc)])) _
        refine XS.icmpNo X0.here hx rfl (hb hby d1_3) rfl (feq hc1).1 ?_
        show Steps p.tables e below (s₁.setTop (mkF m 6 #[.val (.int xc)] [])) _
        refine XS.iloadN X0.here hx rfl (hb hby d1_6) rfl ?_
        show Steps p.tables e below (s₁.setTop (mkF m 7 #[.val (.int xc)] [(.int xc)])) _
        refine XS.bipush X0.here hx rfl (hb hby d1_7) ?_
        show Steps p.tables e below (s₁.setTop (mkF m 9 #[.val (.int xc)] [(.int (9 : Int32)), (.int xc)])) _
        refine XS.icmpYes X0.here hx rfl (pc0 := 9) (pc' := 36) rfl (hb hby d1_9) rfl (teq hc2).1 (by decide) (by decide) ?_
        show Steps p.tables e below (s₁.setTop (mkF m 36 #[.val (.int xc)] [])) _
        refine XS.iconst X0.here hx rfl (hb hby d1_36) ?_
        show Steps p.tables e below (s₁.setTop (mkF m 37 #[.val (.int xc)] [(.int (1 : Int32))])) _
        refine XS.goto X0.here hx rfl (pc0 := 37) (pc' := 41) rfl (hb hby d1_37) (by decide) (by decide) ?_
        show Steps p.tables e below (s₁.setTop (mkF m 41 #[.val (.int xc)] [(.int (1 : Int32))])) _
        exact retN X0 hx (t := .boolean) Bd.returns (by simp) (hb hby d1_41) hr
      · show Q1 Z xc h0 n0 _ s₁.heap _
        rw [e0]
        exact ⟨(congrArg some (congrArg Value.int (by simp [own_isp, hc1, hc2]))), N0, rfl⟩
    · by_cases hc3 : xc = (10 : Int32)
      · obtain ⟨fs, hr, hrun, hended, hW, hsame⟩ := X0.leave (v := some (.int (1 : Int32))) (fun h => by rw [Bd.returns] at h; cases h)
        refine ⟨_, _, pre0 _ ?_, hrun, hended, _, _, rfl, ?_, ⟨_, rfl⟩, hW, hsame.mono (by decide) (by decide)⟩
        · show Steps p.tables e below (s₁.setTop (mkF m 0 #[.val (.int xc)] [])) _
          refine XS.iloadN X0.here hx rfl (hb hby d1_0) rfl ?_
          show Steps p.tables e below (s₁.setTop (mkF m 1 #[.val (.int xc)] [(.int xc)])) _
          refine XS.bipush X0.here hx rfl (hb hby d1_1) ?_
          show Steps p.tables e below (s₁.setTop (mkF m 3 #[.val (.int xc)] [(.int (32 : Int32)), (.int xc)])) _
          refine XS.icmpNo X0.here hx rfl (hb hby d1_3) rfl (feq hc1).1 ?_
          show Steps p.tables e below (s₁.setTop (mkF m 6 #[.val (.int xc)] [])) _
          refine XS.iloadN X0.here hx rfl (hb hby d1_6) rfl ?_
          show Steps p.tables e below (s₁.setTop (mkF m 7 #[.val (.int xc)] [(.int xc)])) _
          refine XS.bipush X0.here hx rfl (hb hby d1_7) ?_
          show Steps p.tables e below (s₁.setTop (mkF m 9 #[.val (.int xc)] [(.int (9 : Int32)), (.int xc)])) _
          refine XS.icmpNo X0.here hx rfl (hb hby d1_9) rfl (feq hc2).1 ?_
          show Steps p.tables e below (s₁.setTop (mkF m 12 #[.val (.int xc)] [])) _
          refine XS.iloadN X0.here hx rfl (hb hby d1_12) rfl ?_
          show Steps p.tables e below (s₁.setTop (mkF m 13 #[.val (.int xc)] [(.int xc)])) _
          refine XS.bipush X0.here hx rfl (hb hby d1_13) ?_
          show Steps p.tables e below (s₁.setTop (mkF m 15 #[.val (.int xc)] [(.int (10 : Int32)), (.int xc)])) _
          refine XS.icmpYes X0.here hx rfl (pc0 := 15) (pc' := 36) rfl (hb hby d1_15) rfl (teq hc3).1 (by decide) (by decide) ?_
          show Steps p.tables e below (s₁.setTop (mkF m 36 #[.val (.int xc)] [])) _
          refine XS.iconst X0.here hx rfl (hb hby d1_36) ?_
          show Steps p.tables e below (s₁.setTop (mkF m 37 #[.val (.int xc)] [(.int (1 : Int32))])) _
          refine XS.goto X0.here hx rfl (pc0 := 37) (pc' := 41) rfl (hb hby d1_37) (by decide) (by decide) ?_
          show Steps p.tables e below (s₁.setTop (mkF m 41 #[.val (.int xc)] [(.int (1 : Int32))])) _
          exact retN X0 hx (t := .boolean) Bd.returns (by simp) (hb hby d1_41) hr
        · show Q1 Z xc h0 n0 _ s₁.heap _
          rw [e0]
          exact ⟨(congrArg some (congrArg Value.int (by simp [own_isp, hc1, hc2, hc3]))), N0, rfl⟩
      · by_cases hc4 : xc = (13 : Int32)
        · obtain ⟨fs, hr, hrun, hended, hW, hsame⟩ := X0.leave (v := some (.int (1 : Int32))) (fun h => by rw [Bd.returns] at h; cases h)
          refine ⟨_, _, pre0 _ ?_, hrun, hended, _, _, rfl, ?_, ⟨_, rfl⟩, hW, hsame.mono (by decide) (by decide)⟩
          · show Steps p.tables e below (s₁.setTop (mkF m 0 #[.val (.int xc)] [])) _
            refine XS.iloadN X0.here hx rfl (hb hby d1_0) rfl ?_
            show Steps p.tables e below (s₁.setTop (mkF m 1 #[.val (.int xc)] [(.int xc)])) _
            refine XS.bipush X0.here hx rfl (hb hby d1_1) ?_
            show Steps p.tables e below (s₁.setTop (mkF m 3 #[.val (.int xc)] [(.int (32 : Int32)), (.int xc)])) _
            refine XS.icmpNo X0.here hx rfl (hb hby d1_3) rfl (feq hc1).1 ?_
            show Steps p.tables e below (s₁.setTop (mkF m 6 #[.val (.int xc)] [])) _
            refine XS.iloadN X0.here hx rfl (hb hby d1_6) rfl ?_
            show Steps p.tables e below (s₁.setTop (mkF m 7 #[.val (.int xc)] [(.int xc)])) _
            refine XS.bipush X0.here hx rfl (hb hby d1_7) ?_
            show Steps p.tables e below (s₁.setTop (mkF m 9 #[.val (.int xc)] [(.int (9 : Int32)), (.int xc)])) _
            refine XS.icmpNo X0.here hx rfl (hb hby d1_9) rfl (feq hc2).1 ?_
            show Steps p.tables e below (s₁.setTop (mkF m 12 #[.val (.int xc)] [])) _
            refine XS.iloadN X0.here hx rfl (hb hby d1_12) rfl ?_
            show Steps p.tables e below (s₁.setTop (mkF m 13 #[.val (.int xc)] [(.int xc)])) _
            refine XS.bipush X0.here hx rfl (hb hby d1_13) ?_
            show Steps p.tables e below (s₁.setTop (mkF m 15 #[.val (.int xc)] [(.int (10 : Int32)), (.int xc)])) _
            refine XS.icmpNo X0.here hx rfl (hb hby d1_15) rfl (feq hc3).1 ?_
            show Steps p.tables e below (s₁.setTop (mkF m 18 #[.val (.int xc)] [])) _
            refine XS.iloadN X0.here hx rfl (hb hby d1_18) rfl ?_
            show Steps p.tables e below (s₁.setTop (mkF m 19 #[.val (.int xc)] [(.int xc)])) _
            refine XS.bipush X0.here hx rfl (hb hby d1_19) ?_
            show Steps p.tables e below (s₁.setTop (mkF m 21 #[.val (.int xc)] [(.int (13 : Int32)), (.int xc)])) _
            refine XS.icmpYes X0.here hx rfl (pc0 := 21) (pc' := 36) rfl (hb hby d1_21) rfl (teq hc4).1 (by decide) (by decide) ?_
            show Steps p.tables e below (s₁.setTop (mkF m 36 #[.val (.int xc)] [])) _
            refine XS.iconst X0.here hx rfl (hb hby d1_36) ?_
            show Steps p.tables e below (s₁.setTop (mkF m 37 #[.val (.int xc)] [(.int (1 : Int32))])) _
            refine XS.goto X0.here hx rfl (pc0 := 37) (pc' := 41) rfl (hb hby d1_37) (by decide) (by decide) ?_
            show Steps p.tables e below (s₁.setTop (mkF m 41 #[.val (.int xc)] [(.int (1 : Int32))])) _
            exact retN X0 hx (t := .boolean) Bd.returns (by simp) (hb hby d1_41) hr
          · show Q1 Z xc h0 n0 _ s₁.heap _
            rw [e0]
            exact ⟨(congrArg some (congrArg Value.int (by simp [own_isp, hc1, hc2, hc3, hc4]))), N0, rfl⟩
        · by_cases hc5 : xc = (12 : Int32)
          · obtain ⟨fs, hr, hrun, hended, hW, hsame⟩ := X0.leave (v := some (.int (1 : Int32))) (fun h => by rw [Bd.returns] at h; cases h)
            refine ⟨_, _, pre0 _ ?_, hrun, hended, _, _, rfl, ?_, ⟨_, rfl⟩, hW, hsame.mono (by decide) (by decide)⟩
            · show Steps p.tables e below (s₁.setTop (mkF m 0 #[.val (.int xc)] [])) _
              refine XS.iloadN X0.here hx rfl (hb hby d1_0) rfl ?_
              show Steps p.tables e below (s₁.setTop (mkF m 1 #[.val (.int xc)] [(.int xc)])) _
              refine XS.bipush X0.here hx rfl (hb hby d1_1) ?_
              show Steps p.tables e below (s₁.setTop (mkF m 3 #[.val (.int xc)] [(.int (32 : Int32)), (.int xc)])) _
              refine XS.icmpNo X0.here hx rfl (hb hby d1_3) rfl (feq hc1).1 ?_
              show Steps p.tables e below (s₁.setTop (mkF m 6 #[.val (.int xc)] [])) _
              refine XS.iloadN X0.here hx rfl (hb hby d1_6) rfl ?_
              show Steps p.tables e below (s₁.setTop (mkF m 7 #[.val (.int xc)] [(.int xc)])) _
              refine XS.bipush X0.here hx rfl (hb hby d1_7) ?_
              show Steps p.tables e below (s₁.setTop (mkF m 9 #[.val (.int xc)] [(.int (9 : Int32)), (.int xc)])) _
              refine XS.icmpNo X0.here hx rfl (hb hby d1_9) rfl (feq hc2).1 ?_
              show Steps p.tables e below (s₁.setTop (mkF m 12 #[.val (.int xc)] [])) _
              refine XS.iloadN X0.here hx rfl (hb hby d1_12) rfl ?_
              show Steps p.tables e below (s₁.setTop (mkF m 13 #[.val (.int xc)] [(.int xc)])) _
              refine XS.bipush X0.here hx rfl (hb hby d1_13) ?_
              show Steps p.tables e below (s₁.setTop (mkF m 15 #[.val (.int xc)] [(.int (10 : Int32)), (.int xc)])) _
              refine XS.icmpNo X0.here hx rfl (hb hby d1_15) rfl (feq hc3).1 ?_
              show Steps p.tables e below (s₁.setTop (mkF m 18 #[.val (.int xc)] [])) _
              refine XS.iloadN X0.here hx rfl (hb hby d1_18) rfl ?_
              show Steps p.tables e below (s₁.setTop (mkF m 19 #[.val (.int xc)] [(.int xc)])) _
              refine XS.bipush X0.here hx rfl (hb hby d1_19) ?_
              show Steps p.tables e below (s₁.setTop (mkF m 21 #[.val (.int xc)] [(.int (13 : Int32)), (.int xc)])) _
              refine XS.icmpNo X0.here hx rfl (hb hby d1_21) rfl (feq hc4).1 ?_
              show Steps p.tables e below (s₁.setTop (mkF m 24 #[.val (.int xc)] [])) _
              refine XS.iloadN X0.here hx rfl (hb hby d1_24) rfl ?_
              show Steps p.tables e below (s₁.setTop (mkF m 25 #[.val (.int xc)] [(.int xc)])) _
              refine XS.bipush X0.here hx rfl (hb hby d1_25) ?_
              show Steps p.tables e below (s₁.setTop (mkF m 27 #[.val (.int xc)] [(.int (12 : Int32)), (.int xc)])) _
              refine XS.icmpYes X0.here hx rfl (pc0 := 27) (pc' := 36) rfl (hb hby d1_27) rfl (teq hc5).1 (by decide) (by decide) ?_
              show Steps p.tables e below (s₁.setTop (mkF m 36 #[.val (.int xc)] [])) _
              refine XS.iconst X0.here hx rfl (hb hby d1_36) ?_
              show Steps p.tables e below (s₁.setTop (mkF m 37 #[.val (.int xc)] [(.int (1 : Int32))])) _
              refine XS.goto X0.here hx rfl (pc0 := 37) (pc' := 41) rfl (hb hby d1_37) (by decide) (by decide) ?_
              show Steps p.tables e below (s₁.setTop (mkF m 41 #[.val (.int xc)] [(.int (1 : Int32))])) _
              exact retN X0 hx (t := .boolean) Bd.returns (by simp) (hb hby d1_41) hr
            · show Q1 Z xc h0 n0 _ s₁.heap _
              rw [e0]
              exact ⟨(congrArg some (congrArg Value.int (by simp [own_isp, hc1, hc2, hc3, hc4, hc5]))), N0, rfl⟩
          · by_cases hc6 : xc = (11 : Int32)
            · obtain ⟨fs, hr, hrun, hended, hW, hsame⟩ := X0.leave (v := some (.int (1 : Int32))) (fun h => by rw [Bd.returns] at h; cases h)
              refine ⟨_, _, pre0 _ ?_, hrun, hended, _, _, rfl, ?_, ⟨_, rfl⟩, hW, hsame.mono (by decide) (by decide)⟩
              · show Steps p.tables e below (s₁.setTop (mkF m 0 #[.val (.int xc)] [])) _
                refine XS.iloadN X0.here hx rfl (hb hby d1_0) rfl ?_
                show Steps p.tables e below (s₁.setTop (mkF m 1 #[.val (.int xc)] [(.int xc)])) _
                refine XS.bipush X0.here hx rfl (hb hby d1_1) ?_
                show Steps p.tables e below (s₁.setTop (mkF m 3 #[.val (.int xc)] [(.int (32 : Int32)), (.int xc)])) _
                refine XS.icmpNo X0.here hx rfl (hb hby d1_3) rfl (feq hc1).1 ?_
                show Steps p.tables e below (s₁.setTop (mkF m 6 #[.val (.int xc)] [])) _
                refine XS.iloadN X0.here hx rfl (hb hby d1_6) rfl ?_
                show Steps p.tables e below (s₁.setTop (mkF m 7 #[.val (.int xc)] [(.int xc)])) _
                refine XS.bipush X0.here hx rfl (hb hby d1_7) ?_
                show Steps p.tables e below (s₁.setTop (mkF m 9 #[.val (.int xc)] [(.int (9 : Int32)), (.int xc)])) _
                refine XS.icmpNo X0.here hx rfl (hb hby d1_9) rfl (feq hc2).1 ?_
                show Steps p.tables e below (s₁.setTop (mkF m 12 #[.val (.int xc)] [])) _
                refine XS.iloadN X0.here hx rfl (hb hby d1_12) rfl ?_
                show Steps p.tables e below (s₁.setTop (mkF m 13 #[.val (.int xc)] [(.int xc)])) _
                refine XS.bipush X0.here hx rfl (hb hby d1_13) ?_
                show Steps p.tables e below (s₁.setTop (mkF m 15 #[.val (.int xc)] [(.int (10 : Int32)), (.int xc)])) _
                refine XS.icmpNo X0.here hx rfl (hb hby d1_15) rfl (feq hc3).1 ?_
                show Steps p.tables e below (s₁.setTop (mkF m 18 #[.val (.int xc)] [])) _
                refine XS.iloadN X0.here hx rfl (hb hby d1_18) rfl ?_
                show Steps p.tables e below (s₁.setTop (mkF m 19 #[.val (.int xc)] [(.int xc)])) _
                refine XS.bipush X0.here hx rfl (hb hby d1_19) ?_
                show Steps p.tables e below (s₁.setTop (mkF m 21 #[.val (.int xc)] [(.int (13 : Int32)), (.int xc)])) _
                refine XS.icmpNo X0.here hx rfl (hb hby d1_21) rfl (feq hc4).1 ?_
                show Steps p.tables e below (s₁.setTop (mkF m 24 #[.val (.int xc)] [])) _
                refine XS.iloadN X0.here hx rfl (hb hby d1_24) rfl ?_
                show Steps p.tables e below (s₁.setTop (mkF m 25 #[.val (.int xc)] [(.int xc)])) _
                refine XS.bipush X0.here hx rfl (hb hby d1_25) ?_
                show Steps p.tables e below (s₁.setTop (mkF m 27 #[.val (.int xc)] [(.int (12 : Int32)), (.int xc)])) _
                refine XS.icmpNo X0.here hx rfl (hb hby d1_27) rfl (feq hc5).1 ?_
                show Steps p.tables e below (s₁.setTop (mkF m 30 #[.val (.int xc)] [])) _
                refine XS.iloadN X0.here hx rfl (hb hby d1_30) rfl ?_
                show Steps p.tables e below (s₁.setTop (mkF m 31 #[.val (.int xc)] [(.int xc)])) _
                refine XS.bipush X0.here hx rfl (hb hby d1_31) ?_
                show Steps p.tables e below (s₁.setTop (mkF m 33 #[.val (.int xc)] [(.int (11 : Int32)), (.int xc)])) _
                refine XS.icmpNo X0.here hx rfl (hb hby d1_33) rfl (teq hc6).2 ?_
                show Steps p.tables e below (s₁.setTop (mkF m 36 #[.val (.int xc)] [])) _
                refine XS.iconst X0.here hx rfl (hb hby d1_36) ?_
                show Steps p.tables e below (s₁.setTop (mkF m 37 #[.val (.int xc)] [(.int (1 : Int32))])) _
                refine XS.goto X0.here hx rfl (pc0 := 37) (pc' := 41) rfl (hb hby d1_37) (by decide) (by decide) ?_
                show Steps p.tables e below (s₁.setTop (mkF m 41 #[.val (.int xc)] [(.int (1 : Int32))])) _
                exact retN X0 hx (t := .boolean) Bd.returns (by simp) (hb hby d1_41) hr
              · show Q1 Z xc h0 n0 _ s₁.heap _
                rw [e0]
                exact ⟨(congrArg some (congrArg Value.int (by simp [own_isp, hc1, hc2, hc3, hc4, hc5, hc6]))), N0, rfl⟩
            · obtain ⟨fs, hr, hrun, hended, hW, hsame⟩ := X0.leave (v := some (.int (0 : Int32))) (fun h => by rw [Bd.returns] at h; cases h)
              refine ⟨_, _, pre0 _ ?_, hrun, hended, _, _, rfl, ?_, ⟨_, rfl⟩, hW, hsame.mono (by decide) (by decide)⟩
              · show Steps p.tables e below (s₁.setTop (mkF m 0 #[.val (.int xc)] [])) _
                refine XS.iloadN X0.here hx rfl (hb hby d1_0) rfl ?_
                show Steps p.tables e below (s₁.setTop (mkF m 1 #[.val (.int xc)] [(.int xc)])) _
                refine XS.bipush X0.here hx rfl (hb hby d1_1) ?_
                show Steps p.tables e below (s₁.setTop (mkF m 3 #[.val (.int xc)] [(.int (32 : Int32)), (.int xc)])) _
                refine XS.icmpNo X0.here hx rfl (hb hby d1_3) rfl (feq hc1).1 ?_
                show Steps p.tables e below (s₁.setTop (mkF m 6 #[.val (.int xc)] [])) _
                refine XS.iloadN X0.here hx rfl (hb hby d1_6) rfl ?_
                show Steps p.tables e below (s₁.setTop (mkF m 7 #[.val (.int xc)] [(.int xc)])) _
                refine XS.bipush X0.here hx rfl (hb hby d1_7) ?_
                show Steps p.tables e below (s₁.setTop (mkF m 9 #[.val (.int xc)] [(.int (9 : Int32)), (.int xc)])) _
                refine XS.icmpNo X0.here hx rfl (hb hby d1_9) rfl (feq hc2).1 ?_
                show Steps p.tables e below (s₁.setTop (mkF m 12 #[.val (.int xc)] [])) _
                refine XS.iloadN X0.here hx rfl (hb hby d1_12) rfl ?_
                show Steps p.tables e below (s₁.setTop (mkF m 13 #[.val (.int xc)] [(.int xc)])) _
                refine XS.bipush X0.here hx rfl (hb hby d1_13) ?_
                show Steps p.tables e below (s₁.setTop (mkF m 15 #[.val (.int xc)] [(.int (10 : Int32)), (.int xc)])) _
                refine XS.icmpNo X0.here hx rfl (hb hby d1_15) rfl (feq hc3).1 ?_
                show Steps p.tables e below (s₁.setTop (mkF m 18 #[.val (.int xc)] [])) _
                refine XS.iloadN X0.here hx rfl (hb hby d1_18) rfl ?_
                show Steps p.tables e below (s₁.setTop (mkF m 19 #[.val (.int xc)] [(.int xc)])) _
                refine XS.bipush X0.here hx rfl (hb hby d1_19) ?_
                show Steps p.tables e below (s₁.setTop (mkF m 21 #[.val (.int xc)] [(.int (13 : Int32)), (.int xc)])) _
                refine XS.icmpNo X0.here hx rfl (hb hby d1_21) rfl (feq hc4).1 ?_
                show Steps p.tables e below (s₁.setTop (mkF m 24 #[.val (.int xc)] [])) _
                refine XS.iloadN X0.here hx rfl (hb hby d1_24) rfl ?_
                show Steps p.tables e below (s₁.setTop (mkF m 25 #[.val (.int xc)] [(.int xc)])) _
                refine XS.bipush X0.here hx rfl (hb hby d1_25) ?_
                show Steps p.tables e below (s₁.setTop (mkF m 27 #[.val (.int xc)] [(.int (12 : Int32)), (.int xc)])) _
                refine XS.icmpNo X0.here hx rfl (hb hby d1_27) rfl (feq hc5).1 ?_
                show Steps p.tables e below (s₁.setTop (mkF m 30 #[.val (.int xc)] [])) _
                refine XS.iloadN X0.here hx rfl (hb hby d1_30) rfl ?_
                show Steps p.tables e below (s₁.setTop (mkF m 31 #[.val (.int xc)] [(.int xc)])) _
                refine XS.bipush X0.here hx rfl (hb hby d1_31) ?_
                show Steps p.tables e below (s₁.setTop (mkF m 33 #[.val (.int xc)] [(.int (11 : Int32)), (.int xc)])) _
                refine XS.icmpYes X0.here hx rfl (pc0 := 33) (pc' := 40) rfl (hb hby d1_33) rfl (feq hc6).2 (by decide) (by decide) ?_
                show Steps p.tables e below (s₁.setTop (mkF m 40 #[.val (.int xc)] [])) _
                refine XS.iconst X0.here hx rfl (hb hby d1_40) ?_
                show Steps p.tables e below (s₁.setTop (mkF m 41 #[.val (.int xc)] [(.int (0 : Int32))])) _
                exact retN X0 hx (t := .boolean) Bd.returns (by simp) (hb hby d1_41) hr
              · show Q1 Z xc h0 n0 _ s₁.heap _
                rw [e0]
                exact ⟨(congrArg some (congrArg Value.int (by simp [own_isp, hc1, hc2, hc3, hc4, hc5, hc6]))), N0, rfl⟩

theorem d2_0 : decode method_2_code 0 = .ok (.iload_n 0, 1) := by decide +kernel
theorem d2_1 : decode method_2_code 1 = .ok (.istore_n 1, 1) := by decide +kernel
theorem d2_2 : decode method_2_code 2 = .ok (.iload_n 1, 1) := by decide +kernel
theorem d2_3 : decode method_2_code 3 = .ok (.bipush 32, 2) := by decide +kernel
theorem d2_5 : decode method_2_code 5 = .ok (.if_icmp .eq 15, 3) := by decide +kernel
theorem d2_20 : decode method_2_code 20 = .ok (.iconst 1, 1) := by decide +kernel
theorem d2_21 : decode method_2_code 21 = .ok (.goto 4, 3) := by decide +kernel
theorem d2_25 : decode method_2_code 25 = .ok (.ireturn, 1) := by decide +kernel
theorem d2_8 : decode method_2_code 8 = .ok (.iload_n 1, 1) := by decide +kernel
theorem d2_9 : decode method_2_code 9 = .ok (.bipush 9, 2) := by decide +kernel
theorem d2_11 : decode method_2_code 11 = .ok (.if_icmp .lt 13, 3) := by decide +kernel
theorem d2_24 : decode method_2_code 24 = .ok (.iconst 0, 1) := by decide +kernel
theorem d2_14 : decode method_2_code 14 = .ok (.iload_n 1, 1) := by decide +kernel
theorem d2_15 : decode method_2_code 15 = .ok (.bipush 13, 2) := by decide +kernel
theorem d2_17 : decode method_2_code 17 = .ok (.if_icmp .gt 7, 3) := by decide +kernel
theorem pn_com_example_alterlint_alterlint_LexerIsSpacePinLaw : plainName "com/example/alterlint/alterlint/LexerIsSpacePinLaw" = true := by first | (simp [plainName, overriddenIn]; done) | decide +kernel
theorem ef_2 (m : MethodId) (xc : Int32) : entryFrame m #[(.int xc)] 2 = mkF m 0 #[.val (.int xc), .unset] [] := by first | (simp [entryFrame, mkF, argsToLocals, Value.category]; done) | rfl
def Q2 (Z : State) (xc : Int32) (h0 : Heap) (n0 : Nat) (v : Option Value) (h : Heap) (L : List Loc) : Prop := v = some (.int (own_ref xc)) ∧ Fr n0 L ∧ h = h0
set_option maxRecDepth 65536 in
set_option maxHeartbeats 40000000 in
theorem rm2 (l : Launch) (Z : State) (a0 : Array Value) (hw : ∀ d ∈ tables_1, d.before a0 Z = true) (ws : List Jvm.Cond) (xc : Int32) (h0 : Heap) (n0 : Nat) (Z0 : n0 ≤ h0.size) :
    MetFree l (⟨"com/example/alterlint/alterlint/LexerIsSpacePinLaw", "reference", "(C)Z"⟩ : MethodName) (head1 (Jvm.Cond.code (⟨"com/example/alterlint/alterlint/LexerIsSpacePinLaw", "reference", "(C)Z"⟩ : MethodName) method_2_code 2 (some .boolean) :: ws) ({ frames := 0, cells := 0, slots := 0, locals := 0 } : Room)) (fun a U => a = #[(.int xc)] ∧ Z.Warmed39 U.vm ∧ U.heap = h0) (fun _ _ _ _ _ => True) (fun _ U o U' => ∃ v L, o = .returned v ∧ Q2 Z xc h0 n0 v U'.heap L ∧ FrameEnd U o U' L ({ frames := 0, cells := 0, slots := 0, locals := 0 } : Room).cells ({ frames := 0, cells := 0, slots := 0, locals := 0 } : Room).slots) := by
  refine MetFree.of_bodySF (plainFor_of_name pn_com_example_alterlint_alterlint_LexerIsSpacePinLaw) hisR ?_
  intro p e s m args below meth c s₁ Bd hml0 hP hK
  obtain ⟨rfl, hZ, hh⟩ := hP
  have hx := Bd.exec
  have hby := Bd.bytes
  have hml : c.maxLocals = 2 := hml0
  have hown : s.vm.findClass "com/example/alterlint/alterlint/LexerIsSpacePinLaw" = some m.cls := findClass_of_methodNamed Bd.named
  have hnm := (name_of_methodNamed Bd.named Bd.method).1
  have X0 : Stand p l e ({ frames := 0, cells := 0, slots := 0, locals := 0 } : Room) s m #[(.int xc)] below meth c s₁ [] 0 0 := Stand.of_body Bd
  have e0 : s₁.heap = h0 := by rw [← hh, Bd.state]; rfl
  have N0 := Fr.nil n0
  have pre0 : ∀ t, Steps p.tables e below (s₁.setTop (mkF m 0 #[.val (.int xc), .unset] [])) t → Steps p.tables e below (s₁.setTop (entryFrame m #[(.int xc)] 2)) t := fun t k => castTop (ef_2 m xc) k
  by_cases hc7 : xc = (32 : Int32)
  · obtain ⟨fs, hr, hrun, hended, hW, hsame⟩ := X0.leave (v := some (.int (1 : Int32))) (fun h => by rw [Bd.returns] at h; cases h)
    refine ⟨_, _, pre0 _ ?_, hrun, hended, _, _, rfl, ?_, ⟨_, rfl⟩, hW, hsame.mono (by decide) (by decide)⟩
    · show Steps p.tables e below (s₁.setTop (mkF m 0 #[.val (.int xc), .unset] [])) _
      refine XS.iloadN X0.here hx rfl (hb hby d2_0) rfl ?_
      show Steps p.tables e below (s₁.setTop (mkF m 1 #[.val (.int xc), .unset] [(.int xc)])) _
      refine XS.istoreN X0.here hx rfl (hb hby d2_1) rfl (l' := #[.val (.int xc), .val (.int xc)]) rfl ?_
      show Steps p.tables e below (s₁.setTop (mkF m 2 #[.val (.int xc), .val (.int xc)] [])) _
      refine XS.iloadN X0.here hx rfl (hb hby d2_2) rfl ?_
      show Steps p.tables e below (s₁.setTop (mkF m 3 #[.val (.int xc), .val (.int xc)] [(.int xc)])) _
      refine XS.bipush X0.here hx rfl (hb hby d2_3) ?_
      show Steps p.tables e below (s₁.setTop (mkF m 5 #[.val (.int xc), .val (.int xc)] [(.int (32 : Int32)), (.int xc)])) _
      refine XS.icmpYes X0.here hx rfl (pc0 := 5) (pc' := 20) rfl (hb hby d2_5) rfl (teq hc7).1 (by decide) (by decide) ?_
      show Steps p.tables e below (s₁.setTop (mkF m 20 #[.val (.int xc), .val (.int xc)] [])) _
      refine XS.iconst X0.here hx rfl (hb hby d2_20) ?_
      show Steps p.tables e below (s₁.setTop (mkF m 21 #[.val (.int xc), .val (.int xc)] [(.int (1 : Int32))])) _
      refine XS.goto X0.here hx rfl (pc0 := 21) (pc' := 25) rfl (hb hby d2_21) (by decide) (by decide) ?_
      show Steps p.tables e below (s₁.setTop (mkF m 25 #[.val (.int xc), .val (.int xc)] [(.int (1 : Int32))])) _
      exact retN X0 hx (t := .boolean) Bd.returns (by simp) (hb hby d2_25) hr
    · show Q2 Z xc h0 n0 _ s₁.heap _
      rw [e0]
      exact ⟨(congrArg some (congrArg Value.int (by simp [own_ref, hc7]))), N0, rfl⟩
  · by_cases hc8 : xc < (9 : Int32)
    · obtain ⟨fs, hr, hrun, hended, hW, hsame⟩ := X0.leave (v := some (.int (0 : Int32))) (fun h => by rw [Bd.returns] at h; cases h)
      refine ⟨_, _, pre0 _ ?_, hrun, hended, _, _, rfl, ?_, ⟨_, rfl⟩, hW, hsame.mono (by decide) (by decide)⟩
      · show Steps p.tables e below (s₁.setTop (mkF m 0 #[.val (.int xc), .unset] [])) _
        refine XS.iloadN X0.here hx rfl (hb hby d2_0) rfl ?_
        show Steps p.tables e below (s₁.setTop (mkF m 1 #[.val (.int xc), .unset] [(.int xc)])) _
        refine XS.istoreN X0.here hx rfl (hb hby d2_1) rfl (l' := #[.val (.int xc), .val (.int xc)]) rfl ?_
        show Steps p.tables e below (s₁.setTop (mkF m 2 #[.val (.int xc), .val (.int xc)] [])) _
        refine XS.iloadN X0.here hx rfl (hb hby d2_2) rfl ?_
        show Steps p.tables e below (s₁.setTop (mkF m 3 #[.val (.int xc), .val (.int xc)] [(.int xc)])) _
        refine XS.bipush X0.here hx rfl (hb hby d2_3) ?_
        show Steps p.tables e below (s₁.setTop (mkF m 5 #[.val (.int xc), .val (.int xc)] [(.int (32 : Int32)), (.int xc)])) _
        refine XS.icmpNo X0.here hx rfl (hb hby d2_5) rfl (feq hc7).1 ?_
        show Steps p.tables e below (s₁.setTop (mkF m 8 #[.val (.int xc), .val (.int xc)] [])) _
        refine XS.iloadN X0.here hx rfl (hb hby d2_8) rfl ?_
        show Steps p.tables e below (s₁.setTop (mkF m 9 #[.val (.int xc), .val (.int xc)] [(.int xc)])) _
        refine XS.bipush X0.here hx rfl (hb hby d2_9) ?_
        show Steps p.tables e below (s₁.setTop (mkF m 11 #[.val (.int xc), .val (.int xc)] [(.int (9 : Int32)), (.int xc)])) _
        refine XS.icmpYes X0.here hx rfl (pc0 := 11) (pc' := 24) rfl (hb hby d2_11) rfl (tlt hc8).1 (by decide) (by decide) ?_
        show Steps p.tables e below (s₁.setTop (mkF m 24 #[.val (.int xc), .val (.int xc)] [])) _
        refine XS.iconst X0.here hx rfl (hb hby d2_24) ?_
        show Steps p.tables e below (s₁.setTop (mkF m 25 #[.val (.int xc), .val (.int xc)] [(.int (0 : Int32))])) _
        exact retN X0 hx (t := .boolean) Bd.returns (by simp) (hb hby d2_25) hr
      · show Q2 Z xc h0 n0 _ s₁.heap _
        rw [e0]
        exact ⟨(congrArg some (congrArg Value.int (by simp [own_ref, hc7, hc8]))), N0, rfl⟩
    · by_cases hc9 : (13 : Int32) < xc
      · obtain ⟨fs, hr, hrun, hended, hW, hsame⟩ := X0.leave (v := some (.int (0 : Int32))) (fun h => by rw [Bd.returns] at h; cases h)
        refine ⟨_, _, pre0 _ ?_, hrun, hended, _, _, rfl, ?_, ⟨_, rfl⟩, hW, hsame.mono (by decide) (by decide)⟩
        · show Steps p.tables e below (s₁.setTop (mkF m 0 #[.val (.int xc), .unset] [])) _
          refine XS.iloadN X0.here hx rfl (hb hby d2_0) rfl ?_
          show Steps p.tables e below (s₁.setTop (mkF m 1 #[.val (.int xc), .unset] [(.int xc)])) _
          refine XS.istoreN X0.here hx rfl (hb hby d2_1) rfl (l' := #[.val (.int xc), .val (.int xc)]) rfl ?_
          show Steps p.tables e below (s₁.setTop (mkF m 2 #[.val (.int xc), .val (.int xc)] [])) _
          refine XS.iloadN X0.here hx rfl (hb hby d2_2) rfl ?_
          show Steps p.tables e below (s₁.setTop (mkF m 3 #[.val (.int xc), .val (.int xc)] [(.int xc)])) _
          refine XS.bipush X0.here hx rfl (hb hby d2_3) ?_
          show Steps p.tables e below (s₁.setTop (mkF m 5 #[.val (.int xc), .val (.int xc)] [(.int (32 : Int32)), (.int xc)])) _
          refine XS.icmpNo X0.here hx rfl (hb hby d2_5) rfl (feq hc7).1 ?_
          show Steps p.tables e below (s₁.setTop (mkF m 8 #[.val (.int xc), .val (.int xc)] [])) _
          refine XS.iloadN X0.here hx rfl (hb hby d2_8) rfl ?_
          show Steps p.tables e below (s₁.setTop (mkF m 9 #[.val (.int xc), .val (.int xc)] [(.int xc)])) _
          refine XS.bipush X0.here hx rfl (hb hby d2_9) ?_
          show Steps p.tables e below (s₁.setTop (mkF m 11 #[.val (.int xc), .val (.int xc)] [(.int (9 : Int32)), (.int xc)])) _
          refine XS.icmpNo X0.here hx rfl (hb hby d2_11) rfl (flt hc8).1 ?_
          show Steps p.tables e below (s₁.setTop (mkF m 14 #[.val (.int xc), .val (.int xc)] [])) _
          refine XS.iloadN X0.here hx rfl (hb hby d2_14) rfl ?_
          show Steps p.tables e below (s₁.setTop (mkF m 15 #[.val (.int xc), .val (.int xc)] [(.int xc)])) _
          refine XS.bipush X0.here hx rfl (hb hby d2_15) ?_
          show Steps p.tables e below (s₁.setTop (mkF m 17 #[.val (.int xc), .val (.int xc)] [(.int (13 : Int32)), (.int xc)])) _
          refine XS.icmpYes X0.here hx rfl (pc0 := 17) (pc' := 24) rfl (hb hby d2_17) rfl (tlt hc9).2.2.1 (by decide) (by decide) ?_
          show Steps p.tables e below (s₁.setTop (mkF m 24 #[.val (.int xc), .val (.int xc)] [])) _
          refine XS.iconst X0.here hx rfl (hb hby d2_24) ?_
          show Steps p.tables e below (s₁.setTop (mkF m 25 #[.val (.int xc), .val (.int xc)] [(.int (0 : Int32))])) _
          exact retN X0 hx (t := .boolean) Bd.returns (by simp) (hb hby d2_25) hr
        · show Q2 Z xc h0 n0 _ s₁.heap _
          rw [e0]
          exact ⟨(congrArg some (congrArg Value.int (by simp [own_ref, hc7, hc8, hc9]))), N0, rfl⟩
      · obtain ⟨fs, hr, hrun, hended, hW, hsame⟩ := X0.leave (v := some (.int (1 : Int32))) (fun h => by rw [Bd.returns] at h; cases h)
        refine ⟨_, _, pre0 _ ?_, hrun, hended, _, _, rfl, ?_, ⟨_, rfl⟩, hW, hsame.mono (by decide) (by decide)⟩
        · show Steps p.tables e below (s₁.setTop (mkF m 0 #[.val (.int xc), .unset] [])) _
          refine XS.iloadN X0.here hx rfl (hb hby d2_0) rfl ?_
          show Steps p.tables e below (s₁.setTop (mkF m 1 #[.val (.int xc), .unset] [(.int xc)])) _
          refine XS.istoreN X0.here hx rfl (hb hby d2_1) rfl (l' := #[.val (.int xc), .val (.int xc)]) rfl ?_
          show Steps p.tables e below (s₁.setTop (mkF m 2 #[.val (.int xc), .val (.int xc)] [])) _
          refine XS.iloadN X0.here hx rfl (hb hby d2_2) rfl ?_
          show Steps p.tables e below (s₁.setTop (mkF m 3 #[.val (.int xc), .val (.int xc)] [(.int xc)])) _
          refine XS.bipush X0.here hx rfl (hb hby d2_3) ?_
          show Steps p.tables e below (s₁.setTop (mkF m 5 #[.val (.int xc), .val (.int xc)] [(.int (32 : Int32)), (.int xc)])) _
          refine XS.icmpNo X0.here hx rfl (hb hby d2_5) rfl (feq hc7).1 ?_
          show Steps p.tables e below (s₁.setTop (mkF m 8 #[.val (.int xc), .val (.int xc)] [])) _
          refine XS.iloadN X0.here hx rfl (hb hby d2_8) rfl ?_
          show Steps p.tables e below (s₁.setTop (mkF m 9 #[.val (.int xc), .val (.int xc)] [(.int xc)])) _
          refine XS.bipush X0.here hx rfl (hb hby d2_9) ?_
          show Steps p.tables e below (s₁.setTop (mkF m 11 #[.val (.int xc), .val (.int xc)] [(.int (9 : Int32)), (.int xc)])) _
          refine XS.icmpNo X0.here hx rfl (hb hby d2_11) rfl (flt hc8).1 ?_
          show Steps p.tables e below (s₁.setTop (mkF m 14 #[.val (.int xc), .val (.int xc)] [])) _
          refine XS.iloadN X0.here hx rfl (hb hby d2_14) rfl ?_
          show Steps p.tables e below (s₁.setTop (mkF m 15 #[.val (.int xc), .val (.int xc)] [(.int xc)])) _
          refine XS.bipush X0.here hx rfl (hb hby d2_15) ?_
          show Steps p.tables e below (s₁.setTop (mkF m 17 #[.val (.int xc), .val (.int xc)] [(.int (13 : Int32)), (.int xc)])) _
          refine XS.icmpNo X0.here hx rfl (hb hby d2_17) rfl (flt hc9).2.2.1 ?_
          show Steps p.tables e below (s₁.setTop (mkF m 20 #[.val (.int xc), .val (.int xc)] [])) _
          refine XS.iconst X0.here hx rfl (hb hby d2_20) ?_
          show Steps p.tables e below (s₁.setTop (mkF m 21 #[.val (.int xc), .val (.int xc)] [(.int (1 : Int32))])) _
          refine XS.goto X0.here hx rfl (pc0 := 21) (pc' := 25) rfl (hb hby d2_21) (by decide) (by decide) ?_
          show Steps p.tables e below (s₁.setTop (mkF m 25 #[.val (.int xc), .val (.int xc)] [(.int (1 : Int32))])) _
          exact retN X0 hx (t := .boolean) Bd.returns (by simp) (hb hby d2_25) hr
        · show Q2 Z xc h0 n0 _ s₁.heap _
          rw [e0]
          exact ⟨(congrArg some (congrArg Value.int (by simp [own_ref, hc7, hc8, hc9]))), N0, rfl⟩

theorem pd_722702 : parseMethodDescriptor "(C)Z" = some ⟨[.char], some .boolean⟩ := by decide +kernel
theorem ef_0 (m : MethodId) (xa : Int32) (xb : Int32) : entryFrame m #[(.int xa), (.int xb)] maxLocals = mkF m 0 #[.val (.int xa), .val (.int xb), .unset, .unset] [] := by first | (simp [entryFrame, mkF, argsToLocals, Value.category, maxLocals]; done) | rfl
def Q0 (Z : State) (xa : Int32) (xb : Int32) (h0 : Heap) (n0 : Nat) (v : Option Value) (h : Heap) (L : List Loc) : Prop := v = some (.int 1) ∧ Fr n0 L
set_option maxRecDepth 65536 in
set_option maxHeartbeats 40000000 in
theorem rm0 (l : Launch) (Z : State) (a0 : Array Value) (hw : ∀ d ∈ tables_1, d.before a0 Z = true) (ws : List Jvm.Cond) (xa : Int32) (xb : Int32) (h0 : Heap) (n0 : Nat) (Z0 : n0 ≤ h0.size) :
    MetFree l x (head1 (Jvm.Cond.code x code maxLocals ret :: ws) room_1) (fun a U => a = #[(.int xa), (.int xb)] ∧ Z.Warmed39 U.vm ∧ U.heap = h0) (fun _ _ _ _ _ => True) (fun _ U o U' => ∃ v L, o = .returned v ∧ Q0 Z xa xb h0 n0 v U'.heap L ∧ FrameEnd U o U' L room_1.cells room_1.slots) := by
  refine MetFree.of_bodySF (plainFor_of_name pn_com_example_alterlint_alterlint_LexerIsSpacePinLaw) hisR ?_
  intro p e s m args below meth c s₁ Bd hml0 hP hK
  obtain ⟨rfl, hZ, hh⟩ := hP
  have hx := Bd.exec
  have hby := Bd.bytes
  have hml : c.maxLocals = 4 := hml0
  have hown : s.vm.findClass "com/example/alterlint/alterlint/LexerIsSpacePinLaw" = some m.cls := findClass_of_methodNamed Bd.named
  have hnm := (name_of_methodNamed Bd.named Bd.method).1
  have X0 : Stand p l e room_1 s m #[(.int xa), (.int xb)] below meth c s₁ [] 0 0 := Stand.of_body Bd
  have e0 : s₁.heap = h0 := by rw [← hh, Bd.state]; rfl
  have N0 := Fr.nil n0
  have pre0 : ∀ t, Steps p.tables e below (s₁.setTop (mkF m 0 #[.val (.int xa), .val (.int xb), .unset, .unset] [])) t → Steps p.tables e below (s₁.setTop (entryFrame m #[(.int xa), (.int xb)] maxLocals)) t := fun t k => castTop (ef_0 m xa xb) k
  obtain ⟨_, _, ⟨T10, L10, k10, n10⟩, -, X10, ⟨Lc10, hQ10, l10, y10, z10⟩, st10⟩ := Jvm.LawKit.callS X0 hx (y := (⟨"com/example/alterlint/alterlint/Lexer", "isSpace", "(C)Z"⟩ : MethodName)) hown (mvT hZ (hw _ (List.mem_of_getElem? (i := 1) rfl))) (mvT hZ (hw _ (List.mem_of_getElem? (i := 2) rfl))) (mvT hZ (hw _ (List.mem_of_getElem? (i := 3) rfl))) (mvT hZ (hw _ (List.mem_of_getElem? (i := 4) rfl))) (by decide) (backOf (W := 0) (rm1 l Z a0 hw [] ((xa &&& (65535 : Int32)).toUInt32.toUInt16.toUInt32.toInt32) h0 n0 Z0 ) hZ (hw _ (List.mem_of_getElem? (i := 4) rfl)) (hw _ (List.mem_of_getElem? (i := 3) rfl)) (by decide) (by decide)) (g := (mkF m 13 #[.val (.int xa), .val (.int xb), .val (.int ((xa &&& (65535 : Int32)).toUInt32.toUInt16.toUInt32.toInt32)), .val (.int ((xb &&& (63 : Int32)).toUInt32.toUInt16.toUInt32.toInt32))] [(.int ((xa &&& (65535 : Int32)).toUInt32.toUInt16.toUInt32.toInt32))])) rfl (by rw [hml]; rfl) (argsL := [(.int ((xa &&& (65535 : Int32)).toUInt32.toUInt16.toUInt32.toInt32))]) (rest := []) (lenOf pd_722702 rfl) rfl (by show 2 * 0 + _ ≤ _; exact Nat.le_of_eq rfl) (hb hby at_13) (fun _ _ => ⟨rfl, e0, (by decide : 0 + 0 ≤ _), (by decide : 0 + 0 ≤ _)⟩)
  dsimp only [Pt.U, Pt.locs, Pt.cells, Pt.slots] at X10 l10 y10 z10 st10 hQ10
  subst l10 y10 z10
  obtain ⟨rfl, N10q, K10c⟩ := hQ10
  have N10 := Fr.app N0 N10q
  obtain ⟨_, _, ⟨T11, L11, k11, n11⟩, -, X11, ⟨Lc11, hQ11, l11, y11, z11⟩, st11⟩ := Jvm.LawKit.callS X10 hx (y := (⟨"com/example/alterlint/alterlint/LexerIsSpacePinLaw", "reference", "(C)Z"⟩ : MethodName)) hown (mvT hZ (hw _ (List.mem_of_getElem? (i := 5) rfl))) (mvT hZ (hw _ (List.mem_of_getElem? (i := 6) rfl))) (mvT hZ (hw _ (List.mem_of_getElem? (i := 7) rfl))) (mvT hZ (hw _ (List.mem_of_getElem? (i := 8) rfl))) (by decide) (backOf (W := 1) (rm2 l Z a0 hw [] ((xa &&& (65535 : Int32)).toUInt32.toUInt16.toUInt32.toInt32) h0 n0 Z0 ) hZ (hw _ (List.mem_of_getElem? (i := 8) rfl)) (hw _ (List.mem_of_getElem? (i := 7) rfl)) (by decide) (by decide)) (g := (mkF m 17 #[.val (.int xa), .val (.int xb), .val (.int ((xa &&& (65535 : Int32)).toUInt32.toUInt16.toUInt32.toInt32)), .val (.int ((xb &&& (63 : Int32)).toUInt32.toUInt16.toUInt32.toInt32))] [(.int ((xa &&& (65535 : Int32)).toUInt32.toUInt16.toUInt32.toInt32)), (.int (own_isp ((xa &&& (65535 : Int32)).toUInt32.toUInt16.toUInt32.toInt32)))])) rfl (by rw [hml]; rfl) (argsL := [(.int ((xa &&& (65535 : Int32)).toUInt32.toUInt16.toUInt32.toInt32))]) (rest := [(.int (own_isp ((xa &&& (65535 : Int32)).toUInt32.toUInt16.toUInt32.toInt32)))]) (lenOf pd_722702 rfl) rfl (by show 2 * 0 + _ ≤ _; exact Nat.le_of_eq rfl) (hb hby at_17) (fun _ _ => ⟨rfl, K10c, (by decide : 0 + 0 ≤ _), (by decide : 0 + 0 ≤ _)⟩)
  dsimp only [Pt.U, Pt.locs, Pt.cells, Pt.slots] at X11 l11 y11 z11 st11 hQ11
  subst l11 y11 z11
  obtain ⟨rfl, N11q, K11c⟩ := hQ11
  have N11 := Fr.app N10 N11q
  obtain ⟨_, _, ⟨T12, L12, k12, n12⟩, -, X12, ⟨Lc12, hQ12, l12, y12, z12⟩, st12⟩ := Jvm.LawKit.callS X11 hx (y := (⟨"com/example/alterlint/alterlint/Lexer", "isSpace", "(C)Z"⟩ : MethodName)) hown (mvT hZ (hw _ (List.mem_of_getElem? (i := 1) rfl))) (mvT hZ (hw _ (List.mem_of_getElem? (i := 2) rfl))) (mvT hZ (hw _ (List.mem_of_getElem? (i := 3) rfl))) (mvT hZ (hw _ (List.mem_of_getElem? (i := 4) rfl))) (by decide) (backOf (W := 0) (rm1 l Z a0 hw [] ((xb &&& (63 : Int32)).toUInt32.toUInt16.toUInt32.toInt32) h0 n0 Z0 ) hZ (hw _ (List.mem_of_getElem? (i := 4) rfl)) (hw _ (List.mem_of_getElem? (i := 3) rfl)) (by decide) (by decide)) (g := (mkF m 24 #[.val (.int xa), .val (.int xb), .val (.int ((xa &&& (65535 : Int32)).toUInt32.toUInt16.toUInt32.toInt32)), .val (.int ((xb &&& (63 : Int32)).toUInt32.toUInt16.toUInt32.toInt32))] [(.int ((xb &&& (63 : Int32)).toUInt32.toUInt16.toUInt32.toInt32))])) rfl (by rw [hml]; rfl) (argsL := [(.int ((xb &&& (63 : Int32)).toUInt32.toUInt16.toUInt32.toInt32))]) (rest := []) (lenOf pd_722702 rfl) rfl (by show 2 * 0 + _ ≤ _; exact Nat.le_of_eq rfl) (hb hby at_24) (fun _ _ => ⟨rfl, K11c, (by decide : 0 + 0 ≤ _), (by decide : 0 + 0 ≤ _)⟩)
  dsimp only [Pt.U, Pt.locs, Pt.cells, Pt.slots] at X12 l12 y12 z12 st12 hQ12
  subst l12 y12 z12
  obtain ⟨rfl, N12q, K12c⟩ := hQ12
  have N12 := Fr.app N11 N12q
  obtain ⟨_, _, ⟨T13, L13, k13, n13⟩, -, X13, ⟨Lc13, hQ13, l13, y13, z13⟩, st13⟩ := Jvm.LawKit.callS X12 hx (y := (⟨"com/example/alterlint/alterlint/LexerIsSpacePinLaw", "reference", "(C)Z"⟩ : MethodName)) hown (mvT hZ (hw _ (List.mem_of_getElem? (i := 5) rfl))) (mvT hZ (hw _ (List.mem_of_getElem? (i := 6) rfl))) (mvT hZ (hw _ (List.mem_of_getElem? (i := 7) rfl))) (mvT hZ (hw _ (List.mem_of_getElem? (i := 8) rfl))) (by decide) (backOf (W := 1) (rm2 l Z a0 hw [] ((xb &&& (63 : Int32)).toUInt32.toUInt16.toUInt32.toInt32) h0 n0 Z0 ) hZ (hw _ (List.mem_of_getElem? (i := 8) rfl)) (hw _ (List.mem_of_getElem? (i := 7) rfl)) (by decide) (by decide)) (g := (mkF m 28 #[.val (.int xa), .val (.int xb), .val (.int ((xa &&& (65535 : Int32)).toUInt32.toUInt16.toUInt32.toInt32)), .val (.int ((xb &&& (63 : Int32)).toUInt32.toUInt16.toUInt32.toInt32))] [(.int ((xb &&& (63 : Int32)).toUInt32.toUInt16.toUInt32.toInt32)), (.int (own_isp ((xb &&& (63 : Int32)).toUInt32.toUInt16.toUInt32.toInt32)))])) rfl (by rw [hml]; rfl) (argsL := [(.int ((xb &&& (63 : Int32)).toUInt32.toUInt16.toUInt32.toInt32))]) (rest := [(.int (own_isp ((xb &&& (63 : Int32)).toUInt32.toUInt16.toUInt32.toInt32)))]) (lenOf pd_722702 rfl) rfl (by show 2 * 0 + _ ≤ _; exact Nat.le_of_eq rfl) (hb hby at_28) (fun _ _ => ⟨rfl, K12c, (by decide : 0 + 0 ≤ _), (by decide : 0 + 0 ≤ _)⟩)
  dsimp only [Pt.U, Pt.locs, Pt.cells, Pt.slots] at X13 l13 y13 z13 st13 hQ13
  subst l13 y13 z13
  obtain ⟨rfl, N13q, K13c⟩ := hQ13
  have N13 := Fr.app N12 N13q
  obtain ⟨fs, hr, hrun, hended, hW, hsame⟩ := X13.leave (v := some (.int (1 : Int32))) (fun h => by rw [Bd.returns] at h; cases h)
  refine ⟨_, _, pre0 _ ?_, hrun, hended, _, _, rfl, ?_, ⟨_, rfl⟩, hW, hsame.mono (by decide) (by decide)⟩
  · show Steps p.tables e below (s₁.setTop (mkF m 0 #[.val (.int xa), .val (.int xb), .unset, .unset] [])) _
    refine XS.iloadN X0.here hx rfl (hb hby at_0) rfl ?_
    show Steps p.tables e below (s₁.setTop (mkF m 1 #[.val (.int xa), .val (.int xb), .unset, .unset] [(.int xa)])) _
    refine Jvm.Stand.ldcI X0 hx hown (mvT hZ (hw _ (List.mem_of_getElem? (i := 0) rfl))) rfl (hb hby at_1) ?_
    show Steps p.tables e below (s₁.setTop (mkF m 3 #[.val (.int xa), .val (.int xb), .unset, .unset] [(.int (65535 : Int32)), (.int xa)])) _
    refine XS.iand X0.here hx rfl (hb hby at_3) rfl ?_
    show Steps p.tables e below (s₁.setTop (mkF m 4 #[.val (.int xa), .val (.int xb), .unset, .unset] [(.int (xa &&& (65535 : Int32)))])) _
    refine XS.i2c X0.here hx rfl (hb hby at_4) rfl ?_
    show Steps p.tables e below (s₁.setTop (mkF m 5 #[.val (.int xa), .val (.int xb), .unset, .unset] [(.int ((xa &&& (65535 : Int32)).toUInt32.toUInt16.toUInt32.toInt32))])) _
    refine XS.istoreN X0.here hx rfl (hb hby at_5) rfl (l' := #[.val (.int xa), .val (.int xb), .val (.int ((xa &&& (65535 : Int32)).toUInt32.toUInt16.toUInt32.toInt32)), .unset]) rfl ?_
    show Steps p.tables e below (s₁.setTop (mkF m 6 #[.val (.int xa), .val (.int xb), .val (.int ((xa &&& (65535 : Int32)).toUInt32.toUInt16.toUInt32.toInt32)), .unset] [])) _
    refine XS.iloadN X0.here hx rfl (hb hby at_6) rfl ?_
    show Steps p.tables e below (s₁.setTop (mkF m 7 #[.val (.int xa), .val (.int xb), .val (.int ((xa &&& (65535 : Int32)).toUInt32.toUInt16.toUInt32.toInt32)), .unset] [(.int xb)])) _
    refine XS.bipush X0.here hx rfl (hb hby at_7) ?_
    show Steps p.tables e below (s₁.setTop (mkF m 9 #[.val (.int xa), .val (.int xb), .val (.int ((xa &&& (65535 : Int32)).toUInt32.toUInt16.toUInt32.toInt32)), .unset] [(.int (63 : Int32)), (.int xb)])) _
    refine XS.iand X0.here hx rfl (hb hby at_9) rfl ?_
    show Steps p.tables e below (s₁.setTop (mkF m 10 #[.val (.int xa), .val (.int xb), .val (.int ((xa &&& (65535 : Int32)).toUInt32.toUInt16.toUInt32.toInt32)), .unset] [(.int (xb &&& (63 : Int32)))])) _
    refine XS.i2c X0.here hx rfl (hb hby at_10) rfl ?_
    show Steps p.tables e below (s₁.setTop (mkF m 11 #[.val (.int xa), .val (.int xb), .val (.int ((xa &&& (65535 : Int32)).toUInt32.toUInt16.toUInt32.toInt32)), .unset] [(.int ((xb &&& (63 : Int32)).toUInt32.toUInt16.toUInt32.toInt32))])) _
    refine XS.istoreN X0.here hx rfl (hb hby at_11) rfl (l' := #[.val (.int xa), .val (.int xb), .val (.int ((xa &&& (65535 : Int32)).toUInt32.toUInt16.toUInt32.toInt32)), .val (.int ((xb &&& (63 : Int32)).toUInt32.toUInt16.toUInt32.toInt32))]) rfl ?_
    show Steps p.tables e below (s₁.setTop (mkF m 12 #[.val (.int xa), .val (.int xb), .val (.int ((xa &&& (65535 : Int32)).toUInt32.toUInt16.toUInt32.toInt32)), .val (.int ((xb &&& (63 : Int32)).toUInt32.toUInt16.toUInt32.toInt32))] [])) _
    refine XS.iloadN X0.here hx rfl (hb hby at_12) rfl ?_
    show Steps p.tables e below (s₁.setTop (mkF m 13 #[.val (.int xa), .val (.int xb), .val (.int ((xa &&& (65535 : Int32)).toUInt32.toUInt16.toUInt32.toInt32)), .val (.int ((xb &&& (63 : Int32)).toUInt32.toUInt16.toUInt32.toInt32))] [(.int ((xa &&& (65535 : Int32)).toUInt32.toUInt16.toUInt32.toInt32))])) _
    refine st10 _ ?_
    show Steps p.tables e below (T10.setTop (mkF m 16 #[.val (.int xa), .val (.int xb), .val (.int ((xa &&& (65535 : Int32)).toUInt32.toUInt16.toUInt32.toInt32)), .val (.int ((xb &&& (63 : Int32)).toUInt32.toUInt16.toUInt32.toInt32))] [(.int (own_isp ((xa &&& (65535 : Int32)).toUInt32.toUInt16.toUInt32.toInt32)))])) _
    refine XS.iloadN X10.here hx rfl (hb hby at_16) rfl ?_
    show Steps p.tables e below (T10.setTop (mkF m 17 #[.val (.int xa), .val (.int xb), .val (.int ((xa &&& (65535 : Int32)).toUInt32.toUInt16.toUInt32.toInt32)), .val (.int ((xb &&& (63 : Int32)).toUInt32.toUInt16.toUInt32.toInt32))] [(.int ((xa &&& (65535 : Int32)).toUInt32.toUInt16.toUInt32.toInt32)), (.int (own_isp ((xa &&& (65535 : Int32)).toUInt32.toUInt16.toUInt32.toInt32)))])) _
    refine st11 _ ?_
    show Steps p.tables e below (T11.setTop (mkF m 20 #[.val (.int xa), .val (.int xb), .val (.int ((xa &&& (65535 : Int32)).toUInt32.toUInt16.toUInt32.toInt32)), .val (.int ((xb &&& (63 : Int32)).toUInt32.toUInt16.toUInt32.toInt32))] [(.int (own_ref ((xa &&& (65535 : Int32)).toUInt32.toUInt16.toUInt32.toInt32))), (.int (own_isp ((xa &&& (65535 : Int32)).toUInt32.toUInt16.toUInt32.toInt32)))])) _
    refine XS.icmpNo X11.here hx rfl (hb hby at_20) rfl (teq (own_eq _)).2 ?_
    show Steps p.tables e below (T11.setTop (mkF m 23 #[.val (.int xa), .val (.int xb), .val (.int ((xa &&& (65535 : Int32)).toUInt32.toUInt16.toUInt32.toInt32)), .val (.int ((xb &&& (63 : Int32)).toUInt32.toUInt16.toUInt32.toInt32))] [])) _
    refine XS.iloadN X11.here hx rfl (hb hby at_23) rfl ?_
    show Steps p.tables e below (T11.setTop (mkF m 24 #[.val (.int xa), .val (.int xb), .val (.int ((xa &&& (65535 : Int32)).toUInt32.toUInt16.toUInt32.toInt32)), .val (.int ((xb &&& (63 : Int32)).toUInt32.toUInt16.toUInt32.toInt32))] [(.int ((xb &&& (63 : Int32)).toUInt32.toUInt16.toUInt32.toInt32))])) _
    refine st12 _ ?_
    show Steps p.tables e below (T12.setTop (mkF m 27 #[.val (.int xa), .val (.int xb), .val (.int ((xa &&& (65535 : Int32)).toUInt32.toUInt16.toUInt32.toInt32)), .val (.int ((xb &&& (63 : Int32)).toUInt32.toUInt16.toUInt32.toInt32))] [(.int (own_isp ((xb &&& (63 : Int32)).toUInt32.toUInt16.toUInt32.toInt32)))])) _
    refine XS.iloadN X12.here hx rfl (hb hby at_27) rfl ?_
    show Steps p.tables e below (T12.setTop (mkF m 28 #[.val (.int xa), .val (.int xb), .val (.int ((xa &&& (65535 : Int32)).toUInt32.toUInt16.toUInt32.toInt32)), .val (.int ((xb &&& (63 : Int32)).toUInt32.toUInt16.toUInt32.toInt32))] [(.int ((xb &&& (63 : Int32)).toUInt32.toUInt16.toUInt32.toInt32)), (.int (own_isp ((xb &&& (63 : Int32)).toUInt32.toUInt16.toUInt32.toInt32)))])) _
    refine st13 _ ?_
    show Steps p.tables e below (T13.setTop (mkF m 31 #[.val (.int xa), .val (.int xb), .val (.int ((xa &&& (65535 : Int32)).toUInt32.toUInt16.toUInt32.toInt32)), .val (.int ((xb &&& (63 : Int32)).toUInt32.toUInt16.toUInt32.toInt32))] [(.int (own_ref ((xb &&& (63 : Int32)).toUInt32.toUInt16.toUInt32.toInt32))), (.int (own_isp ((xb &&& (63 : Int32)).toUInt32.toUInt16.toUInt32.toInt32)))])) _
    refine XS.icmpNo X13.here hx rfl (hb hby at_31) rfl (teq (own_eq _)).2 ?_
    show Steps p.tables e below (T13.setTop (mkF m 34 #[.val (.int xa), .val (.int xb), .val (.int ((xa &&& (65535 : Int32)).toUInt32.toUInt16.toUInt32.toInt32)), .val (.int ((xb &&& (63 : Int32)).toUInt32.toUInt16.toUInt32.toInt32))] [])) _
    refine XS.iconst X13.here hx rfl (hb hby at_34) ?_
    show Steps p.tables e below (T13.setTop (mkF m 35 #[.val (.int xa), .val (.int xb), .val (.int ((xa &&& (65535 : Int32)).toUInt32.toUInt16.toUInt32.toInt32)), .val (.int ((xb &&& (63 : Int32)).toUInt32.toUInt16.toUInt32.toInt32))] [(.int (1 : Int32))])) _
    refine XS.goto X13.here hx rfl (pc0 := 35) (pc' := 39) rfl (hb hby at_35) (by decide) (by decide) ?_
    show Steps p.tables e below (T13.setTop (mkF m 39 #[.val (.int xa), .val (.int xb), .val (.int ((xa &&& (65535 : Int32)).toUInt32.toUInt16.toUInt32.toInt32)), .val (.int ((xb &&& (63 : Int32)).toUInt32.toUInt16.toUInt32.toInt32))] [(.int (1 : Int32))])) _
    exact retN X13 hx (t := .boolean) Bd.returns (by simp) (hb hby at_39) hr
  · show Q0 Z xa xb h0 n0 _ T13.heap _
    rw [K13c]
    exact ⟨rfl, N13⟩

set_option maxRecDepth 65536 in
set_option maxHeartbeats 40000000 in
theorem comes_1 {Post : Tables → Env → Array Value → State → Outcome → State → Prop} (hpost : ∀ tb e args s v u, (limb_1_1.after args s (.returned v) u = true ∧ limb_1_2.after args s (.returned v) u = true ∧ True) → FrameEnd s (.returned v) u (Jvm.fieldLocs frame_1_writes args s ++ Jvm.arrayLocs frame_1_arrays args s ++ Jvm.staticLocs frame_1_statics s) 0 0 → Post tb e args s (.returned v) u) :
    ArmFor flags0 classFile x code maxLocals ret World_1 tables_1 room_1 Calls_1 rest_1 Pre_1 Post := by
  intro l hfl _ _ p e ha hc hk s m args below hf hA hF happ hP
  obtain ⟨hcalls, hrest, hpre⟩ := hP
  obtain ⟨-, -, -, hnamed, -, -, -, hat⟩ := (Spec.applies_iff hf).mp happ
  obtain ⟨hg, hn⟩ := and_e (Cond.before_iff.mp (show (Jvm.Cond.and given_1 narrow_1).before args s = true from hpre))
  obtain ⟨hcnt, hg0⟩ := and_e hg
  obtain ⟨ha0, hg1⟩ := and_e hg0
  obtain ⟨w0, w1, rfl⟩ : ∃ w0 w1 : Value, args = #[w0, w1] := by
    have hs : args.size = 2 := by simpa [Cond.value, given_1] using hcnt
    obtain ⟨L⟩ := args
    match L, hs with
    | [w0, w1], _ => exact ⟨w0, w1, rfl⟩
  have hw := fun d (hd : d ∈ tables_1) => atoms_spec (ws := Jvm.Cond.code x code maxLocals ret :: tables_1) hat d (List.mem_cons_of_mem _ hd)
  have hfit : Fit s := fun {y c} hc i hi => by
    obtain ⟨ha, rfl⟩ := Array.getElem?_eq_some_iff.mp hc
    have q := List.all_eq_true.mp ((Array.all_eq_true_iff_forall_mem.mp hF) _ (Array.getElem_mem ha)) i (List.mem_range.mpr hi)
    simpa [Array.getElem?_eq_getElem hi] using q
  obtain ⟨i0, ei0⟩ := is_v ha0
  obtain rfl : w0 = (.int i0) := Option.some.inj ei0
  obtain ⟨i1, ei1⟩ := is_v hg1
  obtain rfl : w1 = (.int i1) := Option.some.inj ei1
  obtain ⟨n, o, h1, h2, h3, _, L, rfl, ⟨rfl, N⟩, hq⟩ := rm0 l s _ hw tables_1 i0 i1 s.heap s.heap.size (Nat.le_refl _)  p e ha hc hk s m _ below hf ((Spec.applies_iff_loose hf).mp happ).1 ⟨rfl, State.Warmed39.refl s, rfl⟩ trivial
  refine ⟨n, _, h1, h2, h3, hpost _ _ _ _ _ _ ⟨Cond.after_iff.mpr rfl, Cond.after_iff.mpr (eq_i res_at (Term.int_eval (1)) rfl), trivial⟩ ⟨hq.1, hq.2.1, (hq.2.2.sift fun y hy => Or.inr (N y hy)).mono (by decide) (by decide)⟩⟩
theorem main_1_1 : Claimed_1_1 := comes_1 fun _ _ _ _ _ _ h hF => ⟨h.1, hF⟩
theorem main_1_2 : Claimed_1_2 := comes_1 fun _ _ _ _ _ _ h hF => ⟨h.2.1, hF⟩
end Jvm.Pilot.@@N@@
namespace Jvm.Pilot.@@N@@
open Jvm Jvm.ClassFile Sem Op Lib Jvm.Free Jvm.Stand Jvm.Pilot.@@N@@.Jvm.D
/-! MADE BY PROGRAM (witnessworld.py) out of the Statement's table words and the real class files: 7 classes; the members and pool entries that the words name. The judged class is class 1, her method 2. -/
namespace start1
open Jvm.ClassFile
def u (s : String) : CpInfo := .utf8 (stringToUtf16 s)
/-- a pool by its gaps: so many unusable entries, then the entry; so many at the end -/
def gap : Nat → List CpInfo → List CpInfo
  | 0, r => r
  | n + 1, r => .unusable :: gap n r
def poolList (es : List (Nat × CpInfo)) (last : Nat) : List CpInfo := es.foldr (fun e r => gap e.1 (e.2 :: r)) (gap last [])
def pool (es : List (Nat × CpInfo)) (last : Nat) : Array CpInfo := ⟨poolList es last⟩
def fileOf (pool : Array CpInfo) (this : Nat) (attrs : Array Attribute := #[]) (ms : Array MethodInfo := #[]) (fl : Nat := 33) (sup : Nat := 0) (ifs : Array Nat := #[]) (fds : Array FieldInfo := #[]) : ClassFile where
  minorVersion := 0
  majorVersion := 65
  constantPool := pool
  accessFlags := fl
  thisClass := this
  superClass := sup
  interfaces := ifs
  fields := fds
  methods := ms
  attributes := attrs
def plain (name : String) (sup : Option ClassId) : Class where
  name := name
  kind := .ordinary
  loader := none
  accessFlags := 33
  super := sup
  interfaces := #[]
  cf := none
  fields := #[]
  methods := #[]
  instanceTypes := #[]
  staticTypes := #[]
  resolved := #[]
  callSites := []
  init := .initialized
  statics := none
  mirror := none

def pool0 : Array CpInfo := pool [(5, u "<init>"), (0, u "()V"), (1, .class_ 10), (1, u "java/lang/Object")] 113

def k0m0 : Method := { name := "<init>", desc := "()V", sig := { parameters := [], returnType := none }, accessFlags := 1, code := none }
/-- java/lang/Object -/
def k0 : Class := { plain "java/lang/Object" none with
  accessFlags := 33
  interfaces := #[]
  cf := some (fileOf pool0 8 #[] #[{ accessFlags := 1, nameIndex := 5, descriptorIndex := 6, attributes := #[] }] 33 0 #[] #[])
  fields := #[]
  methods := #[k0m0]
  instanceTypes := #[]
  staticTypes := #[]
  resolved := Array.replicate 124 none
  statics := none }

def pool1 : Array CpInfo := pool [(2, .class_ 4), (1, u "java/lang/Object"), (0, u "<init>"), (0, u "()V"), (0, .integer 65535), (0, .methodref 9 10), (0, .class_ 11), (0, .nameAndType 12 13), (0, u "com/example/alterlint/alterlint/Lexer"), (0, u "isSpace"), (0, u "(C)Z"), (0, .methodref 15 16), (0, .class_ 17), (0, .nameAndType 18 13), (0, u "com/example/alterlint/alterlint/LexerIsSpacePinLaw"), (0, u "reference"), (3, u "law"), (0, u "(II)Z")] 2

def k1m0 : Method := { name := "<init>", desc := "()V", sig := { parameters := [], returnType := none }, accessFlags := 1, code := none }
def k1c1 : Code := { maxStack := 2, maxLocals := 2, code := method_2_code, exceptionTable := #[], attributes := #[] }
def k1m1 : Method := { name := "reference", desc := "(C)Z", sig := { parameters := [.char], returnType := some .boolean }, accessFlags := 10, code := some k1c1 }
def k1c2 : Code := { maxStack := 2, maxLocals := 4, code := code, exceptionTable := #[], attributes := #[] }
def k1m2 : Method := { name := "law", desc := "(II)Z", sig := { parameters := [.int, .int], returnType := some .boolean }, accessFlags := 9, code := some k1c2 }
/-- com/example/alterlint/alterlint/LexerIsSpacePinLaw -/
def k1 : Class := { plain "com/example/alterlint/alterlint/LexerIsSpacePinLaw" (some 0) with
  accessFlags := 49
  interfaces := #[]
  cf := some (fileOf pool1 15 #[] #[{ accessFlags := 1, nameIndex := 5, descriptorIndex := 6, attributes := #[] }, { accessFlags := 10, nameIndex := 18, descriptorIndex := 13, attributes := #[] }, { accessFlags := 9, nameIndex := 22, descriptorIndex := 23, attributes := #[] }] 49 2 #[] #[])
  fields := #[]
  methods := #[k1m0, k1m1, k1m2]
  instanceTypes := #[]
  staticTypes := #[]
  resolved := Array.replicate 26 none
  statics := none }

def pool2 : Array CpInfo := pool [(2, .class_ 4), (1, u "java/lang/Object"), (6, .class_ 13), (1, u "com/example/alterlint/alterlint/Lexer"), (0, u "tokens"), (0, u "Ljava/util/List;"), (2, u "text"), (0, u "Ljava/lang/String;"), (2, u "script"), (0, u "Z"), (2, u "placeLine"), (0, u "I"), (2, u "placeColumn"), (2, u "quoteColumns"), (39, u "pos"), (23, u "isSpace"), (0, u "(C)Z"), (111, u "signsEnd"), (36, u "refusedSinceEnd"), (2, u "placeOffset"), (18, u "OPERATOR_CHARACTERS"), (1, u "OPERATOR_MARKERS")] 15

def k2c0 : Code := { maxStack := 2, maxLocals := 1, code := prog_63_method_23_code, exceptionTable := #[], attributes := #[] }
def k2m0 : Method := { name := "isSpace", desc := "(C)Z", sig := { parameters := [.char], returnType := some .boolean }, accessFlags := 8, code := some k2c0 }
/-- com/example/alterlint/alterlint/Lexer -/
def k2 : Class := { plain "com/example/alterlint/alterlint/Lexer" (some 0) with
  accessFlags := 48
  interfaces := #[]
  cf := some (fileOf pool2 11 #[] #[{ accessFlags := 8, nameIndex := 97, descriptorIndex := 98, attributes := #[] }] 48 2 #[] #[{ accessFlags := 24, nameIndex := 269, descriptorIndex := 19, attributes := #[] }, { accessFlags := 26, nameIndex := 271, descriptorIndex := 19, attributes := #[] }, { accessFlags := 18, nameIndex := 18, descriptorIndex := 19, attributes := #[] }, { accessFlags := 18, nameIndex := 22, descriptorIndex := 23, attributes := #[] }, { accessFlags := 18, nameIndex := 14, descriptorIndex := 15, attributes := #[] }, { accessFlags := 2, nameIndex := 73, descriptorIndex := 27, attributes := #[] }, { accessFlags := 18, nameIndex := 33, descriptorIndex := 27, attributes := #[] }, { accessFlags := 2, nameIndex := 250, descriptorIndex := 27, attributes := #[] }, { accessFlags := 2, nameIndex := 26, descriptorIndex := 27, attributes := #[] }, { accessFlags := 2, nameIndex := 30, descriptorIndex := 27, attributes := #[] }, { accessFlags := 2, nameIndex := 247, descriptorIndex := 23, attributes := #[] }, { accessFlags := 2, nameIndex := 210, descriptorIndex := 27, attributes := #[] }])
  fields := #[{ name := "OPERATOR_CHARACTERS", type := (.object "java/lang/String"), accessFlags := 24, slot := 0, constantValue := 0 }, { name := "OPERATOR_MARKERS", type := (.object "java/lang/String"), accessFlags := 26, slot := 1, constantValue := 0 }, { name := "text", type := (.object "java/lang/String"), accessFlags := 18, slot := 0, constantValue := 0 }, { name := "script", type := .boolean, accessFlags := 18, slot := 1, constantValue := 0 }, { name := "tokens", type := (.object "java/util/List"), accessFlags := 18, slot := 2, constantValue := 0 }, { name := "pos", type := .int, accessFlags := 2, slot := 3, constantValue := 0 }, { name := "quoteColumns", type := .int, accessFlags := 18, slot := 4, constantValue := 0 }, { name := "placeOffset", type := .int, accessFlags := 2, slot := 5, constantValue := 0 }, { name := "placeLine", type := .int, accessFlags := 2, slot := 6, constantValue := 0 }, { name := "placeColumn", type := .int, accessFlags := 2, slot := 7, constantValue := 0 }, { name := "refusedSinceEnd", type := .boolean, accessFlags := 2, slot := 8, constantValue := 0 }, { name := "signsEnd", type := .int, accessFlags := 2, slot := 9, constantValue := 0 }]
  methods := #[k2m0]
  instanceTypes := #[(.object "java/lang/String"), .boolean, (.object "java/util/List"), .int, .int, .int, .int, .int, .boolean, .int]
  staticTypes := #[(.object "java/lang/String"), (.object "java/lang/String")]
  resolved := Array.replicate 287 none
  statics := none }

def pool3 : Array CpInfo := pool [(1, u "java/lang/Cloneable"), (0, .class_ 1), (0, u "java/lang/Object"), (0, .class_ 3)] 3

/-- java/lang/Cloneable -/
def k3 : Class := { plain "java/lang/Cloneable" (some 0) with
  accessFlags := 1537
  interfaces := #[]
  cf := some (fileOf pool3 2 #[] #[] 1537 4 #[] #[])
  fields := #[]
  methods := #[]
  instanceTypes := #[]
  staticTypes := #[]
  resolved := Array.replicate 8 none
  statics := none }

def pool4 : Array CpInfo := pool [(1, u "java/io/Serializable"), (0, .class_ 1), (0, u "java/lang/Object"), (0, .class_ 3)] 3

/-- java/io/Serializable -/
def k4 : Class := { plain "java/io/Serializable" (some 0) with
  accessFlags := 1537
  interfaces := #[]
  cf := some (fileOf pool4 2 #[] #[] 1537 4 #[] #[])
  fields := #[]
  methods := #[]
  instanceTypes := #[]
  staticTypes := #[]
  resolved := Array.replicate 8 none
  statics := none }

/-- the primitive byte -/
def k5 : Class := { plain "byte" none with kind := .primitive 'B', accessFlags := 0x411 }
/-- [B -/
def k6 : Class := { plain "[B" (some 0) with kind := .array 5 .byte, interfaces := #[3, 4], accessFlags := 1041 }

def heap : Heap := #[]
def classes : Array Class := #[k0, k1, k2, k3, k4, k5, k6]
def interned : List (Array UInt16 × Addr) := []
def slotsUsed : Nat := 0
def theMethod : MethodId := ⟨1, 2⟩
def args0 : Array Value := #[.int 5, .int 7]
def aboutOver (below : List Frame) : State where
  vm := { classes := classes, interned := interned.toArray }
  heap := heap
  slotsUsed := slotsUsed
  threads := #[{ frames := .invoking theMethod args0 :: below }]
def below0 : List Frame := [.native { method := ⟨0, 0⟩, args := #[] }]
def about1 : State := aboutOver below0
def p0 : Program := .bare "" "" ""
def e0 : Env := launch0.env 0 0 0
theorem w_frames : about1.frames = Frame.invoking theMethod args0 :: below0 := rfl
set_option maxRecDepth 65536 in
theorem w_args : argsFit about1.vm theMethod args0 = true := by decide +kernel
set_option maxRecDepth 65536 in
theorem w_heap : heapFits about1 = true := by decide +kernel
set_option maxRecDepth 65536 in
theorem w_runnable : about1.curStatus? = some .runnable := by decide +kernel
set_option maxRecDepth 65536 in
theorem w_alone : about1.alone = true := by decide +kernel
set_option maxRecDepth 65536 in
theorem w_named : about1.methodNamed? x = some theMethod := by decide +kernel
set_option maxRecDepth 65536 in
theorem w_hears : about1.hears theMethod below0 = true := by decide +kernel
set_option maxRecDepth 65536 in
theorem w_ripe : about1.ripe theMethod args0 below0 = true := by decide +kernel
theorem w_running : about1.status = .running := rfl
set_option maxRecDepth 65536 in
theorem w_room : about1.hasRoom e0.platform room_1 = true :=
  launch0.hasRoom_least _ room_1 (by decide +kernel) (by decide +kernel) (by decide +kernel) (by decide +kernel) (by decide +kernel) (by decide +kernel)
theorem allAtoms_all (ts : List Jvm.Cond) (a : Array Jvm.Value) (st : Jvm.State) : (allAtoms ts).before a st = ts.all (fun c => c.before a st) := by
  induction ts with
  | nil => rfl
  | cons c t ih =>
    show (Jvm.Cond.and c (allAtoms t)).before a st = _
    rw [Jvm.Cond.before_and, ih, List.all_cons]
def words1 : List Jvm.Cond := Jvm.Cond.code x code maxLocals ret :: tables_1
/-- a 'code' word, met by the world's own term for the bytes: nothing is compared byte by byte -/
theorem code_word {y : MethodName} {bytes : ByteArray} {mx : Nat} {rt : Option FieldType} {a : Array Value} {s : State} {m : MethodId} {meth : Method} {c : Code} (h1 : s.methodNamed? y = some m) (h2 : s.vm.method? m = some meth) (h3 : meth.code = some c) (h4 : c.code = bytes)
    (h5 : (c.maxLocals == mx && c.exceptionTable.isEmpty && decide (c.maxStack ≤ mostOperands) && decide (meth.sig.returnType = rt) && !meth.locks && decide (parseMethodDescriptor y.desc = some meth.sig)) = true) : (Jvm.Cond.code y bytes mx rt).before a s = true := by
  simp only [Bool.and_eq_true, beq_iff_eq, Bool.not_eq_true', decide_eq_true_eq] at h5
  obtain ⟨⟨⟨⟨⟨g1, g2⟩, g3⟩, g4⟩, g5⟩, g6⟩ := h5
  simp [Cond.before, Cond.holds, Cond.value, h1, h2, h3, h4, g1, g2, g3, g4, g5, g6]
def isCode : Jvm.Cond → Bool
  | .code _ _ _ _ => true
  | _ => false
theorem all_split {L : List Jvm.Cond} {P : Jvm.Cond → Bool} (h1 : L.all (fun c => isCode c || P c) = true) (h2 : ∀ c ∈ L.filter isCode, P c = true) : L.all P = true := by
  refine List.all_eq_true.mpr fun c hc => ?_
  have h := List.all_eq_true.mp h1 c hc
  rcases Bool.eq_false_or_eq_true (isCode c) with hi | hi
  · exact h2 c (List.mem_filter.mpr ⟨hc, hi⟩)
  · simpa [hi] using h
set_option maxRecDepth 65536 in
theorem w_c0 : (Jvm.Cond.code x code maxLocals ret).before args0 about1 = true := code_word (m := ⟨1, 2⟩) (meth := k1m2) (c := k1c2) (by decide +kernel) rfl rfl rfl (by decide +kernel)
set_option maxRecDepth 65536 in
theorem w_c1 : (Jvm.Cond.code ({ cls := "com/example/alterlint/alterlint/Lexer", name := "isSpace", desc := "(C)Z" } : Jvm.MethodName) prog_63_method_23_code (1 : Nat) (Option.some Jvm.ClassFile.FieldType.boolean)).before args0 about1 = true := code_word (m := ⟨2, 0⟩) (meth := k2m0) (c := k2c0) (by decide +kernel) rfl rfl rfl (by decide +kernel)
set_option maxRecDepth 65536 in
theorem w_c2 : (Jvm.Cond.code ({ cls := "com/example/alterlint/alterlint/LexerIsSpacePinLaw", name := "reference", desc := "(C)Z" } : Jvm.MethodName) method_2_code (2 : Nat) (Option.some Jvm.ClassFile.FieldType.boolean)).before args0 about1 = true := code_word (m := ⟨1, 1⟩) (meth := k1m1) (c := k1c1) (by decide +kernel) rfl rfl rfl (by decide +kernel)
def codes1 : List Jvm.Cond := [Jvm.Cond.code x code maxLocals ret, Jvm.Cond.code ({ cls := "com/example/alterlint/alterlint/Lexer", name := "isSpace", desc := "(C)Z" } : Jvm.MethodName) prog_63_method_23_code (1 : Nat) (Option.some Jvm.ClassFile.FieldType.boolean), Jvm.Cond.code ({ cls := "com/example/alterlint/alterlint/LexerIsSpacePinLaw", name := "reference", desc := "(C)Z" } : Jvm.MethodName) method_2_code (2 : Nat) (Option.some Jvm.ClassFile.FieldType.boolean)]
set_option maxRecDepth 65536 in
theorem codes_eq : words1.filter isCode = codes1 := rfl
theorem w_codes : ∀ c ∈ words1.filter isCode, c.before args0 about1 = true := by
  rw [codes_eq]
  intro c hc
  simp only [codes1, List.mem_cons, List.not_mem_nil, or_false] at hc
  rcases hc with rfl | rfl | rfl
  · exact w_c0
  · exact w_c1
  · exact w_c2
set_option maxRecDepth 65536 in
theorem w_t1 : words1.all (fun c => isCode c || c.before args0 about1) = true := by decide +kernel
theorem w_tables : (allAtoms (Jvm.Cond.code x code maxLocals ret :: tables_1)).before args0 about1 = true := by
  rw [allAtoms_all]
  show words1.all (fun c => c.before args0 about1) = true
  refine all_split ?_ w_codes
  rw [w_t1]
set_option maxRecDepth 65536 in
theorem w_case : (Jvm.Cond.and given_1 narrow_1).before args0 about1 = true := by decide +kernel
theorem w_applies : (headSpec (Jvm.Cond.code x code maxLocals ret :: tables_1) room_1).applies x e0.platform about1 = true :=
  (Spec.applies_iff w_frames).mpr ⟨w_running, w_runnable, w_alone, w_named, w_hears, w_ripe, w_room, w_tables⟩
theorem atStart : AtStart classFile x code maxLocals ret World_1 tables_1 room_1 Calls_1 rest_1 Pre_1 launch0 p0 e0 about1 theMethod args0 below0 :=
  ⟨lists_1, trivial, launch0.admits_env _ _ _, launch0.least_env, fairChoices_fair.cas, fairChoices_fair.clock, w_frames, w_args, w_heap, w_applies, trivial, trivial, w_case⟩
end start1
theorem witness_1 : WitnessClaimed_1 := ⟨start1.p0, start1.e0, start1.about1, start1.theMethod, start1.args0, start1.below0, start1.atStart⟩
end Jvm.Pilot.@@N@@
