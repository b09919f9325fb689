import JvmDerived
import JvmDerived.Pilot.@@N@@Statement
import JvmDerived.Pilot.@@N@@Code
set_option linter.unusedVariables false
set_option linter.unusedSimpArgs false
namespace Jvm.RoadKit
open Sem ClassFile Op Lib Jvm.Stand Jvm.Free Jvm.LawKit
abbrev vI (x : Int32) : Slot := .val (.int x)
abbrev vJ (x : Int64) : Slot := .val (.long x)
abbrev vR (a : Addr) : Slot := .val (.ref a)
/-- from S0 the run comes to T with g on top -/
def Go (tb : Tables) (e : Env) (below : List Frame) (S0 T : State) (g : JFrame) : Prop := ∀ t, Steps tb e below (T.setTop g) t → Steps tb e below S0 t
theorem Go.fin {tb : Tables} {e : Env} {below : List Frame} {S0 S T t : State} {g : JFrame} (h : Go tb e below S0 T g) (q : S0 = S) (k : Steps tb e below (T.setTop g) t) : Steps tb e below S t := q ▸ h t k
section New
variable {p : Program} {l : Launch} {e : Env} {R : Room} {s : State} {m : MethodId} {args : Array Value} {below : List Frame} {meth : Method} {c : Code} {T : State} {locs : List Loc} {cells slots : Nat}
end New
end Jvm.RoadKit
namespace Jvm.Pilot.@@N@@
open Jvm Jvm.ClassFile Sem Op Lib Jvm.Free Jvm.Stand Jvm.LawKit Jvm.RoadKit Bundle Jvm.Pilot.@@N@@.Jvm.D
def own_bare_36 (p0 : Int32) : Int32 := if p0 = (95 : Int32) then ((1 : Int32)) else ((0 : Int32))
def own_bare_24 (p0 : Int32) : Int32 := if p0 < (48 : Int32) then (own_bare_36 p0) else (if (57 : Int32) < p0 then (own_bare_36 p0) else ((1 : Int32)))
def own_bare_12 (p0 : Int32) : Int32 := if p0 < (65 : Int32) then (own_bare_24 p0) else (if (90 : Int32) < p0 then (own_bare_24 p0) else ((1 : Int32)))
def own_bare (p0 : Int32) : Int32 := if p0 < (97 : Int32) then (own_bare_12 p0) else (if (122 : Int32) < p0 then (own_bare_12 p0) else ((1 : Int32)))
theorem ef_1 (m : MethodId) (x0 : Int32) : entryFrame m #[(.int x0)] 1 = mkF m 0 #[.val (.int x0)] [] := by first | (simp [entryFrame, mkF, argsToLocals, Value.category]; done) | rfl
theorem pn_0 : plainName "com/example/motiflow/motiflow/ExpressionReader" = true := by first | (simp [plainName, overriddenIn]; done) | decide +kernel
theorem d1_0 : decode prog_54_method_2_code 0 = .ok (.iload_n 0, 1) := by decide +kernel
theorem d1_1 : decode prog_54_method_2_code 1 = .ok (.bipush 97, 2) := by decide +kernel
theorem d1_3 : decode prog_54_method_2_code 3 = .ok (.if_icmp .lt 9, 3) := by decide +kernel
theorem d1_6 : decode prog_54_method_2_code 6 = .ok (.iload_n 0, 1) := by decide +kernel
theorem d1_7 : decode prog_54_method_2_code 7 = .ok (.bipush 122, 2) := by decide +kernel
theorem d1_9 : decode prog_54_method_2_code 9 = .ok (.if_icmp .le 33, 3) := by decide +kernel
theorem d1_12 : decode prog_54_method_2_code 12 = .ok (.iload_n 0, 1) := by decide +kernel
theorem d1_13 : decode prog_54_method_2_code 13 = .ok (.bipush 65, 2) := by decide +kernel
theorem d1_15 : decode prog_54_method_2_code 15 = .ok (.if_icmp .lt 9, 3) := by decide +kernel
theorem d1_18 : decode prog_54_method_2_code 18 = .ok (.iload_n 0, 1) := by decide +kernel
theorem d1_19 : decode prog_54_method_2_code 19 = .ok (.bipush 90, 2) := by decide +kernel
theorem d1_21 : decode prog_54_method_2_code 21 = .ok (.if_icmp .le 21, 3) := by decide +kernel
theorem d1_24 : decode prog_54_method_2_code 24 = .ok (.iload_n 0, 1) := by decide +kernel
theorem d1_25 : decode prog_54_method_2_code 25 = .ok (.bipush 48, 2) := by decide +kernel
theorem d1_27 : decode prog_54_method_2_code 27 = .ok (.if_icmp .lt 9, 3) := by decide +kernel
theorem d1_30 : decode prog_54_method_2_code 30 = .ok (.iload_n 0, 1) := by decide +kernel
theorem d1_31 : decode prog_54_method_2_code 31 = .ok (.bipush 57, 2) := by decide +kernel
theorem d1_33 : decode prog_54_method_2_code 33 = .ok (.if_icmp .le 9, 3) := by decide +kernel
theorem d1_36 : decode prog_54_method_2_code 36 = .ok (.iload_n 0, 1) := by decide +kernel
theorem d1_37 : decode prog_54_method_2_code 37 = .ok (.bipush 95, 2) := by decide +kernel
theorem d1_39 : decode prog_54_method_2_code 39 = .ok (.if_icmp .ne 7, 3) := by decide +kernel
theorem d1_42 : decode prog_54_method_2_code 42 = .ok (.iconst 1, 1) := by decide +kernel
theorem d1_43 : decode prog_54_method_2_code 43 = .ok (.goto 4, 3) := by decide +kernel
theorem d1_46 : decode prog_54_method_2_code 46 = .ok (.iconst 0, 1) := by decide +kernel
theorem d1_47 : decode prog_54_method_2_code 47 = .ok (.ireturn, 1) := by decide +kernel
def Q1 (Z : State) (p0 : Int32) (h0 : Heap) (n0 : Nat) (v : Option Value) (h : Heap) (L : List Loc) : Prop := v = some (.int (own_bare p0)) ∧ Fr n0 L ∧ h = h0
set_option maxRecDepth 65536 in
set_option maxHeartbeats 40000000 in
theorem rm1 (l : Launch) (Z : State) (A0 : Array Value) (hw : ∀ d ∈ tables_1, d.before A0 Z = true) (ws : List Jvm.Cond) (p0 : Int32)  (h0 : Heap) (n0 : Nat) (Z0 : n0 ≤ h0.size)  :
    MetFree l (⟨"com/example/motiflow/motiflow/ExpressionReader", "isBareCharacter", "(C)Z"⟩ : MethodName) (head1 (Jvm.Cond.code (⟨"com/example/motiflow/motiflow/ExpressionReader", "isBareCharacter", "(C)Z"⟩ : MethodName) prog_54_method_2_code 1 (some .boolean) :: ws) ({ frames := 0, cells := 0, slots := 0, locals := 0 } : Room)) (fun a U => a = #[(.int p0)] ∧ Z.Warmed39 U.vm ∧ U.heap = h0) (fun _ _ _ _ _ => True) (fun _ U o U' => ∃ v L, o = .returned v ∧ Q1 Z p0 h0 n0 v U'.heap L ∧ FrameEnd U o U' L ({ frames := 0, cells := 0, slots := 0, locals := 0 } : Room).cells ({ frames := 0, cells := 0, slots := 0, locals := 0 } : Room).slots) := by
  refine MetFree.of_bodySF (plainFor_of_name pn_0) hisR ?_
  intro p e s m args below meth c s₁ Bd hml0 hP hK
  obtain ⟨rfl, hZ, hh⟩ := hP
  have hx := Bd.exec
  have hby := Bd.bytes
  have hml : c.maxLocals = 1 := hml0
  have hown : s.vm.findClass "com/example/motiflow/motiflow/ExpressionReader" = some m.cls := findClass_of_methodNamed Bd.named
  have hnm := (name_of_methodNamed Bd.named Bd.method).1
  have X0 : Stand p l e ({ frames := 0, cells := 0, slots := 0, locals := 0 } : Room) s m #[(.int p0)] below meth c s₁ [] 0 0 := Stand.of_body Bd
  have e0 : s₁.heap = h0 := by rw [← hh, Bd.state]; rfl
  have N0 := Fr.nil n0
  obtain ⟨S0, hS0⟩ : ∃ z, z = s₁.setTop (entryFrame m #[(.int p0)] 1) := ⟨_, rfl⟩
  have pre0 : Go p.tables e below S0 s₁ (mkF m 0 #[vI p0] []) := fun t k => by rw [hS0]; exact castTop (ef_1 m p0) k
  have pre1 : Go p.tables e below S0 s₁ (mkF m 3 #[vI p0] [(.int (97 : Int32)), (.int p0)]) := fun t k => pre0 t (by
    refine XS.iloadN X0.here hx rfl (hb hby d1_0) rfl ?_
    show Steps p.tables e below (s₁.setTop (mkF m 1 #[vI p0] [(.int p0)])) _
    refine XS.bipush X0.here hx rfl (hb hby d1_1) ?_
    show Steps p.tables e below (s₁.setTop (mkF m 3 #[vI p0] [(.int (97 : Int32)), (.int p0)])) _
    exact k)
  refine cps (A := (own_bare p0 = own_bare_12 p0) ∧ (Go p.tables e below S0 s₁ (mkF m 12 #[vI p0] []))) (fun tail10 => ?_) ?_
  · skip
    by_cases c3_2 : p0 < (97 : Int32)
    · skip
      have pre3 : Go p.tables e below S0 s₁ (mkF m 12 #[vI p0] []) := fun t k => pre1 t (by
        refine XS.icmpYes X0.here hx rfl (pc0 := 3) (pc' := 12) rfl (hb hby d1_3) rfl (tlt c3_2).1 (by decide) (by decide) ?_
        show Steps p.tables e below (s₁.setTop (mkF m 12 #[vI p0] [])) _
        exact k)
      exact tail10 ⟨(by simp [own_bare, c3_2]), pre3⟩
    · skip
      have pre4 : Go p.tables e below S0 s₁ (mkF m 9 #[vI p0] [(.int (122 : Int32)), (.int p0)]) := fun t k => pre1 t (by
        refine XS.icmpNo X0.here hx rfl (hb hby d1_3) rfl (flt c3_2).1 ?_
        show Steps p.tables e below (s₁.setTop (mkF m 6 #[vI p0] [])) _
        refine XS.iloadN X0.here hx rfl (hb hby d1_6) rfl ?_
        show Steps p.tables e below (s₁.setTop (mkF m 7 #[vI p0] [(.int p0)])) _
        refine XS.bipush X0.here hx rfl (hb hby d1_7) ?_
        show Steps p.tables e below (s₁.setTop (mkF m 9 #[vI p0] [(.int (122 : Int32)), (.int p0)])) _
        exact k)
      by_cases c9_5 : (122 : Int32) < p0
      · skip
        have pre6 : Go p.tables e below S0 s₁ (mkF m 12 #[vI p0] []) := fun t k => pre4 t (by
          refine XS.icmpNo X0.here hx rfl (hb hby d1_9) rfl (tlt c9_5).2.2.2 ?_
          show Steps p.tables e below (s₁.setTop (mkF m 12 #[vI p0] [])) _
          exact k)
        exact tail10 ⟨(by simp [own_bare, c3_2, c9_5]), pre6⟩
      · skip
        have pre7 : Go p.tables e below S0 s₁ (mkF m 47 #[vI p0] [(.int (1 : Int32))]) := fun t k => pre4 t (by
          refine XS.icmpYes X0.here hx rfl (pc0 := 9) (pc' := 42) rfl (hb hby d1_9) rfl (flt c9_5).2.2.2 (by decide) (by decide) ?_
          show Steps p.tables e below (s₁.setTop (mkF m 42 #[vI p0] [])) _
          refine XS.iconst X0.here hx rfl (hb hby d1_42) ?_
          show Steps p.tables e below (s₁.setTop (mkF m 43 #[vI p0] [(.int (1 : Int32))])) _
          refine XS.goto X0.here hx rfl (pc0 := 43) (pc' := 47) rfl (hb hby d1_43) (by decide) (by decide) ?_
          show Steps p.tables e below (s₁.setTop (mkF m 47 #[vI p0] [(.int (1 : Int32))])) _
          exact k)
        obtain ⟨fs, hr, hrun, hended, hW, hsame⟩ := X0.leave (v := some (.int (1 : Int32))) (fun h => by rw [Bd.returns] at h; cases h)
        exact ⟨_, _, pre7.fin hS0 (retN X0 hx (t := .boolean) Bd.returns (by simp) (hb hby d1_47) hr), hrun, hended, _, _, rfl, (by
          show Q1 Z p0 h0 n0 _ s₁.heap _
          rw [e0]
          exact ⟨congrArg (fun z => some (Value.int z)) (by simp [own_bare, c3_2, c9_5]), N0, rfl⟩), ⟨_, rfl⟩, hW, hsame.mono (by decide) (by decide)⟩
  rintro ⟨hj12_8, pre9⟩
  have pre11 : Go p.tables e below S0 s₁ (mkF m 15 #[vI p0] [(.int (65 : Int32)), (.int p0)]) := fun t k => pre9 t (by
    refine XS.iloadN X0.here hx rfl (hb hby d1_12) rfl ?_
    show Steps p.tables e below (s₁.setTop (mkF m 13 #[vI p0] [(.int p0)])) _
    refine XS.bipush X0.here hx rfl (hb hby d1_13) ?_
    show Steps p.tables e below (s₁.setTop (mkF m 15 #[vI p0] [(.int (65 : Int32)), (.int p0)])) _
    exact k)
  refine cps (A := (own_bare p0 = own_bare_24 p0) ∧ (Go p.tables e below S0 s₁ (mkF m 24 #[vI p0] []))) (fun tail20 => ?_) ?_
  · skip
    by_cases c15_12 : p0 < (65 : Int32)
    · skip
      have pre13 : Go p.tables e below S0 s₁ (mkF m 24 #[vI p0] []) := fun t k => pre11 t (by
        refine XS.icmpYes X0.here hx rfl (pc0 := 15) (pc' := 24) rfl (hb hby d1_15) rfl (tlt c15_12).1 (by decide) (by decide) ?_
        show Steps p.tables e below (s₁.setTop (mkF m 24 #[vI p0] [])) _
        exact k)
      exact tail20 ⟨(by rw [hj12_8]; simp [own_bare_12, c15_12]), pre13⟩
    · skip
      have pre14 : Go p.tables e below S0 s₁ (mkF m 21 #[vI p0] [(.int (90 : Int32)), (.int p0)]) := fun t k => pre11 t (by
        refine XS.icmpNo X0.here hx rfl (hb hby d1_15) rfl (flt c15_12).1 ?_
        show Steps p.tables e below (s₁.setTop (mkF m 18 #[vI p0] [])) _
        refine XS.iloadN X0.here hx rfl (hb hby d1_18) rfl ?_
        show Steps p.tables e below (s₁.setTop (mkF m 19 #[vI p0] [(.int p0)])) _
        refine XS.bipush X0.here hx rfl (hb hby d1_19) ?_
        show Steps p.tables e below (s₁.setTop (mkF m 21 #[vI p0] [(.int (90 : Int32)), (.int p0)])) _
        exact k)
      by_cases c21_15 : (90 : Int32) < p0
      · skip
        have pre16 : Go p.tables e below S0 s₁ (mkF m 24 #[vI p0] []) := fun t k => pre14 t (by
          refine XS.icmpNo X0.here hx rfl (hb hby d1_21) rfl (tlt c21_15).2.2.2 ?_
          show Steps p.tables e below (s₁.setTop (mkF m 24 #[vI p0] [])) _
          exact k)
        exact tail20 ⟨(by rw [hj12_8]; simp [own_bare_12, c15_12, c21_15]), pre16⟩
      · skip
        have pre17 : Go p.tables e below S0 s₁ (mkF m 47 #[vI p0] [(.int (1 : Int32))]) := fun t k => pre14 t (by
          refine XS.icmpYes X0.here hx rfl (pc0 := 21) (pc' := 42) rfl (hb hby d1_21) rfl (flt c21_15).2.2.2 (by decide) (by decide) ?_
          show Steps p.tables e below (s₁.setTop (mkF m 42 #[vI p0] [])) _
          refine XS.iconst X0.here hx rfl (hb hby d1_42) ?_
          show Steps p.tables e below (s₁.setTop (mkF m 43 #[vI p0] [(.int (1 : Int32))])) _
          refine XS.goto X0.here hx rfl (pc0 := 43) (pc' := 47) rfl (hb hby d1_43) (by decide) (by decide) ?_
          show Steps p.tables e below (s₁.setTop (mkF m 47 #[vI p0] [(.int (1 : Int32))])) _
          exact k)
        obtain ⟨fs, hr, hrun, hended, hW, hsame⟩ := X0.leave (v := some (.int (1 : Int32))) (fun h => by rw [Bd.returns] at h; cases h)
        exact ⟨_, _, pre17.fin hS0 (retN X0 hx (t := .boolean) Bd.returns (by simp) (hb hby d1_47) hr), hrun, hended, _, _, rfl, (by
          show Q1 Z p0 h0 n0 _ s₁.heap _
          rw [e0]
          exact ⟨congrArg (fun z => some (Value.int z)) (by rw [hj12_8]; simp [own_bare_12, c15_12, c21_15]), N0, rfl⟩), ⟨_, rfl⟩, hW, hsame.mono (by decide) (by decide)⟩
  rintro ⟨hj24_18, pre19⟩
  have pre21 : Go p.tables e below S0 s₁ (mkF m 27 #[vI p0] [(.int (48 : Int32)), (.int p0)]) := fun t k => pre19 t (by
    refine XS.iloadN X0.here hx rfl (hb hby d1_24) rfl ?_
    show Steps p.tables e below (s₁.setTop (mkF m 25 #[vI p0] [(.int p0)])) _
    refine XS.bipush X0.here hx rfl (hb hby d1_25) ?_
    show Steps p.tables e below (s₁.setTop (mkF m 27 #[vI p0] [(.int (48 : Int32)), (.int p0)])) _
    exact k)
  refine cps (A := (own_bare p0 = own_bare_36 p0) ∧ (Go p.tables e below S0 s₁ (mkF m 36 #[vI p0] []))) (fun tail30 => ?_) ?_
  · skip
    by_cases c27_22 : p0 < (48 : Int32)
    · skip
      have pre23 : Go p.tables e below S0 s₁ (mkF m 36 #[vI p0] []) := fun t k => pre21 t (by
        refine XS.icmpYes X0.here hx rfl (pc0 := 27) (pc' := 36) rfl (hb hby d1_27) rfl (tlt c27_22).1 (by decide) (by decide) ?_
        show Steps p.tables e below (s₁.setTop (mkF m 36 #[vI p0] [])) _
        exact k)
      exact tail30 ⟨(by rw [hj24_18]; simp [own_bare_24, c27_22]), pre23⟩
    · skip
      have pre24 : Go p.tables e below S0 s₁ (mkF m 33 #[vI p0] [(.int (57 : Int32)), (.int p0)]) := fun t k => pre21 t (by
        refine XS.icmpNo X0.here hx rfl (hb hby d1_27) rfl (flt c27_22).1 ?_
        show Steps p.tables e below (s₁.setTop (mkF m 30 #[vI p0] [])) _
        refine XS.iloadN X0.here hx rfl (hb hby d1_30) rfl ?_
        show Steps p.tables e below (s₁.setTop (mkF m 31 #[vI p0] [(.int p0)])) _
        refine XS.bipush X0.here hx rfl (hb hby d1_31) ?_
        show Steps p.tables e below (s₁.setTop (mkF m 33 #[vI p0] [(.int (57 : Int32)), (.int p0)])) _
        exact k)
      by_cases c33_25 : (57 : Int32) < p0
      · skip
        have pre26 : Go p.tables e below S0 s₁ (mkF m 36 #[vI p0] []) := fun t k => pre24 t (by
          refine XS.icmpNo X0.here hx rfl (hb hby d1_33) rfl (tlt c33_25).2.2.2 ?_
          show Steps p.tables e below (s₁.setTop (mkF m 36 #[vI p0] [])) _
          exact k)
        exact tail30 ⟨(by rw [hj24_18]; simp [own_bare_24, c27_22, c33_25]), pre26⟩
      · skip
        have pre27 : Go p.tables e below S0 s₁ (mkF m 47 #[vI p0] [(.int (1 : Int32))]) := fun t k => pre24 t (by
          refine XS.icmpYes X0.here hx rfl (pc0 := 33) (pc' := 42) rfl (hb hby d1_33) rfl (flt c33_25).2.2.2 (by decide) (by decide) ?_
          show Steps p.tables e below (s₁.setTop (mkF m 42 #[vI p0] [])) _
          refine XS.iconst X0.here hx rfl (hb hby d1_42) ?_
          show Steps p.tables e below (s₁.setTop (mkF m 43 #[vI p0] [(.int (1 : Int32))])) _
          refine XS.goto X0.here hx rfl (pc0 := 43) (pc' := 47) rfl (hb hby d1_43) (by decide) (by decide) ?_
          show Steps p.tables e below (s₁.setTop (mkF m 47 #[vI p0] [(.int (1 : Int32))])) _
          exact k)
        obtain ⟨fs, hr, hrun, hended, hW, hsame⟩ := X0.leave (v := some (.int (1 : Int32))) (fun h => by rw [Bd.returns] at h; cases h)
        exact ⟨_, _, pre27.fin hS0 (retN X0 hx (t := .boolean) Bd.returns (by simp) (hb hby d1_47) hr), hrun, hended, _, _, rfl, (by
          show Q1 Z p0 h0 n0 _ s₁.heap _
          rw [e0]
          exact ⟨congrArg (fun z => some (Value.int z)) (by rw [hj24_18]; simp [own_bare_24, c27_22, c33_25]), N0, rfl⟩), ⟨_, rfl⟩, hW, hsame.mono (by decide) (by decide)⟩
  rintro ⟨hj36_28, pre29⟩
  have pre31 : Go p.tables e below S0 s₁ (mkF m 39 #[vI p0] [(.int (95 : Int32)), (.int p0)]) := fun t k => pre29 t (by
    refine XS.iloadN X0.here hx rfl (hb hby d1_36) rfl ?_
    show Steps p.tables e below (s₁.setTop (mkF m 37 #[vI p0] [(.int p0)])) _
    refine XS.bipush X0.here hx rfl (hb hby d1_37) ?_
    show Steps p.tables e below (s₁.setTop (mkF m 39 #[vI p0] [(.int (95 : Int32)), (.int p0)])) _
    exact k)
  by_cases c39_32 : p0 = (95 : Int32)
  · skip
    have pre33 : Go p.tables e below S0 s₁ (mkF m 47 #[vI p0] [(.int (1 : Int32))]) := fun t k => pre31 t (by
      refine XS.icmpNo X0.here hx rfl (hb hby d1_39) rfl (teq c39_32).2 ?_
      show Steps p.tables e below (s₁.setTop (mkF m 42 #[vI p0] [])) _
      refine XS.iconst X0.here hx rfl (hb hby d1_42) ?_
      show Steps p.tables e below (s₁.setTop (mkF m 43 #[vI p0] [(.int (1 : Int32))])) _
      refine XS.goto X0.here hx rfl (pc0 := 43) (pc' := 47) rfl (hb hby d1_43) (by decide) (by decide) ?_
      show Steps p.tables e below (s₁.setTop (mkF m 47 #[vI p0] [(.int (1 : Int32))])) _
      exact k)
    obtain ⟨fs, hr, hrun, hended, hW, hsame⟩ := X0.leave (v := some (.int (1 : Int32))) (fun h => by rw [Bd.returns] at h; cases h)
    exact ⟨_, _, pre33.fin hS0 (retN X0 hx (t := .boolean) Bd.returns (by simp) (hb hby d1_47) hr), hrun, hended, _, _, rfl, (by
      show Q1 Z p0 h0 n0 _ s₁.heap _
      rw [e0]
      exact ⟨congrArg (fun z => some (Value.int z)) (by rw [hj36_28]; simp [own_bare_36, c39_32]), N0, rfl⟩), ⟨_, rfl⟩, hW, hsame.mono (by decide) (by decide)⟩
  · skip
    have pre34 : Go p.tables e below S0 s₁ (mkF m 47 #[vI p0] [(.int (0 : Int32))]) := fun t k => pre31 t (by
      refine XS.icmpYes X0.here hx rfl (pc0 := 39) (pc' := 46) rfl (hb hby d1_39) rfl (feq c39_32).2 (by decide) (by decide) ?_
      show Steps p.tables e below (s₁.setTop (mkF m 46 #[vI p0] [])) _
      refine XS.iconst X0.here hx rfl (hb hby d1_46) ?_
      show Steps p.tables e below (s₁.setTop (mkF m 47 #[vI p0] [(.int (0 : Int32))])) _
      exact k)
    obtain ⟨fs, hr, hrun, hended, hW, hsame⟩ := X0.leave (v := some (.int (0 : Int32))) (fun h => by rw [Bd.returns] at h; cases h)
    exact ⟨_, _, pre34.fin hS0 (retN X0 hx (t := .boolean) Bd.returns (by simp) (hb hby d1_47) hr), hrun, hended, _, _, rfl, (by
      show Q1 Z p0 h0 n0 _ s₁.heap _
      rw [e0]
      exact ⟨congrArg (fun z => some (Value.int z)) (by rw [hj36_28]; simp [own_bare_36, c39_32]), N0, rfl⟩), ⟨_, rfl⟩, hW, hsame.mono (by decide) (by decide)⟩
theorem own_or (n : Nat) : (Int32.ofNat n ||| (32 : Int32)) = Int32.ofNat (n ||| 32) := by
  apply Int32.toBitVec_inj.mp
  show (Int32.ofNat n).toBitVec ||| (32 : Int32).toBitVec = (Int32.ofNat (n ||| 32)).toBitVec
  rw [Int32.toBitVec_ofNat', Int32.toBitVec_ofNat']
  apply BitVec.eq_of_toNat_eq
  rw [BitVec.toNat_or, BitVec.toNat_ofNat, BitVec.toNat_ofNat]
  show n % 2^32 ||| 32 % 2^32 = _
  exact (Nat.or_mod_two_pow).symm
theorem own_char (x : Int32) : ∃ n : Nat, n < 65536 ∧ x.toUInt32.toUInt16.toUInt32.toInt32 = Int32.ofNat n := by
  have h := c_i2c x
  generalize x.toUInt32.toUInt16.toUInt32.toInt32 = v at h
  refine ⟨v.toInt.toNat, by omega, ?_⟩
  apply Int32.toInt_inj.mp
  rw [Int32.toInt_ofNat_of_lt (by omega)]
  omega
def own_exp (v l d : Int32) : Int32 := if (¬ l < (0 : Int32) ∧ l < (26 : Int32)) ∨ (¬ d < (0 : Int32) ∧ d < (10 : Int32)) ∨ v = (95 : Int32) then 1 else 0
theorem own_tab : ∀ k : Fin 128, own_bare (Int32.ofNat k.val) = own_exp (Int32.ofNat k.val) ((Int32.ofNat k.val ||| (32 : Int32)) - (97 : Int32)) (Int32.ofNat k.val - (48 : Int32)) := by decide +kernel
theorem own_key (v : Int32) (hv : ∃ n : Nat, n < 65536 ∧ v = Int32.ofNat n) : own_bare v = own_exp v ((v ||| (32 : Int32)) - (97 : Int32)) (v - (48 : Int32)) := by
  obtain ⟨n, hn, rfl⟩ := hv
  by_cases h : n < 128
  · exact own_tab ⟨n, h⟩
  · have e : (Int32.ofNat n).toInt = n := Int32.toInt_ofNat_of_lt (by omega)
    have e1 : n ≤ n ||| 32 := Nat.left_le_or
    have e2 : n ||| 32 < 2 ^ 16 := Nat.or_lt_two_pow (by omega) (by omega)
    have e3 : (Int32.ofNat n ||| (32 : Int32)).toInt = ((n ||| 32 : Nat) : Int) := by rw [own_or]; exact Int32.toInt_ofNat_of_lt (by omega)
    have a1 := c_isub (Int32.ofNat n ||| (32 : Int32)) (97 : Int32)
    have a2 := c_isub (Int32.ofNat n) (48 : Int32)
    have b1 := rng32 ((Int32.ofNat n ||| (32 : Int32)) - (97 : Int32))
    have b2 := rng32 (Int32.ofNat n - (48 : Int32))
    have t97 : (97 : Int32).toInt = 97 := rfl
    have t48 : (48 : Int32).toInt = 48 := rfl
    rw [e3, t97] at a1
    rw [e, t48] at a2
    generalize (Int32.ofNat n ||| (32 : Int32)) - (97 : Int32) = l at *
    generalize Int32.ofNat n - (48 : Int32) = d at *
    generalize Int32.ofNat n = v at *
    have z : own_exp v l d = 0 := by
      unfold own_exp
      rw [if_neg]
      simp only [Int32.lt_iff_toInt_lt, ← Int32.toInt_inj, Int32.reduceToInt]
      omega
    rw [z]
    simp only [own_bare, own_bare_12, own_bare_24, own_bare_36, Int32.lt_iff_toInt_lt, ← Int32.toInt_inj, Int32.reduceToInt]
    rw [if_neg (by omega), if_pos (by omega), if_neg (by omega), if_pos (by omega), if_neg (by omega), if_pos (by omega), if_neg (by omega)]
    rfl
theorem ef_0 (m : MethodId) (x0 : Int32) : entryFrame m #[(.int x0)] maxLocals = mkF m 0 #[.val (.int x0), .unset, .unset, .unset, .unset] [] := by first | (simp [entryFrame, mkF, argsToLocals, Value.category, maxLocals]; done) | rfl
theorem pn_1 : plainName "com/example/motiflow/motiflow/ExpressionReaderIsBareCharacterPinLaw" = true := by first | (simp [plainName, overriddenIn]; done) | decide +kernel
theorem pd_0 : parseMethodDescriptor "(C)Z" = some ⟨[.char], some .boolean⟩ := by decide +kernel
def Q0 (Z : State) (p0 : Int32) (h0 : Heap) (n0 : Nat) (v : Option Value) (h : Heap) (L : List Loc) : Prop := v = some (.int 1) ∧ Fr n0 L
set_option maxRecDepth 65536 in
set_option maxHeartbeats 40000000 in
theorem rm0 (l : Launch) (Z : State) (A0 : Array Value) (hw : ∀ d ∈ tables_1, d.before A0 Z = true) (ws : List Jvm.Cond) (p0 : Int32)  (h0 : Heap) (n0 : Nat) (Z0 : n0 ≤ h0.size)  :
    MetFree l x (head1 (Jvm.Cond.code x code maxLocals ret :: ws) room_1) (fun a U => a = #[(.int p0)] ∧ Z.Warmed39 U.vm ∧ U.heap = h0) (fun _ _ _ _ _ => True) (fun _ U o U' => ∃ v L, o = .returned v ∧ Q0 Z p0 h0 n0 v U'.heap L ∧ FrameEnd U o U' L 0 0) := by
  refine MetFree.of_bodySF (plainFor_of_name pn_1) hisR ?_
  intro p e s m args below meth c s₁ Bd hml0 hP hK
  obtain ⟨rfl, hZ, hh⟩ := hP
  have hx := Bd.exec
  have hby := Bd.bytes
  have hml : c.maxLocals = 5 := hml0
  have hown : s.vm.findClass "com/example/motiflow/motiflow/ExpressionReaderIsBareCharacterPinLaw" = some m.cls := findClass_of_methodNamed Bd.named
  have hnm := (name_of_methodNamed Bd.named Bd.method).1
  have X0 : Stand p l e room_1 s m #[(.int p0)] below meth c s₁ [] 0 0 := Stand.of_body Bd
  have e0 : s₁.heap = h0 := by rw [← hh, Bd.state]; rfl
  have N0 := Fr.nil n0
  obtain ⟨S0, hS0⟩ : ∃ z, z = s₁.setTop (entryFrame m #[(.int p0)] maxLocals) := ⟨_, rfl⟩
  have pre0 : Go p.tables e below S0 s₁ (mkF m 0 #[vI p0, .unset, .unset, .unset, .unset] []) := fun t k => by rw [hS0]; exact castTop (ef_0 m p0) k
  obtain ⟨v1, hv1, pre1⟩ : ∃ z : Int32, z = ((p0 &&& (65535 : Int32)).toUInt32.toUInt16.toUInt32.toInt32) ∧ Go p.tables e below S0 s₁ (mkF m 6 #[vI p0, vI z, .unset, .unset, .unset] []) := ⟨_, rfl, fun t k => pre0 t (by
    refine XS.iloadN X0.here hx rfl (hb hby at_0) rfl ?_
    show Steps p.tables e below (s₁.setTop (mkF m 1 #[vI p0, .unset, .unset, .unset, .unset] [(.int p0)])) _
    refine X0.ldcInt hx hown (mvT hZ (hw _ (List.mem_of_getElem? (i := 0) rfl))) (g := (mkF m 1 #[vI p0, .unset, .unset, .unset, .unset] [(.int p0)])) rfl (hb hby at_1) _ ?_
    show Steps p.tables e below (s₁.setTop (mkF m 3 #[vI p0, .unset, .unset, .unset, .unset] [(.int (65535 : Int32)), (.int p0)])) _
    refine XS.iand X0.here hx rfl (hb hby at_3) rfl ?_
    show Steps p.tables e below (s₁.setTop (mkF m 4 #[vI p0, .unset, .unset, .unset, .unset] [(.int (p0 &&& (65535 : Int32)))])) _
    refine XS.i2c X0.here hx rfl (hb hby at_4) rfl ?_
    show Steps p.tables e below (s₁.setTop (mkF m 5 #[vI p0, .unset, .unset, .unset, .unset] [(.int ((p0 &&& (65535 : Int32)).toUInt32.toUInt16.toUInt32.toInt32))])) _
    refine XS.istoreN X0.here hx rfl (hb hby at_5) rfl (l' := #[vI p0, vI ((p0 &&& (65535 : Int32)).toUInt32.toUInt16.toUInt32.toInt32), .unset, .unset, .unset]) rfl ?_
    show Steps p.tables e below (s₁.setTop (mkF m 6 #[vI p0, vI ((p0 &&& (65535 : Int32)).toUInt32.toUInt16.toUInt32.toInt32), .unset, .unset, .unset] [])) _
    exact k)⟩
  obtain ⟨v2, hv2, pre2⟩ : ∃ z : Int32, z = ((v1 ||| (32 : Int32)) - (97 : Int32)) ∧ Go p.tables e below S0 s₁ (mkF m 14 #[vI p0, vI v1, vI z, .unset, .unset] []) := ⟨_, rfl, fun t k => pre1 t (by
    refine XS.iloadN X0.here hx rfl (hb hby at_6) rfl ?_
    show Steps p.tables e below (s₁.setTop (mkF m 7 #[vI p0, vI v1, .unset, .unset, .unset] [(.int v1)])) _
    refine XS.bipush X0.here hx rfl (hb hby at_7) ?_
    show Steps p.tables e below (s₁.setTop (mkF m 9 #[vI p0, vI v1, .unset, .unset, .unset] [(.int (32 : Int32)), (.int v1)])) _
    refine XS.ior X0.here hx rfl (hb hby at_9) rfl ?_
    show Steps p.tables e below (s₁.setTop (mkF m 10 #[vI p0, vI v1, .unset, .unset, .unset] [(.int (v1 ||| (32 : Int32)))])) _
    refine XS.bipush X0.here hx rfl (hb hby at_10) ?_
    show Steps p.tables e below (s₁.setTop (mkF m 12 #[vI p0, vI v1, .unset, .unset, .unset] [(.int (97 : Int32)), (.int (v1 ||| (32 : Int32)))])) _
    refine XS.isub X0.here hx rfl (hb hby at_12) rfl ?_
    show Steps p.tables e below (s₁.setTop (mkF m 13 #[vI p0, vI v1, .unset, .unset, .unset] [(.int ((v1 ||| (32 : Int32)) - (97 : Int32)))])) _
    refine XS.istoreN X0.here hx rfl (hb hby at_13) rfl (l' := #[vI p0, vI v1, vI ((v1 ||| (32 : Int32)) - (97 : Int32)), .unset, .unset]) rfl ?_
    show Steps p.tables e below (s₁.setTop (mkF m 14 #[vI p0, vI v1, vI ((v1 ||| (32 : Int32)) - (97 : Int32)), .unset, .unset] [])) _
    exact k)⟩
  obtain ⟨v3, hv3, pre3⟩ : ∃ z : Int32, z = (v1 - (48 : Int32)) ∧ Go p.tables e below S0 s₁ (mkF m 19 #[vI p0, vI v1, vI v2, vI z, .unset] []) := ⟨_, rfl, fun t k => pre2 t (by
    refine XS.iloadN X0.here hx rfl (hb hby at_14) rfl ?_
    show Steps p.tables e below (s₁.setTop (mkF m 15 #[vI p0, vI v1, vI v2, .unset, .unset] [(.int v1)])) _
    refine XS.bipush X0.here hx rfl (hb hby at_15) ?_
    show Steps p.tables e below (s₁.setTop (mkF m 17 #[vI p0, vI v1, vI v2, .unset, .unset] [(.int (48 : Int32)), (.int v1)])) _
    refine XS.isub X0.here hx rfl (hb hby at_17) rfl ?_
    show Steps p.tables e below (s₁.setTop (mkF m 18 #[vI p0, vI v1, vI v2, .unset, .unset] [(.int (v1 - (48 : Int32)))])) _
    refine XS.istoreN X0.here hx rfl (hb hby at_18) rfl (l' := #[vI p0, vI v1, vI v2, vI (v1 - (48 : Int32)), .unset]) rfl ?_
    show Steps p.tables e below (s₁.setTop (mkF m 19 #[vI p0, vI v1, vI v2, vI (v1 - (48 : Int32)), .unset] [])) _
    exact k)⟩
  have pre4 : Go p.tables e below S0 s₁ (mkF m 20 #[vI p0, vI v1, vI v2, vI v3, .unset] [(.int v2)]) := fun t k => pre3 t (by
    refine XS.iloadN X0.here hx rfl (hb hby at_19) rfl ?_
    show Steps p.tables e below (s₁.setTop (mkF m 20 #[vI p0, vI v1, vI v2, vI v3, .unset] [(.int v2)])) _
    exact k)
  refine cps (A := ∃ (j50_s0_35 : Int32), (((j50_s0_35 = (1 : Int32)) ∧ (v2 < (0 : Int32)) ∧ (v3 < (0 : Int32)) ∧ (v1 = (95 : Int32))) ∨ ((j50_s0_35 = (0 : Int32)) ∧ (v2 < (0 : Int32)) ∧ (v3 < (0 : Int32)) ∧ (¬ (v1 = (95 : Int32)))) ∨ ((j50_s0_35 = (1 : Int32)) ∧ (v2 < (0 : Int32)) ∧ (¬ (v3 < (0 : Int32))) ∧ (v3 < (10 : Int32))) ∨ ((j50_s0_35 = (1 : Int32)) ∧ (v2 < (0 : Int32)) ∧ (¬ (v3 < (0 : Int32))) ∧ (¬ (v3 < (10 : Int32))) ∧ (v1 = (95 : Int32))) ∨ ((j50_s0_35 = (0 : Int32)) ∧ (v2 < (0 : Int32)) ∧ (¬ (v3 < (0 : Int32))) ∧ (¬ (v3 < (10 : Int32))) ∧ (¬ (v1 = (95 : Int32)))) ∨ ((j50_s0_35 = (1 : Int32)) ∧ (¬ (v2 < (0 : Int32))) ∧ (v2 < (26 : Int32))) ∨ ((j50_s0_35 = (1 : Int32)) ∧ (¬ (v2 < (0 : Int32))) ∧ (¬ (v2 < (26 : Int32))) ∧ (v3 < (0 : Int32)) ∧ (v1 = (95 : Int32))) ∨ ((j50_s0_35 = (0 : Int32)) ∧ (¬ (v2 < (0 : Int32))) ∧ (¬ (v2 < (26 : Int32))) ∧ (v3 < (0 : Int32)) ∧ (¬ (v1 = (95 : Int32)))) ∨ ((j50_s0_35 = (1 : Int32)) ∧ (¬ (v2 < (0 : Int32))) ∧ (¬ (v2 < (26 : Int32))) ∧ (¬ (v3 < (0 : Int32))) ∧ (v3 < (10 : Int32))) ∨ ((j50_s0_35 = (1 : Int32)) ∧ (¬ (v2 < (0 : Int32))) ∧ (¬ (v2 < (26 : Int32))) ∧ (¬ (v3 < (0 : Int32))) ∧ (¬ (v3 < (10 : Int32))) ∧ (v1 = (95 : Int32))) ∨ ((j50_s0_35 = (0 : Int32)) ∧ (¬ (v2 < (0 : Int32))) ∧ (¬ (v2 < (26 : Int32))) ∧ (¬ (v3 < (0 : Int32))) ∧ (¬ (v3 < (10 : Int32))) ∧ (¬ (v1 = (95 : Int32))))) ∧ (Go p.tables e below S0 s₁ (mkF m 50 #[vI p0, vI v1, vI v2, vI v3, .unset] [(.int j50_s0_35)]))) (fun tail38 => ?_) ?_
  · skip
    by_cases c20_5 : v2 < (0 : Int32)
    · skip
      have pre6 : Go p.tables e below S0 s₁ (mkF m 30 #[vI p0, vI v1, vI v2, vI v3, .unset] [(.int v3)]) := fun t k => pre4 t (by
        refine XS.ifYes X0.here hx rfl (pc0 := 20) (pc' := 29) rfl (hb hby at_20) rfl ((if0 _ _).trans (tlt c20_5).1) (by decide) (by decide) ?_
        show Steps p.tables e below (s₁.setTop (mkF m 29 #[vI p0, vI v1, vI v2, vI v3, .unset] [])) _
        refine XS.iloadN X0.here hx rfl (hb hby at_29) rfl ?_
        show Steps p.tables e below (s₁.setTop (mkF m 30 #[vI p0, vI v1, vI v2, vI v3, .unset] [(.int v3)])) _
        exact k)
      by_cases c30_7 : v3 < (0 : Int32)
      · skip
        have pre8 : Go p.tables e below S0 s₁ (mkF m 42 #[vI p0, vI v1, vI v2, vI v3, .unset] [(.int (95 : Int32)), (.int v1)]) := fun t k => pre6 t (by
          refine XS.ifYes X0.here hx rfl (pc0 := 30) (pc' := 39) rfl (hb hby at_30) rfl ((if0 _ _).trans (tlt c30_7).1) (by decide) (by decide) ?_
          show Steps p.tables e below (s₁.setTop (mkF m 39 #[vI p0, vI v1, vI v2, vI v3, .unset] [])) _
          refine XS.iloadN X0.here hx rfl (hb hby at_39) rfl ?_
          show Steps p.tables e below (s₁.setTop (mkF m 40 #[vI p0, vI v1, vI v2, vI v3, .unset] [(.int v1)])) _
          refine XS.bipush X0.here hx rfl (hb hby at_40) ?_
          show Steps p.tables e below (s₁.setTop (mkF m 42 #[vI p0, vI v1, vI v2, vI v3, .unset] [(.int (95 : Int32)), (.int v1)])) _
          exact k)
        by_cases c42_9 : v1 = (95 : Int32)
        · skip
          have pre10 : Go p.tables e below S0 s₁ (mkF m 50 #[vI p0, vI v1, vI v2, vI v3, .unset] [(.int (1 : Int32))]) := fun t k => pre8 t (by
            refine XS.icmpNo X0.here hx rfl (hb hby at_42) rfl (teq c42_9).2 ?_
            show Steps p.tables e below (s₁.setTop (mkF m 45 #[vI p0, vI v1, vI v2, vI v3, .unset] [])) _
            refine XS.iconst X0.here hx rfl (hb hby at_45) ?_
            show Steps p.tables e below (s₁.setTop (mkF m 46 #[vI p0, vI v1, vI v2, vI v3, .unset] [(.int (1 : Int32))])) _
            refine XS.goto X0.here hx rfl (pc0 := 46) (pc' := 50) rfl (hb hby at_46) (by decide) (by decide) ?_
            show Steps p.tables e below (s₁.setTop (mkF m 50 #[vI p0, vI v1, vI v2, vI v3, .unset] [(.int (1 : Int32))])) _
            exact k)
          exact tail38 ⟨(1 : Int32), (Or.inl ⟨rfl, c20_5, c30_7, c42_9⟩), pre10⟩
        · skip
          have pre11 : Go p.tables e below S0 s₁ (mkF m 50 #[vI p0, vI v1, vI v2, vI v3, .unset] [(.int (0 : Int32))]) := fun t k => pre8 t (by
            refine XS.icmpYes X0.here hx rfl (pc0 := 42) (pc' := 49) rfl (hb hby at_42) rfl (feq c42_9).2 (by decide) (by decide) ?_
            show Steps p.tables e below (s₁.setTop (mkF m 49 #[vI p0, vI v1, vI v2, vI v3, .unset] [])) _
            refine XS.iconst X0.here hx rfl (hb hby at_49) ?_
            show Steps p.tables e below (s₁.setTop (mkF m 50 #[vI p0, vI v1, vI v2, vI v3, .unset] [(.int (0 : Int32))])) _
            exact k)
          exact tail38 ⟨(0 : Int32), (Or.inr (Or.inl ⟨rfl, c20_5, c30_7, c42_9⟩)), pre11⟩
      · skip
        have pre12 : Go p.tables e below S0 s₁ (mkF m 36 #[vI p0, vI v1, vI v2, vI v3, .unset] [(.int (10 : Int32)), (.int v3)]) := fun t k => pre6 t (by
          refine XS.ifNo X0.here hx rfl (hb hby at_30) rfl ((if0 _ _).trans (flt c30_7).1) ?_
          show Steps p.tables e below (s₁.setTop (mkF m 33 #[vI p0, vI v1, vI v2, vI v3, .unset] [])) _
          refine XS.iloadN X0.here hx rfl (hb hby at_33) rfl ?_
          show Steps p.tables e below (s₁.setTop (mkF m 34 #[vI p0, vI v1, vI v2, vI v3, .unset] [(.int v3)])) _
          refine XS.bipush X0.here hx rfl (hb hby at_34) ?_
          show Steps p.tables e below (s₁.setTop (mkF m 36 #[vI p0, vI v1, vI v2, vI v3, .unset] [(.int (10 : Int32)), (.int v3)])) _
          exact k)
        by_cases c36_13 : v3 < (10 : Int32)
        · skip
          have pre14 : Go p.tables e below S0 s₁ (mkF m 50 #[vI p0, vI v1, vI v2, vI v3, .unset] [(.int (1 : Int32))]) := fun t k => pre12 t (by
            refine XS.icmpYes X0.here hx rfl (pc0 := 36) (pc' := 45) rfl (hb hby at_36) rfl (tlt c36_13).1 (by decide) (by decide) ?_
            show Steps p.tables e below (s₁.setTop (mkF m 45 #[vI p0, vI v1, vI v2, vI v3, .unset] [])) _
            refine XS.iconst X0.here hx rfl (hb hby at_45) ?_
            show Steps p.tables e below (s₁.setTop (mkF m 46 #[vI p0, vI v1, vI v2, vI v3, .unset] [(.int (1 : Int32))])) _
            refine XS.goto X0.here hx rfl (pc0 := 46) (pc' := 50) rfl (hb hby at_46) (by decide) (by decide) ?_
            show Steps p.tables e below (s₁.setTop (mkF m 50 #[vI p0, vI v1, vI v2, vI v3, .unset] [(.int (1 : Int32))])) _
            exact k)
          exact tail38 ⟨(1 : Int32), (Or.inr (Or.inr (Or.inl ⟨rfl, c20_5, c30_7, c36_13⟩))), pre14⟩
        · skip
          have pre15 : Go p.tables e below S0 s₁ (mkF m 42 #[vI p0, vI v1, vI v2, vI v3, .unset] [(.int (95 : Int32)), (.int v1)]) := fun t k => pre12 t (by
            refine XS.icmpNo X0.here hx rfl (hb hby at_36) rfl (flt c36_13).1 ?_
            show Steps p.tables e below (s₁.setTop (mkF m 39 #[vI p0, vI v1, vI v2, vI v3, .unset] [])) _
            refine XS.iloadN X0.here hx rfl (hb hby at_39) rfl ?_
            show Steps p.tables e below (s₁.setTop (mkF m 40 #[vI p0, vI v1, vI v2, vI v3, .unset] [(.int v1)])) _
            refine XS.bipush X0.here hx rfl (hb hby at_40) ?_
            show Steps p.tables e below (s₁.setTop (mkF m 42 #[vI p0, vI v1, vI v2, vI v3, .unset] [(.int (95 : Int32)), (.int v1)])) _
            exact k)
          by_cases c42_16 : v1 = (95 : Int32)
          · skip
            have pre17 : Go p.tables e below S0 s₁ (mkF m 50 #[vI p0, vI v1, vI v2, vI v3, .unset] [(.int (1 : Int32))]) := fun t k => pre15 t (by
              refine XS.icmpNo X0.here hx rfl (hb hby at_42) rfl (teq c42_16).2 ?_
              show Steps p.tables e below (s₁.setTop (mkF m 45 #[vI p0, vI v1, vI v2, vI v3, .unset] [])) _
              refine XS.iconst X0.here hx rfl (hb hby at_45) ?_
              show Steps p.tables e below (s₁.setTop (mkF m 46 #[vI p0, vI v1, vI v2, vI v3, .unset] [(.int (1 : Int32))])) _
              refine XS.goto X0.here hx rfl (pc0 := 46) (pc' := 50) rfl (hb hby at_46) (by decide) (by decide) ?_
              show Steps p.tables e below (s₁.setTop (mkF m 50 #[vI p0, vI v1, vI v2, vI v3, .unset] [(.int (1 : Int32))])) _
              exact k)
            exact tail38 ⟨(1 : Int32), (Or.inr (Or.inr (Or.inr (Or.inl ⟨rfl, c20_5, c30_7, c36_13, c42_16⟩)))), pre17⟩
          · skip
            have pre18 : Go p.tables e below S0 s₁ (mkF m 50 #[vI p0, vI v1, vI v2, vI v3, .unset] [(.int (0 : Int32))]) := fun t k => pre15 t (by
              refine XS.icmpYes X0.here hx rfl (pc0 := 42) (pc' := 49) rfl (hb hby at_42) rfl (feq c42_16).2 (by decide) (by decide) ?_
              show Steps p.tables e below (s₁.setTop (mkF m 49 #[vI p0, vI v1, vI v2, vI v3, .unset] [])) _
              refine XS.iconst X0.here hx rfl (hb hby at_49) ?_
              show Steps p.tables e below (s₁.setTop (mkF m 50 #[vI p0, vI v1, vI v2, vI v3, .unset] [(.int (0 : Int32))])) _
              exact k)
            exact tail38 ⟨(0 : Int32), (Or.inr (Or.inr (Or.inr (Or.inr (Or.inl ⟨rfl, c20_5, c30_7, c36_13, c42_16⟩))))), pre18⟩
    · skip
      have pre19 : Go p.tables e below S0 s₁ (mkF m 26 #[vI p0, vI v1, vI v2, vI v3, .unset] [(.int (26 : Int32)), (.int v2)]) := fun t k => pre4 t (by
        refine XS.ifNo X0.here hx rfl (hb hby at_20) rfl ((if0 _ _).trans (flt c20_5).1) ?_
        show Steps p.tables e below (s₁.setTop (mkF m 23 #[vI p0, vI v1, vI v2, vI v3, .unset] [])) _
        refine XS.iloadN X0.here hx rfl (hb hby at_23) rfl ?_
        show Steps p.tables e below (s₁.setTop (mkF m 24 #[vI p0, vI v1, vI v2, vI v3, .unset] [(.int v2)])) _
        refine XS.bipush X0.here hx rfl (hb hby at_24) ?_
        show Steps p.tables e below (s₁.setTop (mkF m 26 #[vI p0, vI v1, vI v2, vI v3, .unset] [(.int (26 : Int32)), (.int v2)])) _
        exact k)
      by_cases c26_20 : v2 < (26 : Int32)
      · skip
        have pre21 : Go p.tables e below S0 s₁ (mkF m 50 #[vI p0, vI v1, vI v2, vI v3, .unset] [(.int (1 : Int32))]) := fun t k => pre19 t (by
          refine XS.icmpYes X0.here hx rfl (pc0 := 26) (pc' := 45) rfl (hb hby at_26) rfl (tlt c26_20).1 (by decide) (by decide) ?_
          show Steps p.tables e below (s₁.setTop (mkF m 45 #[vI p0, vI v1, vI v2, vI v3, .unset] [])) _
          refine XS.iconst X0.here hx rfl (hb hby at_45) ?_
          show Steps p.tables e below (s₁.setTop (mkF m 46 #[vI p0, vI v1, vI v2, vI v3, .unset] [(.int (1 : Int32))])) _
          refine XS.goto X0.here hx rfl (pc0 := 46) (pc' := 50) rfl (hb hby at_46) (by decide) (by decide) ?_
          show Steps p.tables e below (s₁.setTop (mkF m 50 #[vI p0, vI v1, vI v2, vI v3, .unset] [(.int (1 : Int32))])) _
          exact k)
        exact tail38 ⟨(1 : Int32), (Or.inr (Or.inr (Or.inr (Or.inr (Or.inr (Or.inl ⟨rfl, c20_5, c26_20⟩)))))), pre21⟩
      · skip
        have pre22 : Go p.tables e below S0 s₁ (mkF m 30 #[vI p0, vI v1, vI v2, vI v3, .unset] [(.int v3)]) := fun t k => pre19 t (by
          refine XS.icmpNo X0.here hx rfl (hb hby at_26) rfl (flt c26_20).1 ?_
          show Steps p.tables e below (s₁.setTop (mkF m 29 #[vI p0, vI v1, vI v2, vI v3, .unset] [])) _
          refine XS.iloadN X0.here hx rfl (hb hby at_29) rfl ?_
          show Steps p.tables e below (s₁.setTop (mkF m 30 #[vI p0, vI v1, vI v2, vI v3, .unset] [(.int v3)])) _
          exact k)
        by_cases c30_23 : v3 < (0 : Int32)
        · skip
          have pre24 : Go p.tables e below S0 s₁ (mkF m 42 #[vI p0, vI v1, vI v2, vI v3, .unset] [(.int (95 : Int32)), (.int v1)]) := fun t k => pre22 t (by
            refine XS.ifYes X0.here hx rfl (pc0 := 30) (pc' := 39) rfl (hb hby at_30) rfl ((if0 _ _).trans (tlt c30_23).1) (by decide) (by decide) ?_
            show Steps p.tables e below (s₁.setTop (mkF m 39 #[vI p0, vI v1, vI v2, vI v3, .unset] [])) _
            refine XS.iloadN X0.here hx rfl (hb hby at_39) rfl ?_
            show Steps p.tables e below (s₁.setTop (mkF m 40 #[vI p0, vI v1, vI v2, vI v3, .unset] [(.int v1)])) _
            refine XS.bipush X0.here hx rfl (hb hby at_40) ?_
            show Steps p.tables e below (s₁.setTop (mkF m 42 #[vI p0, vI v1, vI v2, vI v3, .unset] [(.int (95 : Int32)), (.int v1)])) _
            exact k)
          by_cases c42_25 : v1 = (95 : Int32)
          · skip
            have pre26 : Go p.tables e below S0 s₁ (mkF m 50 #[vI p0, vI v1, vI v2, vI v3, .unset] [(.int (1 : Int32))]) := fun t k => pre24 t (by
              refine XS.icmpNo X0.here hx rfl (hb hby at_42) rfl (teq c42_25).2 ?_
              show Steps p.tables e below (s₁.setTop (mkF m 45 #[vI p0, vI v1, vI v2, vI v3, .unset] [])) _
              refine XS.iconst X0.here hx rfl (hb hby at_45) ?_
              show Steps p.tables e below (s₁.setTop (mkF m 46 #[vI p0, vI v1, vI v2, vI v3, .unset] [(.int (1 : Int32))])) _
              refine XS.goto X0.here hx rfl (pc0 := 46) (pc' := 50) rfl (hb hby at_46) (by decide) (by decide) ?_
              show Steps p.tables e below (s₁.setTop (mkF m 50 #[vI p0, vI v1, vI v2, vI v3, .unset] [(.int (1 : Int32))])) _
              exact k)
            exact tail38 ⟨(1 : Int32), (Or.inr (Or.inr (Or.inr (Or.inr (Or.inr (Or.inr (Or.inl ⟨rfl, c20_5, c26_20, c30_23, c42_25⟩))))))), pre26⟩
          · skip
            have pre27 : Go p.tables e below S0 s₁ (mkF m 50 #[vI p0, vI v1, vI v2, vI v3, .unset] [(.int (0 : Int32))]) := fun t k => pre24 t (by
              refine XS.icmpYes X0.here hx rfl (pc0 := 42) (pc' := 49) rfl (hb hby at_42) rfl (feq c42_25).2 (by decide) (by decide) ?_
              show Steps p.tables e below (s₁.setTop (mkF m 49 #[vI p0, vI v1, vI v2, vI v3, .unset] [])) _
              refine XS.iconst X0.here hx rfl (hb hby at_49) ?_
              show Steps p.tables e below (s₁.setTop (mkF m 50 #[vI p0, vI v1, vI v2, vI v3, .unset] [(.int (0 : Int32))])) _
              exact k)
            exact tail38 ⟨(0 : Int32), (Or.inr (Or.inr (Or.inr (Or.inr (Or.inr (Or.inr (Or.inr (Or.inl ⟨rfl, c20_5, c26_20, c30_23, c42_25⟩)))))))), pre27⟩
        · skip
          have pre28 : Go p.tables e below S0 s₁ (mkF m 36 #[vI p0, vI v1, vI v2, vI v3, .unset] [(.int (10 : Int32)), (.int v3)]) := fun t k => pre22 t (by
            refine XS.ifNo X0.here hx rfl (hb hby at_30) rfl ((if0 _ _).trans (flt c30_23).1) ?_
            show Steps p.tables e below (s₁.setTop (mkF m 33 #[vI p0, vI v1, vI v2, vI v3, .unset] [])) _
            refine XS.iloadN X0.here hx rfl (hb hby at_33) rfl ?_
            show Steps p.tables e below (s₁.setTop (mkF m 34 #[vI p0, vI v1, vI v2, vI v3, .unset] [(.int v3)])) _
            refine XS.bipush X0.here hx rfl (hb hby at_34) ?_
            show Steps p.tables e below (s₁.setTop (mkF m 36 #[vI p0, vI v1, vI v2, vI v3, .unset] [(.int (10 : Int32)), (.int v3)])) _
            exact k)
          by_cases c36_29 : v3 < (10 : Int32)
          · skip
            have pre30 : Go p.tables e below S0 s₁ (mkF m 50 #[vI p0, vI v1, vI v2, vI v3, .unset] [(.int (1 : Int32))]) := fun t k => pre28 t (by
              refine XS.icmpYes X0.here hx rfl (pc0 := 36) (pc' := 45) rfl (hb hby at_36) rfl (tlt c36_29).1 (by decide) (by decide) ?_
              show Steps p.tables e below (s₁.setTop (mkF m 45 #[vI p0, vI v1, vI v2, vI v3, .unset] [])) _
              refine XS.iconst X0.here hx rfl (hb hby at_45) ?_
              show Steps p.tables e below (s₁.setTop (mkF m 46 #[vI p0, vI v1, vI v2, vI v3, .unset] [(.int (1 : Int32))])) _
              refine XS.goto X0.here hx rfl (pc0 := 46) (pc' := 50) rfl (hb hby at_46) (by decide) (by decide) ?_
              show Steps p.tables e below (s₁.setTop (mkF m 50 #[vI p0, vI v1, vI v2, vI v3, .unset] [(.int (1 : Int32))])) _
              exact k)
            exact tail38 ⟨(1 : Int32), (Or.inr (Or.inr (Or.inr (Or.inr (Or.inr (Or.inr (Or.inr (Or.inr (Or.inl ⟨rfl, c20_5, c26_20, c30_23, c36_29⟩))))))))), pre30⟩
          · skip
            have pre31 : Go p.tables e below S0 s₁ (mkF m 42 #[vI p0, vI v1, vI v2, vI v3, .unset] [(.int (95 : Int32)), (.int v1)]) := fun t k => pre28 t (by
              refine XS.icmpNo X0.here hx rfl (hb hby at_36) rfl (flt c36_29).1 ?_
              show Steps p.tables e below (s₁.setTop (mkF m 39 #[vI p0, vI v1, vI v2, vI v3, .unset] [])) _
              refine XS.iloadN X0.here hx rfl (hb hby at_39) rfl ?_
              show Steps p.tables e below (s₁.setTop (mkF m 40 #[vI p0, vI v1, vI v2, vI v3, .unset] [(.int v1)])) _
              refine XS.bipush X0.here hx rfl (hb hby at_40) ?_
              show Steps p.tables e below (s₁.setTop (mkF m 42 #[vI p0, vI v1, vI v2, vI v3, .unset] [(.int (95 : Int32)), (.int v1)])) _
              exact k)
            by_cases c42_32 : v1 = (95 : Int32)
            · skip
              have pre33 : Go p.tables e below S0 s₁ (mkF m 50 #[vI p0, vI v1, vI v2, vI v3, .unset] [(.int (1 : Int32))]) := fun t k => pre31 t (by
                refine XS.icmpNo X0.here hx rfl (hb hby at_42) rfl (teq c42_32).2 ?_
                show Steps p.tables e below (s₁.setTop (mkF m 45 #[vI p0, vI v1, vI v2, vI v3, .unset] [])) _
                refine XS.iconst X0.here hx rfl (hb hby at_45) ?_
                show Steps p.tables e below (s₁.setTop (mkF m 46 #[vI p0, vI v1, vI v2, vI v3, .unset] [(.int (1 : Int32))])) _
                refine XS.goto X0.here hx rfl (pc0 := 46) (pc' := 50) rfl (hb hby at_46) (by decide) (by decide) ?_
                show Steps p.tables e below (s₁.setTop (mkF m 50 #[vI p0, vI v1, vI v2, vI v3, .unset] [(.int (1 : Int32))])) _
                exact k)
              exact tail38 ⟨(1 : Int32), (Or.inr (Or.inr (Or.inr (Or.inr (Or.inr (Or.inr (Or.inr (Or.inr (Or.inr (Or.inl ⟨rfl, c20_5, c26_20, c30_23, c36_29, c42_32⟩)))))))))), pre33⟩
            · skip
              have pre34 : Go p.tables e below S0 s₁ (mkF m 50 #[vI p0, vI v1, vI v2, vI v3, .unset] [(.int (0 : Int32))]) := fun t k => pre31 t (by
                refine XS.icmpYes X0.here hx rfl (pc0 := 42) (pc' := 49) rfl (hb hby at_42) rfl (feq c42_32).2 (by decide) (by decide) ?_
                show Steps p.tables e below (s₁.setTop (mkF m 49 #[vI p0, vI v1, vI v2, vI v3, .unset] [])) _
                refine XS.iconst X0.here hx rfl (hb hby at_49) ?_
                show Steps p.tables e below (s₁.setTop (mkF m 50 #[vI p0, vI v1, vI v2, vI v3, .unset] [(.int (0 : Int32))])) _
                exact k)
              exact tail38 ⟨(0 : Int32), (Or.inr (Or.inr (Or.inr (Or.inr (Or.inr (Or.inr (Or.inr (Or.inr (Or.inr (Or.inr ⟨rfl, c20_5, c26_20, c30_23, c36_29, c42_32⟩)))))))))), pre34⟩
  rintro ⟨j50_s0_35, hj50_36, pre37⟩
  have key : own_bare v1 = j50_s0_35 := by
    rw [own_key _ (by rw [hv1]; exact own_char _), ← hv2, ← hv3]
    unfold own_exp
    rcases hj50_36 with ⟨rfl, q⟩ | ⟨rfl, q⟩ | ⟨rfl, q⟩ | ⟨rfl, q⟩ | ⟨rfl, q⟩ | ⟨rfl, q⟩ | ⟨rfl, q⟩ | ⟨rfl, q⟩ | ⟨rfl, q⟩ | ⟨rfl, q⟩ | ⟨rfl, q⟩ <;> simp [q]
  have pre39 : Go p.tables e below S0 s₁ (mkF m 53 #[vI p0, vI v1, vI v2, vI v3, vI j50_s0_35] [(.int v1)]) := fun t k => pre37 t (by
    refine XS.istore X0.here hx rfl (hb hby at_50) rfl (l' := #[vI p0, vI v1, vI v2, vI v3, vI j50_s0_35]) rfl ?_
    show Steps p.tables e below (s₁.setTop (mkF m 52 #[vI p0, vI v1, vI v2, vI v3, vI j50_s0_35] [])) _
    refine XS.iloadN X0.here hx rfl (hb hby at_52) rfl ?_
    show Steps p.tables e below (s₁.setTop (mkF m 53 #[vI p0, vI v1, vI v2, vI v3, vI j50_s0_35] [(.int v1)])) _
    exact k)
  obtain ⟨_, _, ⟨T40, L40, k40, n40⟩, -, X40, ⟨Lc40, hQ40, l40, y40, z40⟩, st40⟩ := Jvm.LawKit.callS X0 hx (y := (⟨"com/example/motiflow/motiflow/ExpressionReader", "isBareCharacter", "(C)Z"⟩ : MethodName)) hown (mvT hZ (hw _ (List.mem_of_getElem? (i := 1) rfl))) (mvT hZ (hw _ (List.mem_of_getElem? (i := 2) rfl))) (mvT hZ (hw _ (List.mem_of_getElem? (i := 3) rfl))) (mvT hZ (hw _ (List.mem_of_getElem? (i := 4) rfl))) (by decide) (backOf (W := 0) (rm1 l Z A0 hw [] v1 h0 n0 Z0) hZ (hw _ (List.mem_of_getElem? (i := 4) rfl)) (hw _ (List.mem_of_getElem? (i := 3) rfl)) (by decide) (by decide)) (g := (mkF m 53 #[vI p0, vI v1, vI v2, vI v3, vI j50_s0_35] [(.int v1)])) rfl (by rw [hml]; rfl) (argsL := [(.int v1)]) (rest := []) (lenOf pd_0 rfl) rfl (by show 2 * 0 + _ ≤ _; exact Nat.le_of_eq rfl) (hb hby at_53) (fun _ _ => ⟨rfl, e0, (by decide : 0 + 0 ≤ _), (by decide : 0 + 0 ≤ _)⟩)
  dsimp only [Pt.U, Pt.locs, Pt.cells, Pt.slots] at X40 l40 y40 z40 st40 hQ40
  subst l40 y40 z40
  obtain ⟨rfl, Nq40, eq40⟩ := hQ40
  have N40 := Fr.app N0 Nq40
  have pre40 : Go p.tables e below S0 T40 (mkF m 56 #[vI p0, vI v1, vI v2, vI v3, vI j50_s0_35] [(.int (own_bare v1))]) := fun t k => pre39 t (st40 t k)
  have pre41 : Go p.tables e below S0 T40 (mkF m 58 #[vI p0, vI v1, vI v2, vI v3, vI j50_s0_35] [(.int j50_s0_35), (.int (own_bare v1))]) := fun t k => pre40 t (by
    refine XS.iload X40.here hx rfl (hb hby at_56) rfl ?_
    show Steps p.tables e below (T40.setTop (mkF m 58 #[vI p0, vI v1, vI v2, vI v3, vI j50_s0_35] [(.int j50_s0_35), (.int (own_bare v1))])) _
    exact k)
  have cc42 : (own_bare v1) = j50_s0_35 := key
  have pre43 : Go p.tables e below S0 T40 (mkF m 66 #[vI p0, vI v1, vI v2, vI v3, vI j50_s0_35] [(.int (1 : Int32))]) := fun t k => pre41 t (by
    refine XS.icmpNo X40.here hx rfl (hb hby at_58) rfl (teq cc42).2 ?_
    show Steps p.tables e below (T40.setTop (mkF m 61 #[vI p0, vI v1, vI v2, vI v3, vI j50_s0_35] [])) _
    refine XS.iconst X40.here hx rfl (hb hby at_61) ?_
    show Steps p.tables e below (T40.setTop (mkF m 62 #[vI p0, vI v1, vI v2, vI v3, vI j50_s0_35] [(.int (1 : Int32))])) _
    refine XS.goto X40.here hx rfl (pc0 := 62) (pc' := 66) rfl (hb hby at_62) (by decide) (by decide) ?_
    show Steps p.tables e below (T40.setTop (mkF m 66 #[vI p0, vI v1, vI v2, vI v3, vI j50_s0_35] [(.int (1 : Int32))])) _
    exact k)
  obtain ⟨fs, hr, hrun, hended, hW, hsame⟩ := X40.leave (v := some (.int (1 : Int32))) (fun h => by rw [Bd.returns] at h; cases h)
  exact ⟨_, _, pre43.fin hS0 (retN X40 hx (t := .boolean) Bd.returns (by simp) (hb hby at_66) hr), hrun, hended, _, _, rfl, (by
    show Q0 Z p0 h0 n0 _ T40.heap _
    rw [eq40]
    exact ⟨rfl, N40⟩), ⟨_, rfl⟩, hW, hsame.mono (by decide) (by decide)⟩
set_option maxRecDepth 65536 in
set_option maxHeartbeats 40000000 in
theorem comes_1 {Post : Tables → Env → Array Value → State → Outcome → State → Prop} (hpost : ∀ tb e args s v u, (limb_1_1.after args s (.returned v) u = true ∧ limb_1_2.after args s (.returned v) u = true ∧ True) → FrameEnd s (.returned v) u (Jvm.fieldLocs frame_1_writes args s ++ Jvm.arrayLocs frame_1_arrays args s ++ Jvm.staticLocs frame_1_statics s) 0 0 → Post tb e args s (.returned v) u) :
    ArmFor flags0 classFile x code maxLocals ret World_1 tables_1 room_1 Calls_1 rest_1 Pre_1 Post := by
  intro l hfl _ _ p e ha hc hk s m args below hf hA hF happ hP
  obtain ⟨hcalls, hrest, hpre⟩ := hP
  obtain ⟨-, -, -, hnamed, -, -, -, hat⟩ := (Spec.applies_iff hf).mp happ
  obtain ⟨hg, hn⟩ := and_e (Cond.before_iff.mp (show (Jvm.Cond.and given_1 narrow_1).before args s = true from hpre))
  obtain ⟨g0, r0⟩ := and_e hg
  obtain ⟨w0, rfl⟩ : ∃ w0 : Value, args = #[w0] := by
    have hs : args.size = 1 := by simpa [Cond.value, given_1] using g0
    obtain ⟨L⟩ := args
    match L, hs with
    | [w0], _ => exact ⟨w0, rfl⟩
  have hw := fun d (hd : d ∈ tables_1) => atoms_spec (ws := Jvm.Cond.code x code maxLocals ret :: tables_1) hat d (List.mem_cons_of_mem _ hd)
  obtain ⟨i0, ei0⟩ := is_v r0
  obtain rfl : w0 = (.int i0) := Option.some.inj ei0
  obtain ⟨n, o, h1, h2, h3, _, L, rfl, ⟨rfl, N⟩, hq⟩ := rm0 l s _ hw tables_1 i0  s.heap s.heap.size (Nat.le_refl _) p e ha hc hk s m _ below hf ((Spec.applies_iff_loose hf).mp happ).1 ⟨rfl, State.Warmed39.refl s, rfl⟩ trivial
  refine ⟨n, _, h1, h2, h3, hpost _ _ _ _ _ _ ⟨Cond.after_iff.mpr rfl, Cond.after_iff.mpr (eq_i res_at (Term.int_eval (1)) rfl), trivial⟩ ⟨hq.1, hq.2.1, (hq.2.2.sift fun y hy => Or.inr (N y hy)).mono (by decide) (by decide)⟩⟩
theorem main_1_1 : Claimed_1_1 := comes_1 fun _ _ _ _ _ _ h hF => ⟨h.1, hF⟩
theorem main_1_2 : Claimed_1_2 := comes_1 fun _ _ _ _ _ _ h hF => ⟨h.2.1, hF⟩
end Jvm.Pilot.@@N@@
namespace Jvm.Pilot.@@N@@
open Jvm Jvm.ClassFile Sem Op Lib Jvm.Free Jvm.Stand Jvm.Pilot.@@N@@.Jvm.D
/-! MADE BY PROGRAM (witnessworld.py) out of the Statement's table words and the real class files: 9 classes; the members and pool entries that the words name. The judged class is class 1, her method 1. -/
namespace start1
open Jvm.ClassFile
def u (s : String) : CpInfo := .utf8 (stringToUtf16 s)
/-- a pool by its gaps: so many unusable entries, then the entry; so many at the end -/
def gap : Nat → List CpInfo → List CpInfo
  | 0, r => r
  | n + 1, r => .unusable :: gap n r
def poolList (es : List (Nat × CpInfo)) (last : Nat) : List CpInfo := es.foldr (fun e r => gap e.1 (e.2 :: r)) (gap last [])
def pool (es : List (Nat × CpInfo)) (last : Nat) : Array CpInfo := ⟨poolList es last⟩
def fileOf (pool : Array CpInfo) (this : Nat) (attrs : Array Attribute := #[]) (ms : Array MethodInfo := #[]) (fl : Nat := 33) (sup : Nat := 0) (ifs : Array Nat := #[]) (fds : Array FieldInfo := #[]) : ClassFile where
  minorVersion := 0
  majorVersion := 65
  constantPool := pool
  accessFlags := fl
  thisClass := this
  superClass := sup
  interfaces := ifs
  fields := fds
  methods := ms
  attributes := attrs
def plain (name : String) (sup : Option ClassId) : Class where
  name := name
  kind := .ordinary
  loader := none
  accessFlags := 33
  super := sup
  interfaces := #[]
  cf := none
  fields := #[]
  methods := #[]
  instanceTypes := #[]
  staticTypes := #[]
  resolved := #[]
  callSites := []
  init := .initialized
  statics := none
  mirror := none

def pool0 : Array CpInfo := pool [(5, u "<init>"), (0, u "()V"), (1, .class_ 10), (1, u "java/lang/Object")] 113

def k0m0 : Method := { name := "<init>", desc := "()V", sig := { parameters := [], returnType := none }, accessFlags := 1, code := none }
/-- java/lang/Object -/
def k0 : Class := { plain "java/lang/Object" none with
  accessFlags := 33
  interfaces := #[]
  cf := some (fileOf pool0 8 #[] #[{ accessFlags := 1, nameIndex := 5, descriptorIndex := 6, attributes := #[] }] 33 0 #[] #[])
  fields := #[]
  methods := #[k0m0]
  instanceTypes := #[]
  staticTypes := #[]
  resolved := Array.replicate 124 none
  statics := none }

def pool1 : Array CpInfo := pool [(2, .class_ 4), (1, u "java/lang/Object"), (0, u "<init>"), (0, u "()V"), (0, .integer 65535), (0, .methodref 9 10), (0, .class_ 11), (0, .nameAndType 12 13), (0, u "com/example/motiflow/motiflow/ExpressionReader"), (0, u "isBareCharacter"), (0, u "(C)Z"), (0, .class_ 15), (0, u "com/example/motiflow/motiflow/ExpressionReaderIsBareCharacterPinLaw"), (2, u "law"), (0, u "(I)Z")] 3

def k1m0 : Method := { name := "<init>", desc := "()V", sig := { parameters := [], returnType := none }, accessFlags := 1, code := none }
def k1c1 : Code := { maxStack := 2, maxLocals := 5, code := code, exceptionTable := #[], attributes := #[] }
def k1m1 : Method := { name := "law", desc := "(I)Z", sig := { parameters := [.int], returnType := some .boolean }, accessFlags := 9, code := some k1c1 }
/-- com/example/motiflow/motiflow/ExpressionReaderIsBareCharacterPinLaw -/
def k1 : Class := { plain "com/example/motiflow/motiflow/ExpressionReaderIsBareCharacterPinLaw" (some 0) with
  accessFlags := 49
  interfaces := #[]
  cf := some (fileOf pool1 14 #[] #[{ accessFlags := 1, nameIndex := 5, descriptorIndex := 6, attributes := #[] }, { accessFlags := 9, nameIndex := 18, descriptorIndex := 19, attributes := #[] }] 49 2 #[] #[])
  fields := #[]
  methods := #[k1m0, k1m1]
  instanceTypes := #[]
  staticTypes := #[]
  resolved := Array.replicate 23 none
  statics := none }

def pool2 : Array CpInfo := pool [(2, .class_ 4), (1, u "java/lang/Object"), (3, .class_ 10), (1, u "com/example/motiflow/motiflow/ExpressionReader"), (0, u "text"), (0, u "Ljava/lang/String;"), (2, u "what"), (2, u "position"), (0, u "I"), (22, u "(C)Z"), (87, u "isBareCharacter"), (0, u "TAU")] 42

def k2c0 : Code := { maxStack := 2, maxLocals := 1, code := prog_54_method_2_code, exceptionTable := #[], attributes := #[] }
def k2m0 : Method := { name := "isBareCharacter", desc := "(C)Z", sig := { parameters := [.char], returnType := some .boolean }, accessFlags := 8, code := some k2c0 }
/-- com/example/motiflow/motiflow/ExpressionReader -/
def k2 : Class := { plain "com/example/motiflow/motiflow/ExpressionReader" (some 0) with
  accessFlags := 32
  interfaces := #[]
  cf := some (fileOf pool2 8 #[] #[{ accessFlags := 8, nameIndex := 130, descriptorIndex := 42, attributes := #[] }] 32 2 #[] #[{ accessFlags := 24, nameIndex := 131, descriptorIndex := 12, attributes := #[] }, { accessFlags := 18, nameIndex := 11, descriptorIndex := 12, attributes := #[] }, { accessFlags := 18, nameIndex := 15, descriptorIndex := 12, attributes := #[] }, { accessFlags := 2, nameIndex := 18, descriptorIndex := 19, attributes := #[] }])
  fields := #[{ name := "TAU", type := (.object "java/lang/String"), accessFlags := 24, slot := 0, constantValue := 0 }, { name := "text", type := (.object "java/lang/String"), accessFlags := 18, slot := 0, constantValue := 0 }, { name := "what", type := (.object "java/lang/String"), accessFlags := 18, slot := 1, constantValue := 0 }, { name := "position", type := .int, accessFlags := 2, slot := 2, constantValue := 0 }]
  methods := #[k2m0]
  instanceTypes := #[(.object "java/lang/String"), (.object "java/lang/String"), .int]
  staticTypes := #[(.object "java/lang/String")]
  resolved := Array.replicate 174 none
  statics := none }

def pool3 : Array CpInfo := pool [(1, u "java/lang/Cloneable"), (0, .class_ 1), (0, u "java/lang/Object"), (0, .class_ 3)] 3

/-- java/lang/Cloneable -/
def k3 : Class := { plain "java/lang/Cloneable" (some 0) with
  accessFlags := 1537
  interfaces := #[]
  cf := some (fileOf pool3 2 #[] #[] 1537 4 #[] #[])
  fields := #[]
  methods := #[]
  instanceTypes := #[]
  staticTypes := #[]
  resolved := Array.replicate 8 none
  statics := none }

def pool4 : Array CpInfo := pool [(1, u "java/io/Serializable"), (0, .class_ 1), (0, u "java/lang/Object"), (0, .class_ 3)] 3

/-- java/io/Serializable -/
def k4 : Class := { plain "java/io/Serializable" (some 0) with
  accessFlags := 1537
  interfaces := #[]
  cf := some (fileOf pool4 2 #[] #[] 1537 4 #[] #[])
  fields := #[]
  methods := #[]
  instanceTypes := #[]
  staticTypes := #[]
  resolved := Array.replicate 8 none
  statics := none }

/-- the primitive byte -/
def k5 : Class := { plain "byte" none with kind := .primitive 'B', accessFlags := 0x411 }
/-- [B -/
def k6 : Class := { plain "[B" (some 0) with kind := .array 5 .byte, interfaces := #[3, 4], accessFlags := 1041 }

/-- the primitive int -/
def k7 : Class := { plain "int" none with kind := .primitive 'I', accessFlags := 0x411 }
/-- [I -/
def k8 : Class := { plain "[I" (some 0) with kind := .array 7 .int, interfaces := #[3, 4], accessFlags := 1041 }

def heap : Heap := #[]
def classes : Array Class := #[k0, k1, k2, k3, k4, k5, k6, k7, k8]
def interned : List (Array UInt16 × Addr) := []
def slotsUsed : Nat := 0
def theMethod : MethodId := ⟨1, 1⟩
def args0 : Array Value := #[.int 5]
def aboutOver (below : List Frame) : State where
  vm := { classes := classes, interned := interned.toArray }
  heap := heap
  slotsUsed := slotsUsed
  threads := #[{ frames := .invoking theMethod args0 :: below }]
def below0 : List Frame := [.native { method := ⟨0, 0⟩, args := #[] }]
def about1 : State := aboutOver below0
def p0 : Program := .bare "" "" ""
def e0 : Env := launch0.env 0 0 0
theorem w_frames : about1.frames = Frame.invoking theMethod args0 :: below0 := rfl
set_option maxRecDepth 65536 in
theorem w_args : argsFit about1.vm theMethod args0 = true := by decide +kernel
set_option maxRecDepth 65536 in
theorem w_heap : heapFits about1 = true := by decide +kernel
set_option maxRecDepth 65536 in
theorem w_runnable : about1.curStatus? = some .runnable := by decide +kernel
set_option maxRecDepth 65536 in
theorem w_alone : about1.alone = true := by decide +kernel
set_option maxRecDepth 65536 in
theorem w_named : about1.methodNamed? x = some theMethod := by decide +kernel
set_option maxRecDepth 65536 in
theorem w_hears : about1.hears theMethod below0 = true := by decide +kernel
set_option maxRecDepth 65536 in
theorem w_ripe : about1.ripe theMethod args0 below0 = true := by decide +kernel
theorem w_running : about1.status = .running := rfl
set_option maxRecDepth 65536 in
theorem w_room : about1.hasRoom e0.platform room_1 = true :=
  launch0.hasRoom_least _ room_1 (by decide +kernel) (by decide +kernel) (by decide +kernel) (by decide +kernel) (by decide +kernel) (by decide +kernel)
theorem allAtoms_all (ts : List Jvm.Cond) (a : Array Jvm.Value) (st : Jvm.State) : (allAtoms ts).before a st = ts.all (fun c => c.before a st) := by
  induction ts with
  | nil => rfl
  | cons c t ih =>
    show (Jvm.Cond.and c (allAtoms t)).before a st = _
    rw [Jvm.Cond.before_and, ih, List.all_cons]
def words1 : List Jvm.Cond := Jvm.Cond.code x code maxLocals ret :: tables_1
/-- a 'code' word, met by the world's own term for the bytes: nothing is compared byte by byte -/
theorem code_word {y : MethodName} {bytes : ByteArray} {mx : Nat} {rt : Option FieldType} {a : Array Value} {s : State} {m : MethodId} {meth : Method} {c : Code} (h1 : s.methodNamed? y = some m) (h2 : s.vm.method? m = some meth) (h3 : meth.code = some c) (h4 : c.code = bytes)
    (h5 : (c.maxLocals == mx && c.exceptionTable.isEmpty && decide (c.maxStack ≤ mostOperands) && decide (meth.sig.returnType = rt) && !meth.locks && decide (parseMethodDescriptor y.desc = some meth.sig)) = true) : (Jvm.Cond.code y bytes mx rt).before a s = true := by
  simp only [Bool.and_eq_true, beq_iff_eq, Bool.not_eq_true', decide_eq_true_eq] at h5
  obtain ⟨⟨⟨⟨⟨g1, g2⟩, g3⟩, g4⟩, g5⟩, g6⟩ := h5
  simp [Cond.before, Cond.holds, Cond.value, h1, h2, h3, h4, g1, g2, g3, g4, g5, g6]
def isCode : Jvm.Cond → Bool
  | .code _ _ _ _ => true
  | _ => false
theorem all_split {L : List Jvm.Cond} {P : Jvm.Cond → Bool} (h1 : L.all (fun c => isCode c || P c) = true) (h2 : ∀ c ∈ L.filter isCode, P c = true) : L.all P = true := by
  refine List.all_eq_true.mpr fun c hc => ?_
  have h := List.all_eq_true.mp h1 c hc
  rcases Bool.eq_false_or_eq_true (isCode c) with hi | hi
  · exact h2 c (List.mem_filter.mpr ⟨hc, hi⟩)
  · simpa [hi] using h
set_option maxRecDepth 65536 in
theorem w_c0 : (Jvm.Cond.code x code maxLocals ret).before args0 about1 = true := code_word (m := ⟨1, 1⟩) (meth := k1m1) (c := k1c1) (by decide +kernel) rfl rfl rfl (by decide +kernel)
set_option maxRecDepth 65536 in
theorem w_c1 : (Jvm.Cond.code ({ cls := "com/example/motiflow/motiflow/ExpressionReader", name := "isBareCharacter", desc := "(C)Z" } : Jvm.MethodName) prog_54_method_2_code (1 : Nat) (Option.some Jvm.ClassFile.FieldType.boolean)).before args0 about1 = true := code_word (m := ⟨2, 0⟩) (meth := k2m0) (c := k2c0) (by decide +kernel) rfl rfl rfl (by decide +kernel)
def codes1 : List Jvm.Cond := [Jvm.Cond.code x code maxLocals ret, Jvm.Cond.code ({ cls := "com/example/motiflow/motiflow/ExpressionReader", name := "isBareCharacter", desc := "(C)Z" } : Jvm.MethodName) prog_54_method_2_code (1 : Nat) (Option.some Jvm.ClassFile.FieldType.boolean)]
set_option maxRecDepth 65536 in
theorem codes_eq : words1.filter isCode = codes1 := rfl
theorem w_codes : ∀ c ∈ words1.filter isCode, c.before args0 about1 = true := by
  rw [codes_eq]
  intro c hc
  simp only [codes1, List.mem_cons, List.not_mem_nil, or_false] at hc
  rcases hc with rfl | rfl
  · exact w_c0
  · exact w_c1
set_option maxRecDepth 65536 in
theorem w_t1 : words1.all (fun c => isCode c || c.before args0 about1) = true := by decide +kernel
theorem w_tables : (allAtoms (Jvm.Cond.code x code maxLocals ret :: tables_1)).before args0 about1 = true := by
  rw [allAtoms_all]
  show words1.all (fun c => c.before args0 about1) = true
  refine all_split ?_ w_codes
  rw [w_t1]
set_option maxRecDepth 65536 in
theorem w_case : (Jvm.Cond.and given_1 narrow_1).before args0 about1 = true := by decide +kernel
theorem w_applies : (headSpec (Jvm.Cond.code x code maxLocals ret :: tables_1) room_1).applies x e0.platform about1 = true :=
  (Spec.applies_iff w_frames).mpr ⟨w_running, w_runnable, w_alone, w_named, w_hears, w_ripe, w_room, w_tables⟩
theorem atStart : AtStart classFile x code maxLocals ret World_1 tables_1 room_1 Calls_1 rest_1 Pre_1 launch0 p0 e0 about1 theMethod args0 below0 :=
  ⟨lists_1, trivial, launch0.admits_env _ _ _, launch0.least_env, fairChoices_fair.cas, fairChoices_fair.clock, w_frames, w_args, w_heap, w_applies, trivial, trivial, w_case⟩
end start1
theorem witness_1 : WitnessClaimed_1 := ⟨start1.p0, start1.e0, start1.about1, start1.theMethod, start1.args0, start1.below0, start1.atStart⟩
end Jvm.Pilot.@@N@@
