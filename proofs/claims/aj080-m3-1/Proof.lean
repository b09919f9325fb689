import JvmDerived
import JvmDerived.Pilot.@@N@@Statement
import JvmDerived.Pilot.@@N@@Code
set_option linter.unusedVariables false
set_option linter.unusedSimpArgs false
namespace Jvm.RoadKit
open Sem ClassFile Op Lib Jvm.Stand Jvm.Free Jvm.LawKit
abbrev vI (x : Int32) : Slot := .val (.int x)
abbrev vJ (x : Int64) : Slot := .val (.long x)
abbrev vR (a : Addr) : Slot := .val (.ref a)
/-- from S0 the run comes to T with g on top -/
def Go (tb : Tables) (e : Env) (below : List Frame) (S0 T : State) (g : JFrame) : Prop := ∀ t, Steps tb e below (T.setTop g) t → Steps tb e below S0 t
theorem Go.fin {tb : Tables} {e : Env} {below : List Frame} {S0 S T t : State} {g : JFrame} (h : Go tb e below S0 T g) (q : S0 = S) (k : Steps tb e below (T.setTop g) t) : Steps tb e below S t := q ▸ h t k
section New
variable {p : Program} {l : Launch} {e : Env} {R : Room} {s : State} {m : MethodId} {args : Array Value} {below : List Frame} {meth : Method} {c : Code} {T : State} {locs : List Loc} {cells slots : Nat}
end New
end Jvm.RoadKit
namespace Jvm.Pilot.@@N@@
open Jvm Jvm.ClassFile Sem Op Lib Jvm.Free Jvm.Stand Jvm.LawKit Jvm.RoadKit Bundle Jvm.Pilot.@@N@@.Jvm.D
def own_isc_42 (p0 : Int32) : Int32 := if p0 < (65536 : Int32) then ((0 : Int32)) else (if (1114111 : Int32) < p0 then ((0 : Int32)) else ((1 : Int32)))
def own_isc_12 (p0 : Int32) : Int32 := if p0 = (9 : Int32) then ((1 : Int32)) else (if p0 = (10 : Int32) then ((1 : Int32)) else (if p0 = (13 : Int32) then ((1 : Int32)) else (if p0 < (57344 : Int32) then (own_isc_42 p0) else (if (65533 : Int32) < p0 then (own_isc_42 p0) else ((1 : Int32))))))
def own_isc (p0 : Int32) : Int32 := if p0 < (32 : Int32) then (own_isc_12 p0) else (if (55295 : Int32) < p0 then (own_isc_12 p0) else ((1 : Int32)))
theorem ef_1 (m : MethodId) (x0 : Int32) : entryFrame m #[(.int x0)] 1 = mkF m 0 #[.val (.int x0)] [] := by first | (simp [entryFrame, mkF, argsToLocals, Value.category]; done) | rfl
theorem pn_0 : plainName "com/example/ratatoskr/ratatoskr/xml/XmlChars" = true := by first | (simp [plainName, overriddenIn]; done) | decide +kernel
theorem d1_0 : decode prog_118_method_2_code 0 = .ok (.iload_n 0, 1) := by decide +kernel
theorem d1_1 : decode prog_118_method_2_code 1 = .ok (.bipush 32, 2) := by decide +kernel
theorem d1_3 : decode prog_118_method_2_code 3 = .ok (.if_icmp .lt 9, 3) := by decide +kernel
theorem d1_6 : decode prog_118_method_2_code 6 = .ok (.iload_n 0, 1) := by decide +kernel
theorem d1_7 : decode prog_118_method_2_code 7 = .ok (.ldc 7, 2) := by decide +kernel
theorem d1_9 : decode prog_118_method_2_code 9 = .ok (.if_icmp .le 45, 3) := by decide +kernel
theorem d1_12 : decode prog_118_method_2_code 12 = .ok (.iload_n 0, 1) := by decide +kernel
theorem d1_13 : decode prog_118_method_2_code 13 = .ok (.bipush 9, 2) := by decide +kernel
theorem d1_15 : decode prog_118_method_2_code 15 = .ok (.if_icmp .eq 39, 3) := by decide +kernel
theorem d1_18 : decode prog_118_method_2_code 18 = .ok (.iload_n 0, 1) := by decide +kernel
theorem d1_19 : decode prog_118_method_2_code 19 = .ok (.bipush 10, 2) := by decide +kernel
theorem d1_21 : decode prog_118_method_2_code 21 = .ok (.if_icmp .eq 33, 3) := by decide +kernel
theorem d1_24 : decode prog_118_method_2_code 24 = .ok (.iload_n 0, 1) := by decide +kernel
theorem d1_25 : decode prog_118_method_2_code 25 = .ok (.bipush 13, 2) := by decide +kernel
theorem d1_27 : decode prog_118_method_2_code 27 = .ok (.if_icmp .eq 27, 3) := by decide +kernel
theorem d1_30 : decode prog_118_method_2_code 30 = .ok (.iload_n 0, 1) := by decide +kernel
theorem d1_31 : decode prog_118_method_2_code 31 = .ok (.ldc 8, 2) := by decide +kernel
theorem d1_33 : decode prog_118_method_2_code 33 = .ok (.if_icmp .lt 9, 3) := by decide +kernel
theorem d1_36 : decode prog_118_method_2_code 36 = .ok (.iload_n 0, 1) := by decide +kernel
theorem d1_37 : decode prog_118_method_2_code 37 = .ok (.ldc 9, 2) := by decide +kernel
theorem d1_39 : decode prog_118_method_2_code 39 = .ok (.if_icmp .le 15, 3) := by decide +kernel
theorem d1_42 : decode prog_118_method_2_code 42 = .ok (.iload_n 0, 1) := by decide +kernel
theorem d1_43 : decode prog_118_method_2_code 43 = .ok (.ldc 10, 2) := by decide +kernel
theorem d1_45 : decode prog_118_method_2_code 45 = .ok (.if_icmp .lt 13, 3) := by decide +kernel
theorem d1_48 : decode prog_118_method_2_code 48 = .ok (.iload_n 0, 1) := by decide +kernel
theorem d1_49 : decode prog_118_method_2_code 49 = .ok (.ldc 11, 2) := by decide +kernel
theorem d1_51 : decode prog_118_method_2_code 51 = .ok (.if_icmp .gt 7, 3) := by decide +kernel
theorem d1_54 : decode prog_118_method_2_code 54 = .ok (.iconst 1, 1) := by decide +kernel
theorem d1_55 : decode prog_118_method_2_code 55 = .ok (.goto 4, 3) := by decide +kernel
theorem d1_58 : decode prog_118_method_2_code 58 = .ok (.iconst 0, 1) := by decide +kernel
theorem d1_59 : decode prog_118_method_2_code 59 = .ok (.ireturn, 1) := by decide +kernel
def Q1 (Z : State) (p0 : Int32) (h0 : Heap) (n0 : Nat) (v : Option Value) (h : Heap) (L : List Loc) : Prop := v = some (.int (own_isc p0)) ∧ Fr n0 L ∧ h = h0
set_option maxRecDepth 65536 in
set_option maxHeartbeats 40000000 in
theorem rm1 (l : Launch) (Z : State) (A0 : Array Value) (hw : ∀ d ∈ tables_1, d.before A0 Z = true) (ws : List Jvm.Cond) (p0 : Int32)  (h0 : Heap) (n0 : Nat) (Z0 : n0 ≤ h0.size)  :
    MetFree l (⟨"com/example/ratatoskr/ratatoskr/xml/XmlChars", "isChar", "(I)Z"⟩ : MethodName) (head1 (Jvm.Cond.code (⟨"com/example/ratatoskr/ratatoskr/xml/XmlChars", "isChar", "(I)Z"⟩ : MethodName) prog_118_method_2_code 1 (some .boolean) :: ws) ({ frames := 0, cells := 0, slots := 0, locals := 0 } : Room)) (fun a U => a = #[(.int p0)] ∧ Z.Warmed39 U.vm ∧ U.heap = h0) (fun _ _ _ _ _ => True) (fun _ U o U' => ∃ v L, o = .returned v ∧ Q1 Z p0 h0 n0 v U'.heap L ∧ FrameEnd U o U' L ({ frames := 0, cells := 0, slots := 0, locals := 0 } : Room).cells ({ frames := 0, cells := 0, slots := 0, locals := 0 } : Room).slots) := by
  refine MetFree.of_bodySF (plainFor_of_name pn_0) hisR ?_
  intro p e s m args below meth c s₁ Bd hml0 hP hK
  obtain ⟨rfl, hZ, hh⟩ := hP
  have hx := Bd.exec
  have hby := Bd.bytes
  have hml : c.maxLocals = 1 := hml0
  have hown : s.vm.findClass "com/example/ratatoskr/ratatoskr/xml/XmlChars" = some m.cls := findClass_of_methodNamed Bd.named
  have hnm := (name_of_methodNamed Bd.named Bd.method).1
  have X0 : Stand p l e ({ frames := 0, cells := 0, slots := 0, locals := 0 } : Room) s m #[(.int p0)] below meth c s₁ [] 0 0 := Stand.of_body Bd
  have e0 : s₁.heap = h0 := by rw [← hh, Bd.state]; rfl
  have N0 := Fr.nil n0
  obtain ⟨S0, hS0⟩ : ∃ z, z = s₁.setTop (entryFrame m #[(.int p0)] 1) := ⟨_, rfl⟩
  have pre0 : Go p.tables e below S0 s₁ (mkF m 0 #[vI p0] []) := fun t k => by rw [hS0]; exact castTop (ef_1 m p0) k
  have pre1 : Go p.tables e below S0 s₁ (mkF m 3 #[vI p0] [(.int (32 : Int32)), (.int p0)]) := fun t k => pre0 t (by
    refine XS.iloadN X0.here hx rfl (hb hby d1_0) rfl ?_
    show Steps p.tables e below (s₁.setTop (mkF m 1 #[vI p0] [(.int p0)])) _
    refine XS.bipush X0.here hx rfl (hb hby d1_1) ?_
    show Steps p.tables e below (s₁.setTop (mkF m 3 #[vI p0] [(.int (32 : Int32)), (.int p0)])) _
    exact k)
  refine cps (A := (own_isc p0 = own_isc_12 p0) ∧ (Go p.tables e below S0 s₁ (mkF m 12 #[vI p0] []))) (fun tail10 => ?_) ?_
  · skip
    by_cases c3_2 : p0 < (32 : Int32)
    · skip
      have pre3 : Go p.tables e below S0 s₁ (mkF m 12 #[vI p0] []) := fun t k => pre1 t (by
        refine XS.icmpYes X0.here hx rfl (pc0 := 3) (pc' := 12) rfl (hb hby d1_3) rfl (tlt c3_2).1 (by decide) (by decide) ?_
        show Steps p.tables e below (s₁.setTop (mkF m 12 #[vI p0] [])) _
        exact k)
      exact tail10 ⟨(by simp [own_isc, c3_2]), pre3⟩
    · skip
      have pre4 : Go p.tables e below S0 s₁ (mkF m 9 #[vI p0] [(.int (55295 : Int32)), (.int p0)]) := fun t k => pre1 t (by
        refine XS.icmpNo X0.here hx rfl (hb hby d1_3) rfl (flt c3_2).1 ?_
        show Steps p.tables e below (s₁.setTop (mkF m 6 #[vI p0] [])) _
        refine XS.iloadN X0.here hx rfl (hb hby d1_6) rfl ?_
        show Steps p.tables e below (s₁.setTop (mkF m 7 #[vI p0] [(.int p0)])) _
        refine X0.ldcInt hx hown (mvT hZ (hw _ (List.mem_of_getElem? (i := 23) rfl))) (g := (mkF m 7 #[vI p0] [(.int p0)])) rfl (hb hby d1_7) _ ?_
        show Steps p.tables e below (s₁.setTop (mkF m 9 #[vI p0] [(.int (55295 : Int32)), (.int p0)])) _
        exact k)
      by_cases c9_5 : (55295 : Int32) < p0
      · skip
        have pre6 : Go p.tables e below S0 s₁ (mkF m 12 #[vI p0] []) := fun t k => pre4 t (by
          refine XS.icmpNo X0.here hx rfl (hb hby d1_9) rfl (tlt c9_5).2.2.2 ?_
          show Steps p.tables e below (s₁.setTop (mkF m 12 #[vI p0] [])) _
          exact k)
        exact tail10 ⟨(by simp [own_isc, c3_2, c9_5]), pre6⟩
      · skip
        have pre7 : Go p.tables e below S0 s₁ (mkF m 59 #[vI p0] [(.int (1 : Int32))]) := fun t k => pre4 t (by
          refine XS.icmpYes X0.here hx rfl (pc0 := 9) (pc' := 54) rfl (hb hby d1_9) rfl (flt c9_5).2.2.2 (by decide) (by decide) ?_
          show Steps p.tables e below (s₁.setTop (mkF m 54 #[vI p0] [])) _
          refine XS.iconst X0.here hx rfl (hb hby d1_54) ?_
          show Steps p.tables e below (s₁.setTop (mkF m 55 #[vI p0] [(.int (1 : Int32))])) _
          refine XS.goto X0.here hx rfl (pc0 := 55) (pc' := 59) rfl (hb hby d1_55) (by decide) (by decide) ?_
          show Steps p.tables e below (s₁.setTop (mkF m 59 #[vI p0] [(.int (1 : Int32))])) _
          exact k)
        obtain ⟨fs, hr, hrun, hended, hW, hsame⟩ := X0.leave (v := some (.int (1 : Int32))) (fun h => by rw [Bd.returns] at h; cases h)
        exact ⟨_, _, pre7.fin hS0 (retN X0 hx (t := .boolean) Bd.returns (by simp) (hb hby d1_59) hr), hrun, hended, _, _, rfl, (by
          show Q1 Z p0 h0 n0 _ s₁.heap _
          rw [e0]
          exact ⟨congrArg (fun z => some (Value.int z)) (by simp [own_isc, c3_2, c9_5]), N0, rfl⟩), ⟨_, rfl⟩, hW, hsame.mono (by decide) (by decide)⟩
  rintro ⟨hj12_8, pre9⟩
  have pre11 : Go p.tables e below S0 s₁ (mkF m 15 #[vI p0] [(.int (9 : Int32)), (.int p0)]) := fun t k => pre9 t (by
    refine XS.iloadN X0.here hx rfl (hb hby d1_12) rfl ?_
    show Steps p.tables e below (s₁.setTop (mkF m 13 #[vI p0] [(.int p0)])) _
    refine XS.bipush X0.here hx rfl (hb hby d1_13) ?_
    show Steps p.tables e below (s₁.setTop (mkF m 15 #[vI p0] [(.int (9 : Int32)), (.int p0)])) _
    exact k)
  by_cases c15_12 : p0 = (9 : Int32)
  · skip
    have pre13 : Go p.tables e below S0 s₁ (mkF m 59 #[vI p0] [(.int (1 : Int32))]) := fun t k => pre11 t (by
      refine XS.icmpYes X0.here hx rfl (pc0 := 15) (pc' := 54) rfl (hb hby d1_15) rfl (teq c15_12).1 (by decide) (by decide) ?_
      show Steps p.tables e below (s₁.setTop (mkF m 54 #[vI p0] [])) _
      refine XS.iconst X0.here hx rfl (hb hby d1_54) ?_
      show Steps p.tables e below (s₁.setTop (mkF m 55 #[vI p0] [(.int (1 : Int32))])) _
      refine XS.goto X0.here hx rfl (pc0 := 55) (pc' := 59) rfl (hb hby d1_55) (by decide) (by decide) ?_
      show Steps p.tables e below (s₁.setTop (mkF m 59 #[vI p0] [(.int (1 : Int32))])) _
      exact k)
    obtain ⟨fs, hr, hrun, hended, hW, hsame⟩ := X0.leave (v := some (.int (1 : Int32))) (fun h => by rw [Bd.returns] at h; cases h)
    exact ⟨_, _, pre13.fin hS0 (retN X0 hx (t := .boolean) Bd.returns (by simp) (hb hby d1_59) hr), hrun, hended, _, _, rfl, (by
      show Q1 Z p0 h0 n0 _ s₁.heap _
      rw [e0]
      exact ⟨congrArg (fun z => some (Value.int z)) (by rw [hj12_8]; simp [own_isc_12, c15_12]), N0, rfl⟩), ⟨_, rfl⟩, hW, hsame.mono (by decide) (by decide)⟩
  · skip
    have pre14 : Go p.tables e below S0 s₁ (mkF m 21 #[vI p0] [(.int (10 : Int32)), (.int p0)]) := fun t k => pre11 t (by
      refine XS.icmpNo X0.here hx rfl (hb hby d1_15) rfl (feq c15_12).1 ?_
      show Steps p.tables e below (s₁.setTop (mkF m 18 #[vI p0] [])) _
      refine XS.iloadN X0.here hx rfl (hb hby d1_18) rfl ?_
      show Steps p.tables e below (s₁.setTop (mkF m 19 #[vI p0] [(.int p0)])) _
      refine XS.bipush X0.here hx rfl (hb hby d1_19) ?_
      show Steps p.tables e below (s₁.setTop (mkF m 21 #[vI p0] [(.int (10 : Int32)), (.int p0)])) _
      exact k)
    by_cases c21_15 : p0 = (10 : Int32)
    · skip
      have pre16 : Go p.tables e below S0 s₁ (mkF m 59 #[vI p0] [(.int (1 : Int32))]) := fun t k => pre14 t (by
        refine XS.icmpYes X0.here hx rfl (pc0 := 21) (pc' := 54) rfl (hb hby d1_21) rfl (teq c21_15).1 (by decide) (by decide) ?_
        show Steps p.tables e below (s₁.setTop (mkF m 54 #[vI p0] [])) _
        refine XS.iconst X0.here hx rfl (hb hby d1_54) ?_
        show Steps p.tables e below (s₁.setTop (mkF m 55 #[vI p0] [(.int (1 : Int32))])) _
        refine XS.goto X0.here hx rfl (pc0 := 55) (pc' := 59) rfl (hb hby d1_55) (by decide) (by decide) ?_
        show Steps p.tables e below (s₁.setTop (mkF m 59 #[vI p0] [(.int (1 : Int32))])) _
        exact k)
      obtain ⟨fs, hr, hrun, hended, hW, hsame⟩ := X0.leave (v := some (.int (1 : Int32))) (fun h => by rw [Bd.returns] at h; cases h)
      exact ⟨_, _, pre16.fin hS0 (retN X0 hx (t := .boolean) Bd.returns (by simp) (hb hby d1_59) hr), hrun, hended, _, _, rfl, (by
        show Q1 Z p0 h0 n0 _ s₁.heap _
        rw [e0]
        exact ⟨congrArg (fun z => some (Value.int z)) (by rw [hj12_8]; simp [own_isc_12, c15_12, c21_15]), N0, rfl⟩), ⟨_, rfl⟩, hW, hsame.mono (by decide) (by decide)⟩
    · skip
      have pre17 : Go p.tables e below S0 s₁ (mkF m 27 #[vI p0] [(.int (13 : Int32)), (.int p0)]) := fun t k => pre14 t (by
        refine XS.icmpNo X0.here hx rfl (hb hby d1_21) rfl (feq c21_15).1 ?_
        show Steps p.tables e below (s₁.setTop (mkF m 24 #[vI p0] [])) _
        refine XS.iloadN X0.here hx rfl (hb hby d1_24) rfl ?_
        show Steps p.tables e below (s₁.setTop (mkF m 25 #[vI p0] [(.int p0)])) _
        refine XS.bipush X0.here hx rfl (hb hby d1_25) ?_
        show Steps p.tables e below (s₁.setTop (mkF m 27 #[vI p0] [(.int (13 : Int32)), (.int p0)])) _
        exact k)
      by_cases c27_18 : p0 = (13 : Int32)
      · skip
        have pre19 : Go p.tables e below S0 s₁ (mkF m 59 #[vI p0] [(.int (1 : Int32))]) := fun t k => pre17 t (by
          refine XS.icmpYes X0.here hx rfl (pc0 := 27) (pc' := 54) rfl (hb hby d1_27) rfl (teq c27_18).1 (by decide) (by decide) ?_
          show Steps p.tables e below (s₁.setTop (mkF m 54 #[vI p0] [])) _
          refine XS.iconst X0.here hx rfl (hb hby d1_54) ?_
          show Steps p.tables e below (s₁.setTop (mkF m 55 #[vI p0] [(.int (1 : Int32))])) _
          refine XS.goto X0.here hx rfl (pc0 := 55) (pc' := 59) rfl (hb hby d1_55) (by decide) (by decide) ?_
          show Steps p.tables e below (s₁.setTop (mkF m 59 #[vI p0] [(.int (1 : Int32))])) _
          exact k)
        obtain ⟨fs, hr, hrun, hended, hW, hsame⟩ := X0.leave (v := some (.int (1 : Int32))) (fun h => by rw [Bd.returns] at h; cases h)
        exact ⟨_, _, pre19.fin hS0 (retN X0 hx (t := .boolean) Bd.returns (by simp) (hb hby d1_59) hr), hrun, hended, _, _, rfl, (by
          show Q1 Z p0 h0 n0 _ s₁.heap _
          rw [e0]
          exact ⟨congrArg (fun z => some (Value.int z)) (by rw [hj12_8]; simp [own_isc_12, c15_12, c21_15, c27_18]), N0, rfl⟩), ⟨_, rfl⟩, hW, hsame.mono (by decide) (by decide)⟩
      · skip
        have pre20 : Go p.tables e below S0 s₁ (mkF m 33 #[vI p0] [(.int (57344 : Int32)), (.int p0)]) := fun t k => pre17 t (by
          refine XS.icmpNo X0.here hx rfl (hb hby d1_27) rfl (feq c27_18).1 ?_
          show Steps p.tables e below (s₁.setTop (mkF m 30 #[vI p0] [])) _
          refine XS.iloadN X0.here hx rfl (hb hby d1_30) rfl ?_
          show Steps p.tables e below (s₁.setTop (mkF m 31 #[vI p0] [(.int p0)])) _
          refine X0.ldcInt hx hown (mvT hZ (hw _ (List.mem_of_getElem? (i := 17) rfl))) (g := (mkF m 31 #[vI p0] [(.int p0)])) rfl (hb hby d1_31) _ ?_
          show Steps p.tables e below (s₁.setTop (mkF m 33 #[vI p0] [(.int (57344 : Int32)), (.int p0)])) _
          exact k)
        refine cps (A := (own_isc p0 = own_isc_42 p0) ∧ (Go p.tables e below S0 s₁ (mkF m 42 #[vI p0] []))) (fun tail29 => ?_) ?_
        · skip
          by_cases c33_21 : p0 < (57344 : Int32)
          · skip
            have pre22 : Go p.tables e below S0 s₁ (mkF m 42 #[vI p0] []) := fun t k => pre20 t (by
              refine XS.icmpYes X0.here hx rfl (pc0 := 33) (pc' := 42) rfl (hb hby d1_33) rfl (tlt c33_21).1 (by decide) (by decide) ?_
              show Steps p.tables e below (s₁.setTop (mkF m 42 #[vI p0] [])) _
              exact k)
            exact tail29 ⟨(by rw [hj12_8]; simp [own_isc_12, c15_12, c21_15, c27_18, c33_21]), pre22⟩
          · skip
            have pre23 : Go p.tables e below S0 s₁ (mkF m 39 #[vI p0] [(.int (65533 : Int32)), (.int p0)]) := fun t k => pre20 t (by
              refine XS.icmpNo X0.here hx rfl (hb hby d1_33) rfl (flt c33_21).1 ?_
              show Steps p.tables e below (s₁.setTop (mkF m 36 #[vI p0] [])) _
              refine XS.iloadN X0.here hx rfl (hb hby d1_36) rfl ?_
              show Steps p.tables e below (s₁.setTop (mkF m 37 #[vI p0] [(.int p0)])) _
              refine X0.ldcInt hx hown (mvT hZ (hw _ (List.mem_of_getElem? (i := 24) rfl))) (g := (mkF m 37 #[vI p0] [(.int p0)])) rfl (hb hby d1_37) _ ?_
              show Steps p.tables e below (s₁.setTop (mkF m 39 #[vI p0] [(.int (65533 : Int32)), (.int p0)])) _
              exact k)
            by_cases c39_24 : (65533 : Int32) < p0
            · skip
              have pre25 : Go p.tables e below S0 s₁ (mkF m 42 #[vI p0] []) := fun t k => pre23 t (by
                refine XS.icmpNo X0.here hx rfl (hb hby d1_39) rfl (tlt c39_24).2.2.2 ?_
                show Steps p.tables e below (s₁.setTop (mkF m 42 #[vI p0] [])) _
                exact k)
              exact tail29 ⟨(by rw [hj12_8]; simp [own_isc_12, c15_12, c21_15, c27_18, c33_21, c39_24]), pre25⟩
            · skip
              have pre26 : Go p.tables e below S0 s₁ (mkF m 59 #[vI p0] [(.int (1 : Int32))]) := fun t k => pre23 t (by
                refine XS.icmpYes X0.here hx rfl (pc0 := 39) (pc' := 54) rfl (hb hby d1_39) rfl (flt c39_24).2.2.2 (by decide) (by decide) ?_
                show Steps p.tables e below (s₁.setTop (mkF m 54 #[vI p0] [])) _
                refine XS.iconst X0.here hx rfl (hb hby d1_54) ?_
                show Steps p.tables e below (s₁.setTop (mkF m 55 #[vI p0] [(.int (1 : Int32))])) _
                refine XS.goto X0.here hx rfl (pc0 := 55) (pc' := 59) rfl (hb hby d1_55) (by decide) (by decide) ?_
                show Steps p.tables e below (s₁.setTop (mkF m 59 #[vI p0] [(.int (1 : Int32))])) _
                exact k)
              obtain ⟨fs, hr, hrun, hended, hW, hsame⟩ := X0.leave (v := some (.int (1 : Int32))) (fun h => by rw [Bd.returns] at h; cases h)
              exact ⟨_, _, pre26.fin hS0 (retN X0 hx (t := .boolean) Bd.returns (by simp) (hb hby d1_59) hr), hrun, hended, _, _, rfl, (by
                show Q1 Z p0 h0 n0 _ s₁.heap _
                rw [e0]
                exact ⟨congrArg (fun z => some (Value.int z)) (by rw [hj12_8]; simp [own_isc_12, c15_12, c21_15, c27_18, c33_21, c39_24]), N0, rfl⟩), ⟨_, rfl⟩, hW, hsame.mono (by decide) (by decide)⟩
        rintro ⟨hj42_27, pre28⟩
        have pre30 : Go p.tables e below S0 s₁ (mkF m 45 #[vI p0] [(.int (65536 : Int32)), (.int p0)]) := fun t k => pre28 t (by
          refine XS.iloadN X0.here hx rfl (hb hby d1_42) rfl ?_
          show Steps p.tables e below (s₁.setTop (mkF m 43 #[vI p0] [(.int p0)])) _
          refine X0.ldcInt hx hown (mvT hZ (hw _ (List.mem_of_getElem? (i := 18) rfl))) (g := (mkF m 43 #[vI p0] [(.int p0)])) rfl (hb hby d1_43) _ ?_
          show Steps p.tables e below (s₁.setTop (mkF m 45 #[vI p0] [(.int (65536 : Int32)), (.int p0)])) _
          exact k)
        by_cases c45_31 : p0 < (65536 : Int32)
        · skip
          have pre32 : Go p.tables e below S0 s₁ (mkF m 59 #[vI p0] [(.int (0 : Int32))]) := fun t k => pre30 t (by
            refine XS.icmpYes X0.here hx rfl (pc0 := 45) (pc' := 58) rfl (hb hby d1_45) rfl (tlt c45_31).1 (by decide) (by decide) ?_
            show Steps p.tables e below (s₁.setTop (mkF m 58 #[vI p0] [])) _
            refine XS.iconst X0.here hx rfl (hb hby d1_58) ?_
            show Steps p.tables e below (s₁.setTop (mkF m 59 #[vI p0] [(.int (0 : Int32))])) _
            exact k)
          obtain ⟨fs, hr, hrun, hended, hW, hsame⟩ := X0.leave (v := some (.int (0 : Int32))) (fun h => by rw [Bd.returns] at h; cases h)
          exact ⟨_, _, pre32.fin hS0 (retN X0 hx (t := .boolean) Bd.returns (by simp) (hb hby d1_59) hr), hrun, hended, _, _, rfl, (by
            show Q1 Z p0 h0 n0 _ s₁.heap _
            rw [e0]
            exact ⟨congrArg (fun z => some (Value.int z)) (by rw [hj42_27]; simp [own_isc_42, c45_31]), N0, rfl⟩), ⟨_, rfl⟩, hW, hsame.mono (by decide) (by decide)⟩
        · skip
          have pre33 : Go p.tables e below S0 s₁ (mkF m 51 #[vI p0] [(.int (1114111 : Int32)), (.int p0)]) := fun t k => pre30 t (by
            refine XS.icmpNo X0.here hx rfl (hb hby d1_45) rfl (flt c45_31).1 ?_
            show Steps p.tables e below (s₁.setTop (mkF m 48 #[vI p0] [])) _
            refine XS.iloadN X0.here hx rfl (hb hby d1_48) rfl ?_
            show Steps p.tables e below (s₁.setTop (mkF m 49 #[vI p0] [(.int p0)])) _
            refine X0.ldcInt hx hown (mvT hZ (hw _ (List.mem_of_getElem? (i := 25) rfl))) (g := (mkF m 49 #[vI p0] [(.int p0)])) rfl (hb hby d1_49) _ ?_
            show Steps p.tables e below (s₁.setTop (mkF m 51 #[vI p0] [(.int (1114111 : Int32)), (.int p0)])) _
            exact k)
          by_cases c51_34 : (1114111 : Int32) < p0
          · skip
            have pre35 : Go p.tables e below S0 s₁ (mkF m 59 #[vI p0] [(.int (0 : Int32))]) := fun t k => pre33 t (by
              refine XS.icmpYes X0.here hx rfl (pc0 := 51) (pc' := 58) rfl (hb hby d1_51) rfl (tlt c51_34).2.2.1 (by decide) (by decide) ?_
              show Steps p.tables e below (s₁.setTop (mkF m 58 #[vI p0] [])) _
              refine XS.iconst X0.here hx rfl (hb hby d1_58) ?_
              show Steps p.tables e below (s₁.setTop (mkF m 59 #[vI p0] [(.int (0 : Int32))])) _
              exact k)
            obtain ⟨fs, hr, hrun, hended, hW, hsame⟩ := X0.leave (v := some (.int (0 : Int32))) (fun h => by rw [Bd.returns] at h; cases h)
            exact ⟨_, _, pre35.fin hS0 (retN X0 hx (t := .boolean) Bd.returns (by simp) (hb hby d1_59) hr), hrun, hended, _, _, rfl, (by
              show Q1 Z p0 h0 n0 _ s₁.heap _
              rw [e0]
              exact ⟨congrArg (fun z => some (Value.int z)) (by rw [hj42_27]; simp [own_isc_42, c45_31, c51_34]), N0, rfl⟩), ⟨_, rfl⟩, hW, hsame.mono (by decide) (by decide)⟩
          · skip
            have pre36 : Go p.tables e below S0 s₁ (mkF m 59 #[vI p0] [(.int (1 : Int32))]) := fun t k => pre33 t (by
              refine XS.icmpNo X0.here hx rfl (hb hby d1_51) rfl (flt c51_34).2.2.1 ?_
              show Steps p.tables e below (s₁.setTop (mkF m 54 #[vI p0] [])) _
              refine XS.iconst X0.here hx rfl (hb hby d1_54) ?_
              show Steps p.tables e below (s₁.setTop (mkF m 55 #[vI p0] [(.int (1 : Int32))])) _
              refine XS.goto X0.here hx rfl (pc0 := 55) (pc' := 59) rfl (hb hby d1_55) (by decide) (by decide) ?_
              show Steps p.tables e below (s₁.setTop (mkF m 59 #[vI p0] [(.int (1 : Int32))])) _
              exact k)
            obtain ⟨fs, hr, hrun, hended, hW, hsame⟩ := X0.leave (v := some (.int (1 : Int32))) (fun h => by rw [Bd.returns] at h; cases h)
            exact ⟨_, _, pre36.fin hS0 (retN X0 hx (t := .boolean) Bd.returns (by simp) (hb hby d1_59) hr), hrun, hended, _, _, rfl, (by
              show Q1 Z p0 h0 n0 _ s₁.heap _
              rw [e0]
              exact ⟨congrArg (fun z => some (Value.int z)) (by rw [hj42_27]; simp [own_isc_42, c45_31, c51_34]), N0, rfl⟩), ⟨_, rfl⟩, hW, hsame.mono (by decide) (by decide)⟩
def own_ref_58 (p0 : Int32) : Int32 := if p0 = (65534 : Int32) then ((0 : Int32)) else (if p0 = (65535 : Int32) then ((0 : Int32)) else ((1 : Int32)))
def own_ref (p0 : Int32) : Int32 := if p0 < (0 : Int32) then ((0 : Int32)) else (if (1114111 : Int32) < p0 then ((0 : Int32)) else (if p0 < (32 : Int32) then (if p0 = (9 : Int32) then ((1 : Int32)) else (if p0 = (10 : Int32) then ((1 : Int32)) else (if p0 = (13 : Int32) then ((1 : Int32)) else ((0 : Int32))))) else (if p0 < (55296 : Int32) then (own_ref_58 p0) else (if (57343 : Int32) < p0 then (own_ref_58 p0) else ((0 : Int32))))))
theorem ef_2 (m : MethodId) (x0 : Int32) : entryFrame m #[(.int x0)] 1 = mkF m 0 #[.val (.int x0)] [] := by first | (simp [entryFrame, mkF, argsToLocals, Value.category]; done) | rfl
theorem pn_1 : plainName "com/example/ratatoskr/ratatoskr/xml/XmlCharsIsCharPinLaw" = true := by first | (simp [plainName, overriddenIn]; done) | decide +kernel
theorem d2_0 : decode method_2_code 0 = .ok (.iload_n 0, 1) := by decide +kernel
theorem d2_1 : decode method_2_code 1 = .ok (.ifCond .ge 5, 3) := by decide +kernel
theorem d2_4 : decode method_2_code 4 = .ok (.iconst 0, 1) := by decide +kernel
theorem d2_5 : decode method_2_code 5 = .ok (.ireturn, 1) := by decide +kernel
theorem d2_6 : decode method_2_code 6 = .ok (.iload_n 0, 1) := by decide +kernel
theorem d2_7 : decode method_2_code 7 = .ok (.ldc 7, 2) := by decide +kernel
theorem d2_9 : decode method_2_code 9 = .ok (.if_icmp .le 5, 3) := by decide +kernel
theorem d2_12 : decode method_2_code 12 = .ok (.iconst 0, 1) := by decide +kernel
theorem d2_13 : decode method_2_code 13 = .ok (.ireturn, 1) := by decide +kernel
theorem d2_14 : decode method_2_code 14 = .ok (.iload_n 0, 1) := by decide +kernel
theorem d2_15 : decode method_2_code 15 = .ok (.bipush 32, 2) := by decide +kernel
theorem d2_17 : decode method_2_code 17 = .ok (.if_icmp .ge 27, 3) := by decide +kernel
theorem d2_20 : decode method_2_code 20 = .ok (.iload_n 0, 1) := by decide +kernel
theorem d2_21 : decode method_2_code 21 = .ok (.bipush 9, 2) := by decide +kernel
theorem d2_23 : decode method_2_code 23 = .ok (.if_icmp .eq 15, 3) := by decide +kernel
theorem d2_26 : decode method_2_code 26 = .ok (.iload_n 0, 1) := by decide +kernel
theorem d2_27 : decode method_2_code 27 = .ok (.bipush 10, 2) := by decide +kernel
theorem d2_29 : decode method_2_code 29 = .ok (.if_icmp .eq 9, 3) := by decide +kernel
theorem d2_32 : decode method_2_code 32 = .ok (.iload_n 0, 1) := by decide +kernel
theorem d2_33 : decode method_2_code 33 = .ok (.bipush 13, 2) := by decide +kernel
theorem d2_35 : decode method_2_code 35 = .ok (.if_icmp .ne 7, 3) := by decide +kernel
theorem d2_38 : decode method_2_code 38 = .ok (.iconst 1, 1) := by decide +kernel
theorem d2_39 : decode method_2_code 39 = .ok (.goto 4, 3) := by decide +kernel
theorem d2_42 : decode method_2_code 42 = .ok (.iconst 0, 1) := by decide +kernel
theorem d2_43 : decode method_2_code 43 = .ok (.ireturn, 1) := by decide +kernel
theorem d2_44 : decode method_2_code 44 = .ok (.iload_n 0, 1) := by decide +kernel
theorem d2_45 : decode method_2_code 45 = .ok (.ldc 8, 2) := by decide +kernel
theorem d2_47 : decode method_2_code 47 = .ok (.if_icmp .lt 11, 3) := by decide +kernel
theorem d2_50 : decode method_2_code 50 = .ok (.iload_n 0, 1) := by decide +kernel
theorem d2_51 : decode method_2_code 51 = .ok (.ldc 9, 2) := by decide +kernel
theorem d2_53 : decode method_2_code 53 = .ok (.if_icmp .gt 5, 3) := by decide +kernel
theorem d2_56 : decode method_2_code 56 = .ok (.iconst 0, 1) := by decide +kernel
theorem d2_57 : decode method_2_code 57 = .ok (.ireturn, 1) := by decide +kernel
theorem d2_58 : decode method_2_code 58 = .ok (.iload_n 0, 1) := by decide +kernel
theorem d2_59 : decode method_2_code 59 = .ok (.ldc 10, 2) := by decide +kernel
theorem d2_61 : decode method_2_code 61 = .ok (.if_icmp .eq 9, 3) := by decide +kernel
theorem d2_64 : decode method_2_code 64 = .ok (.iload_n 0, 1) := by decide +kernel
theorem d2_65 : decode method_2_code 65 = .ok (.ldc 11, 2) := by decide +kernel
theorem d2_67 : decode method_2_code 67 = .ok (.if_icmp .ne 5, 3) := by decide +kernel
theorem d2_70 : decode method_2_code 70 = .ok (.iconst 0, 1) := by decide +kernel
theorem d2_71 : decode method_2_code 71 = .ok (.ireturn, 1) := by decide +kernel
theorem d2_72 : decode method_2_code 72 = .ok (.iconst 1, 1) := by decide +kernel
theorem d2_73 : decode method_2_code 73 = .ok (.ireturn, 1) := by decide +kernel
def Q2 (Z : State) (p0 : Int32) (h0 : Heap) (n0 : Nat) (v : Option Value) (h : Heap) (L : List Loc) : Prop := v = some (.int (own_ref p0)) ∧ Fr n0 L ∧ h = h0
set_option maxRecDepth 65536 in
set_option maxHeartbeats 40000000 in
theorem rm2 (l : Launch) (Z : State) (A0 : Array Value) (hw : ∀ d ∈ tables_1, d.before A0 Z = true) (ws : List Jvm.Cond) (p0 : Int32)  (h0 : Heap) (n0 : Nat) (Z0 : n0 ≤ h0.size)  :
    MetFree l (⟨"com/example/ratatoskr/ratatoskr/xml/XmlCharsIsCharPinLaw", "ref", "(I)Z"⟩ : MethodName) (head1 (Jvm.Cond.code (⟨"com/example/ratatoskr/ratatoskr/xml/XmlCharsIsCharPinLaw", "ref", "(I)Z"⟩ : MethodName) method_2_code 1 (some .boolean) :: ws) ({ frames := 0, cells := 0, slots := 0, locals := 0 } : Room)) (fun a U => a = #[(.int p0)] ∧ Z.Warmed39 U.vm ∧ U.heap = h0) (fun _ _ _ _ _ => True) (fun _ U o U' => ∃ v L, o = .returned v ∧ Q2 Z p0 h0 n0 v U'.heap L ∧ FrameEnd U o U' L ({ frames := 0, cells := 0, slots := 0, locals := 0 } : Room).cells ({ frames := 0, cells := 0, slots := 0, locals := 0 } : Room).slots) := by
  refine MetFree.of_bodySF (plainFor_of_name pn_1) hisR ?_
  intro p e s m args below meth c s₁ Bd hml0 hP hK
  obtain ⟨rfl, hZ, hh⟩ := hP
  have hx := Bd.exec
  have hby := Bd.bytes
  have hml : c.maxLocals = 1 := hml0
  have hown : s.vm.findClass "com/example/ratatoskr/ratatoskr/xml/XmlCharsIsCharPinLaw" = some m.cls := findClass_of_methodNamed Bd.named
  have hnm := (name_of_methodNamed Bd.named Bd.method).1
  have X0 : Stand p l e ({ frames := 0, cells := 0, slots := 0, locals := 0 } : Room) s m #[(.int p0)] below meth c s₁ [] 0 0 := Stand.of_body Bd
  have e0 : s₁.heap = h0 := by rw [← hh, Bd.state]; rfl
  have N0 := Fr.nil n0
  obtain ⟨S0, hS0⟩ : ∃ z, z = s₁.setTop (entryFrame m #[(.int p0)] 1) := ⟨_, rfl⟩
  have pre0 : Go p.tables e below S0 s₁ (mkF m 0 #[vI p0] []) := fun t k => by rw [hS0]; exact castTop (ef_2 m p0) k
  have pre1 : Go p.tables e below S0 s₁ (mkF m 1 #[vI p0] [(.int p0)]) := fun t k => pre0 t (by
    refine XS.iloadN X0.here hx rfl (hb hby d2_0) rfl ?_
    show Steps p.tables e below (s₁.setTop (mkF m 1 #[vI p0] [(.int p0)])) _
    exact k)
  by_cases c1_2 : p0 < (0 : Int32)
  · skip
    have pre3 : Go p.tables e below S0 s₁ (mkF m 5 #[vI p0] [(.int (0 : Int32))]) := fun t k => pre1 t (by
      refine XS.ifNo X0.here hx rfl (hb hby d2_1) rfl ((if0 _ _).trans (tlt c1_2).2.1) ?_
      show Steps p.tables e below (s₁.setTop (mkF m 4 #[vI p0] [])) _
      refine XS.iconst X0.here hx rfl (hb hby d2_4) ?_
      show Steps p.tables e below (s₁.setTop (mkF m 5 #[vI p0] [(.int (0 : Int32))])) _
      exact k)
    obtain ⟨fs, hr, hrun, hended, hW, hsame⟩ := X0.leave (v := some (.int (0 : Int32))) (fun h => by rw [Bd.returns] at h; cases h)
    exact ⟨_, _, pre3.fin hS0 (retN X0 hx (t := .boolean) Bd.returns (by simp) (hb hby d2_5) hr), hrun, hended, _, _, rfl, (by
      show Q2 Z p0 h0 n0 _ s₁.heap _
      rw [e0]
      exact ⟨congrArg (fun z => some (Value.int z)) (by simp [own_ref, c1_2]), N0, rfl⟩), ⟨_, rfl⟩, hW, hsame.mono (by decide) (by decide)⟩
  · skip
    have pre4 : Go p.tables e below S0 s₁ (mkF m 9 #[vI p0] [(.int (1114111 : Int32)), (.int p0)]) := fun t k => pre1 t (by
      refine XS.ifYes X0.here hx rfl (pc0 := 1) (pc' := 6) rfl (hb hby d2_1) rfl ((if0 _ _).trans (flt c1_2).2.1) (by decide) (by decide) ?_
      show Steps p.tables e below (s₁.setTop (mkF m 6 #[vI p0] [])) _
      refine XS.iloadN X0.here hx rfl (hb hby d2_6) rfl ?_
      show Steps p.tables e below (s₁.setTop (mkF m 7 #[vI p0] [(.int p0)])) _
      refine X0.ldcInt hx hown (mvT hZ (hw _ (List.mem_of_getElem? (i := 9) rfl))) (g := (mkF m 7 #[vI p0] [(.int p0)])) rfl (hb hby d2_7) _ ?_
      show Steps p.tables e below (s₁.setTop (mkF m 9 #[vI p0] [(.int (1114111 : Int32)), (.int p0)])) _
      exact k)
    by_cases c9_5 : (1114111 : Int32) < p0
    · skip
      have pre6 : Go p.tables e below S0 s₁ (mkF m 13 #[vI p0] [(.int (0 : Int32))]) := fun t k => pre4 t (by
        refine XS.icmpNo X0.here hx rfl (hb hby d2_9) rfl (tlt c9_5).2.2.2 ?_
        show Steps p.tables e below (s₁.setTop (mkF m 12 #[vI p0] [])) _
        refine XS.iconst X0.here hx rfl (hb hby d2_12) ?_
        show Steps p.tables e below (s₁.setTop (mkF m 13 #[vI p0] [(.int (0 : Int32))])) _
        exact k)
      obtain ⟨fs, hr, hrun, hended, hW, hsame⟩ := X0.leave (v := some (.int (0 : Int32))) (fun h => by rw [Bd.returns] at h; cases h)
      exact ⟨_, _, pre6.fin hS0 (retN X0 hx (t := .boolean) Bd.returns (by simp) (hb hby d2_13) hr), hrun, hended, _, _, rfl, (by
        show Q2 Z p0 h0 n0 _ s₁.heap _
        rw [e0]
        exact ⟨congrArg (fun z => some (Value.int z)) (by simp [own_ref, c1_2, c9_5]), N0, rfl⟩), ⟨_, rfl⟩, hW, hsame.mono (by decide) (by decide)⟩
    · skip
      have pre7 : Go p.tables e below S0 s₁ (mkF m 17 #[vI p0] [(.int (32 : Int32)), (.int p0)]) := fun t k => pre4 t (by
        refine XS.icmpYes X0.here hx rfl (pc0 := 9) (pc' := 14) rfl (hb hby d2_9) rfl (flt c9_5).2.2.2 (by decide) (by decide) ?_
        show Steps p.tables e below (s₁.setTop (mkF m 14 #[vI p0] [])) _
        refine XS.iloadN X0.here hx rfl (hb hby d2_14) rfl ?_
        show Steps p.tables e below (s₁.setTop (mkF m 15 #[vI p0] [(.int p0)])) _
        refine XS.bipush X0.here hx rfl (hb hby d2_15) ?_
        show Steps p.tables e below (s₁.setTop (mkF m 17 #[vI p0] [(.int (32 : Int32)), (.int p0)])) _
        exact k)
      by_cases c17_8 : p0 < (32 : Int32)
      · skip
        have pre9 : Go p.tables e below S0 s₁ (mkF m 23 #[vI p0] [(.int (9 : Int32)), (.int p0)]) := fun t k => pre7 t (by
          refine XS.icmpNo X0.here hx rfl (hb hby d2_17) rfl (tlt c17_8).2.1 ?_
          show Steps p.tables e below (s₁.setTop (mkF m 20 #[vI p0] [])) _
          refine XS.iloadN X0.here hx rfl (hb hby d2_20) rfl ?_
          show Steps p.tables e below (s₁.setTop (mkF m 21 #[vI p0] [(.int p0)])) _
          refine XS.bipush X0.here hx rfl (hb hby d2_21) ?_
          show Steps p.tables e below (s₁.setTop (mkF m 23 #[vI p0] [(.int (9 : Int32)), (.int p0)])) _
          exact k)
        by_cases c23_10 : p0 = (9 : Int32)
        · skip
          have pre11 : Go p.tables e below S0 s₁ (mkF m 43 #[vI p0] [(.int (1 : Int32))]) := fun t k => pre9 t (by
            refine XS.icmpYes X0.here hx rfl (pc0 := 23) (pc' := 38) rfl (hb hby d2_23) rfl (teq c23_10).1 (by decide) (by decide) ?_
            show Steps p.tables e below (s₁.setTop (mkF m 38 #[vI p0] [])) _
            refine XS.iconst X0.here hx rfl (hb hby d2_38) ?_
            show Steps p.tables e below (s₁.setTop (mkF m 39 #[vI p0] [(.int (1 : Int32))])) _
            refine XS.goto X0.here hx rfl (pc0 := 39) (pc' := 43) rfl (hb hby d2_39) (by decide) (by decide) ?_
            show Steps p.tables e below (s₁.setTop (mkF m 43 #[vI p0] [(.int (1 : Int32))])) _
            exact k)
          obtain ⟨fs, hr, hrun, hended, hW, hsame⟩ := X0.leave (v := some (.int (1 : Int32))) (fun h => by rw [Bd.returns] at h; cases h)
          exact ⟨_, _, pre11.fin hS0 (retN X0 hx (t := .boolean) Bd.returns (by simp) (hb hby d2_43) hr), hrun, hended, _, _, rfl, (by
            show Q2 Z p0 h0 n0 _ s₁.heap _
            rw [e0]
            exact ⟨congrArg (fun z => some (Value.int z)) (by simp [own_ref, c1_2, c9_5, c17_8, c23_10]), N0, rfl⟩), ⟨_, rfl⟩, hW, hsame.mono (by decide) (by decide)⟩
        · skip
          have pre12 : Go p.tables e below S0 s₁ (mkF m 29 #[vI p0] [(.int (10 : Int32)), (.int p0)]) := fun t k => pre9 t (by
            refine XS.icmpNo X0.here hx rfl (hb hby d2_23) rfl (feq c23_10).1 ?_
            show Steps p.tables e below (s₁.setTop (mkF m 26 #[vI p0] [])) _
            refine XS.iloadN X0.here hx rfl (hb hby d2_26) rfl ?_
            show Steps p.tables e below (s₁.setTop (mkF m 27 #[vI p0] [(.int p0)])) _
            refine XS.bipush X0.here hx rfl (hb hby d2_27) ?_
            show Steps p.tables e below (s₁.setTop (mkF m 29 #[vI p0] [(.int (10 : Int32)), (.int p0)])) _
            exact k)
          by_cases c29_13 : p0 = (10 : Int32)
          · skip
            have pre14 : Go p.tables e below S0 s₁ (mkF m 43 #[vI p0] [(.int (1 : Int32))]) := fun t k => pre12 t (by
              refine XS.icmpYes X0.here hx rfl (pc0 := 29) (pc' := 38) rfl (hb hby d2_29) rfl (teq c29_13).1 (by decide) (by decide) ?_
              show Steps p.tables e below (s₁.setTop (mkF m 38 #[vI p0] [])) _
              refine XS.iconst X0.here hx rfl (hb hby d2_38) ?_
              show Steps p.tables e below (s₁.setTop (mkF m 39 #[vI p0] [(.int (1 : Int32))])) _
              refine XS.goto X0.here hx rfl (pc0 := 39) (pc' := 43) rfl (hb hby d2_39) (by decide) (by decide) ?_
              show Steps p.tables e below (s₁.setTop (mkF m 43 #[vI p0] [(.int (1 : Int32))])) _
              exact k)
            obtain ⟨fs, hr, hrun, hended, hW, hsame⟩ := X0.leave (v := some (.int (1 : Int32))) (fun h => by rw [Bd.returns] at h; cases h)
            exact ⟨_, _, pre14.fin hS0 (retN X0 hx (t := .boolean) Bd.returns (by simp) (hb hby d2_43) hr), hrun, hended, _, _, rfl, (by
              show Q2 Z p0 h0 n0 _ s₁.heap _
              rw [e0]
              exact ⟨congrArg (fun z => some (Value.int z)) (by simp [own_ref, c1_2, c9_5, c17_8, c23_10, c29_13]), N0, rfl⟩), ⟨_, rfl⟩, hW, hsame.mono (by decide) (by decide)⟩
          · skip
            have pre15 : Go p.tables e below S0 s₁ (mkF m 35 #[vI p0] [(.int (13 : Int32)), (.int p0)]) := fun t k => pre12 t (by
              refine XS.icmpNo X0.here hx rfl (hb hby d2_29) rfl (feq c29_13).1 ?_
              show Steps p.tables e below (s₁.setTop (mkF m 32 #[vI p0] [])) _
              refine XS.iloadN X0.here hx rfl (hb hby d2_32) rfl ?_
              show Steps p.tables e below (s₁.setTop (mkF m 33 #[vI p0] [(.int p0)])) _
              refine XS.bipush X0.here hx rfl (hb hby d2_33) ?_
              show Steps p.tables e below (s₁.setTop (mkF m 35 #[vI p0] [(.int (13 : Int32)), (.int p0)])) _
              exact k)
            by_cases c35_16 : p0 = (13 : Int32)
            · skip
              have pre17 : Go p.tables e below S0 s₁ (mkF m 43 #[vI p0] [(.int (1 : Int32))]) := fun t k => pre15 t (by
                refine XS.icmpNo X0.here hx rfl (hb hby d2_35) rfl (teq c35_16).2 ?_
                show Steps p.tables e below (s₁.setTop (mkF m 38 #[vI p0] [])) _
                refine XS.iconst X0.here hx rfl (hb hby d2_38) ?_
                show Steps p.tables e below (s₁.setTop (mkF m 39 #[vI p0] [(.int (1 : Int32))])) _
                refine XS.goto X0.here hx rfl (pc0 := 39) (pc' := 43) rfl (hb hby d2_39) (by decide) (by decide) ?_
                show Steps p.tables e below (s₁.setTop (mkF m 43 #[vI p0] [(.int (1 : Int32))])) _
                exact k)
              obtain ⟨fs, hr, hrun, hended, hW, hsame⟩ := X0.leave (v := some (.int (1 : Int32))) (fun h => by rw [Bd.returns] at h; cases h)
              exact ⟨_, _, pre17.fin hS0 (retN X0 hx (t := .boolean) Bd.returns (by simp) (hb hby d2_43) hr), hrun, hended, _, _, rfl, (by
                show Q2 Z p0 h0 n0 _ s₁.heap _
                rw [e0]
                exact ⟨congrArg (fun z => some (Value.int z)) (by simp [own_ref, c1_2, c9_5, c17_8, c23_10, c29_13, c35_16]), N0, rfl⟩), ⟨_, rfl⟩, hW, hsame.mono (by decide) (by decide)⟩
            · skip
              have pre18 : Go p.tables e below S0 s₁ (mkF m 43 #[vI p0] [(.int (0 : Int32))]) := fun t k => pre15 t (by
                refine XS.icmpYes X0.here hx rfl (pc0 := 35) (pc' := 42) rfl (hb hby d2_35) rfl (feq c35_16).2 (by decide) (by decide) ?_
                show Steps p.tables e below (s₁.setTop (mkF m 42 #[vI p0] [])) _
                refine XS.iconst X0.here hx rfl (hb hby d2_42) ?_
                show Steps p.tables e below (s₁.setTop (mkF m 43 #[vI p0] [(.int (0 : Int32))])) _
                exact k)
              obtain ⟨fs, hr, hrun, hended, hW, hsame⟩ := X0.leave (v := some (.int (0 : Int32))) (fun h => by rw [Bd.returns] at h; cases h)
              exact ⟨_, _, pre18.fin hS0 (retN X0 hx (t := .boolean) Bd.returns (by simp) (hb hby d2_43) hr), hrun, hended, _, _, rfl, (by
                show Q2 Z p0 h0 n0 _ s₁.heap _
                rw [e0]
                exact ⟨congrArg (fun z => some (Value.int z)) (by simp [own_ref, c1_2, c9_5, c17_8, c23_10, c29_13, c35_16]), N0, rfl⟩), ⟨_, rfl⟩, hW, hsame.mono (by decide) (by decide)⟩
      · skip
        have pre19 : Go p.tables e below S0 s₁ (mkF m 47 #[vI p0] [(.int (55296 : Int32)), (.int p0)]) := fun t k => pre7 t (by
          refine XS.icmpYes X0.here hx rfl (pc0 := 17) (pc' := 44) rfl (hb hby d2_17) rfl (flt c17_8).2.1 (by decide) (by decide) ?_
          show Steps p.tables e below (s₁.setTop (mkF m 44 #[vI p0] [])) _
          refine XS.iloadN X0.here hx rfl (hb hby d2_44) rfl ?_
          show Steps p.tables e below (s₁.setTop (mkF m 45 #[vI p0] [(.int p0)])) _
          refine X0.ldcInt hx hown (mvT hZ (hw _ (List.mem_of_getElem? (i := 2) rfl))) (g := (mkF m 45 #[vI p0] [(.int p0)])) rfl (hb hby d2_45) _ ?_
          show Steps p.tables e below (s₁.setTop (mkF m 47 #[vI p0] [(.int (55296 : Int32)), (.int p0)])) _
          exact k)
        refine cps (A := (own_ref p0 = own_ref_58 p0) ∧ (Go p.tables e below S0 s₁ (mkF m 58 #[vI p0] []))) (fun tail28 => ?_) ?_
        · skip
          by_cases c47_20 : p0 < (55296 : Int32)
          · skip
            have pre21 : Go p.tables e below S0 s₁ (mkF m 58 #[vI p0] []) := fun t k => pre19 t (by
              refine XS.icmpYes X0.here hx rfl (pc0 := 47) (pc' := 58) rfl (hb hby d2_47) rfl (tlt c47_20).1 (by decide) (by decide) ?_
              show Steps p.tables e below (s₁.setTop (mkF m 58 #[vI p0] [])) _
              exact k)
            exact tail28 ⟨(by simp [own_ref, c1_2, c9_5, c17_8, c47_20]), pre21⟩
          · skip
            have pre22 : Go p.tables e below S0 s₁ (mkF m 53 #[vI p0] [(.int (57343 : Int32)), (.int p0)]) := fun t k => pre19 t (by
              refine XS.icmpNo X0.here hx rfl (hb hby d2_47) rfl (flt c47_20).1 ?_
              show Steps p.tables e below (s₁.setTop (mkF m 50 #[vI p0] [])) _
              refine XS.iloadN X0.here hx rfl (hb hby d2_50) rfl ?_
              show Steps p.tables e below (s₁.setTop (mkF m 51 #[vI p0] [(.int p0)])) _
              refine X0.ldcInt hx hown (mvT hZ (hw _ (List.mem_of_getElem? (i := 3) rfl))) (g := (mkF m 51 #[vI p0] [(.int p0)])) rfl (hb hby d2_51) _ ?_
              show Steps p.tables e below (s₁.setTop (mkF m 53 #[vI p0] [(.int (57343 : Int32)), (.int p0)])) _
              exact k)
            by_cases c53_23 : (57343 : Int32) < p0
            · skip
              have pre24 : Go p.tables e below S0 s₁ (mkF m 58 #[vI p0] []) := fun t k => pre22 t (by
                refine XS.icmpYes X0.here hx rfl (pc0 := 53) (pc' := 58) rfl (hb hby d2_53) rfl (tlt c53_23).2.2.1 (by decide) (by decide) ?_
                show Steps p.tables e below (s₁.setTop (mkF m 58 #[vI p0] [])) _
                exact k)
              exact tail28 ⟨(by simp [own_ref, c1_2, c9_5, c17_8, c47_20, c53_23]), pre24⟩
            · skip
              have pre25 : Go p.tables e below S0 s₁ (mkF m 57 #[vI p0] [(.int (0 : Int32))]) := fun t k => pre22 t (by
                refine XS.icmpNo X0.here hx rfl (hb hby d2_53) rfl (flt c53_23).2.2.1 ?_
                show Steps p.tables e below (s₁.setTop (mkF m 56 #[vI p0] [])) _
                refine XS.iconst X0.here hx rfl (hb hby d2_56) ?_
                show Steps p.tables e below (s₁.setTop (mkF m 57 #[vI p0] [(.int (0 : Int32))])) _
                exact k)
              obtain ⟨fs, hr, hrun, hended, hW, hsame⟩ := X0.leave (v := some (.int (0 : Int32))) (fun h => by rw [Bd.returns] at h; cases h)
              exact ⟨_, _, pre25.fin hS0 (retN X0 hx (t := .boolean) Bd.returns (by simp) (hb hby d2_57) hr), hrun, hended, _, _, rfl, (by
                show Q2 Z p0 h0 n0 _ s₁.heap _
                rw [e0]
                exact ⟨congrArg (fun z => some (Value.int z)) (by simp [own_ref, c1_2, c9_5, c17_8, c47_20, c53_23]), N0, rfl⟩), ⟨_, rfl⟩, hW, hsame.mono (by decide) (by decide)⟩
        rintro ⟨hj58_26, pre27⟩
        have pre29 : Go p.tables e below S0 s₁ (mkF m 61 #[vI p0] [(.int (65534 : Int32)), (.int p0)]) := fun t k => pre27 t (by
          refine XS.iloadN X0.here hx rfl (hb hby d2_58) rfl ?_
          show Steps p.tables e below (s₁.setTop (mkF m 59 #[vI p0] [(.int p0)])) _
          refine X0.ldcInt hx hown (mvT hZ (hw _ (List.mem_of_getElem? (i := 6) rfl))) (g := (mkF m 59 #[vI p0] [(.int p0)])) rfl (hb hby d2_59) _ ?_
          show Steps p.tables e below (s₁.setTop (mkF m 61 #[vI p0] [(.int (65534 : Int32)), (.int p0)])) _
          exact k)
        by_cases c61_30 : p0 = (65534 : Int32)
        · skip
          have pre31 : Go p.tables e below S0 s₁ (mkF m 71 #[vI p0] [(.int (0 : Int32))]) := fun t k => pre29 t (by
            refine XS.icmpYes X0.here hx rfl (pc0 := 61) (pc' := 70) rfl (hb hby d2_61) rfl (teq c61_30).1 (by decide) (by decide) ?_
            show Steps p.tables e below (s₁.setTop (mkF m 70 #[vI p0] [])) _
            refine XS.iconst X0.here hx rfl (hb hby d2_70) ?_
            show Steps p.tables e below (s₁.setTop (mkF m 71 #[vI p0] [(.int (0 : Int32))])) _
            exact k)
          obtain ⟨fs, hr, hrun, hended, hW, hsame⟩ := X0.leave (v := some (.int (0 : Int32))) (fun h => by rw [Bd.returns] at h; cases h)
          exact ⟨_, _, pre31.fin hS0 (retN X0 hx (t := .boolean) Bd.returns (by simp) (hb hby d2_71) hr), hrun, hended, _, _, rfl, (by
            show Q2 Z p0 h0 n0 _ s₁.heap _
            rw [e0]
            exact ⟨congrArg (fun z => some (Value.int z)) (by rw [hj58_26]; simp [own_ref_58, c61_30]), N0, rfl⟩), ⟨_, rfl⟩, hW, hsame.mono (by decide) (by decide)⟩
        · skip
          have pre32 : Go p.tables e below S0 s₁ (mkF m 67 #[vI p0] [(.int (65535 : Int32)), (.int p0)]) := fun t k => pre29 t (by
            refine XS.icmpNo X0.here hx rfl (hb hby d2_61) rfl (feq c61_30).1 ?_
            show Steps p.tables e below (s₁.setTop (mkF m 64 #[vI p0] [])) _
            refine XS.iloadN X0.here hx rfl (hb hby d2_64) rfl ?_
            show Steps p.tables e below (s₁.setTop (mkF m 65 #[vI p0] [(.int p0)])) _
            refine X0.ldcInt hx hown (mvT hZ (hw _ (List.mem_of_getElem? (i := 7) rfl))) (g := (mkF m 65 #[vI p0] [(.int p0)])) rfl (hb hby d2_65) _ ?_
            show Steps p.tables e below (s₁.setTop (mkF m 67 #[vI p0] [(.int (65535 : Int32)), (.int p0)])) _
            exact k)
          by_cases c67_33 : p0 = (65535 : Int32)
          · skip
            have pre34 : Go p.tables e below S0 s₁ (mkF m 71 #[vI p0] [(.int (0 : Int32))]) := fun t k => pre32 t (by
              refine XS.icmpNo X0.here hx rfl (hb hby d2_67) rfl (teq c67_33).2 ?_
              show Steps p.tables e below (s₁.setTop (mkF m 70 #[vI p0] [])) _
              refine XS.iconst X0.here hx rfl (hb hby d2_70) ?_
              show Steps p.tables e below (s₁.setTop (mkF m 71 #[vI p0] [(.int (0 : Int32))])) _
              exact k)
            obtain ⟨fs, hr, hrun, hended, hW, hsame⟩ := X0.leave (v := some (.int (0 : Int32))) (fun h => by rw [Bd.returns] at h; cases h)
            exact ⟨_, _, pre34.fin hS0 (retN X0 hx (t := .boolean) Bd.returns (by simp) (hb hby d2_71) hr), hrun, hended, _, _, rfl, (by
              show Q2 Z p0 h0 n0 _ s₁.heap _
              rw [e0]
              exact ⟨congrArg (fun z => some (Value.int z)) (by rw [hj58_26]; simp [own_ref_58, c61_30, c67_33]), N0, rfl⟩), ⟨_, rfl⟩, hW, hsame.mono (by decide) (by decide)⟩
          · skip
            have pre35 : Go p.tables e below S0 s₁ (mkF m 73 #[vI p0] [(.int (1 : Int32))]) := fun t k => pre32 t (by
              refine XS.icmpYes X0.here hx rfl (pc0 := 67) (pc' := 72) rfl (hb hby d2_67) rfl (feq c67_33).2 (by decide) (by decide) ?_
              show Steps p.tables e below (s₁.setTop (mkF m 72 #[vI p0] [])) _
              refine XS.iconst X0.here hx rfl (hb hby d2_72) ?_
              show Steps p.tables e below (s₁.setTop (mkF m 73 #[vI p0] [(.int (1 : Int32))])) _
              exact k)
            obtain ⟨fs, hr, hrun, hended, hW, hsame⟩ := X0.leave (v := some (.int (1 : Int32))) (fun h => by rw [Bd.returns] at h; cases h)
            exact ⟨_, _, pre35.fin hS0 (retN X0 hx (t := .boolean) Bd.returns (by simp) (hb hby d2_73) hr), hrun, hended, _, _, rfl, (by
              show Q2 Z p0 h0 n0 _ s₁.heap _
              rw [e0]
              exact ⟨congrArg (fun z => some (Value.int z)) (by rw [hj58_26]; simp [own_ref_58, c61_30, c67_33]), N0, rfl⟩), ⟨_, rfl⟩, hW, hsame.mono (by decide) (by decide)⟩
theorem own_same (c : Int32) : own_isc c = own_ref c := by
  simp only [own_isc, own_isc_42, own_isc_12, own_ref, own_ref_58, Int32.lt_iff_toInt_lt, ← Int32.toInt_inj, Int32.reduceToInt]
  generalize c.toInt = z
  repeat' split
  all_goals first | rfl | (exfalso; omega)
theorem own_getI (xs : List Int32) (k : Nat) : (xs.map Value.int).getD k (.int (0 : Int32)) = .int (xs.getD k 0) := by
  induction xs generalizing k with
  | nil => rfl
  | cons a t ih => cases k with
    | zero => rfl
    | succ n => exact ih n
theorem own_idx {x i : Int32} (h : i = (x &&& (2147483647 : Int32)) % (16 : Int32)) : ¬ i < 0 ∧ i < (16 : Int32) := by
  have h0 : 0 ≤ (x &&& (2147483647 : Int32)).toInt := by rw [c_mask x (2147483647 : Int32) 31 (by decide) (by decide)]; omega
  have h1 := (c_iremV (x &&& (2147483647 : Int32)) (16 : Int32)).1 h0 (by decide)
  rw [← h] at h1
  simp only [Int32.lt_iff_toInt_lt, Int32.reduceToInt] at *
  omega
theorem ef_0 (m : MethodId) (x0 : Int32) (x1 : Int32) (x2 : Int32) : entryFrame m #[(.int x0), (.int x1), (.int x2)] maxLocals = mkF m 0 #[.val (.int x0), .val (.int x1), .val (.int x2), .unset, .unset, .unset, .unset, .unset, .unset] [] := by first | (simp [entryFrame, mkF, argsToLocals, Value.category, maxLocals]; done) | rfl
theorem pd_0 : parseMethodDescriptor "(I)Z" = some ⟨[.int], some .boolean⟩ := by decide +kernel
def Q0 (Z : State) (p0 p1 p2 : Int32) (h0 : Heap) (n0 : Nat) (v : Option Value) (h : Heap) (L : List Loc) : Prop := v = some (.int 1) ∧ Fr n0 L
set_option maxRecDepth 65536 in
set_option maxHeartbeats 40000000 in
theorem rm0 (l : Launch) (Z : State) (A0 : Array Value) (hw : ∀ d ∈ tables_1, d.before A0 Z = true) (ws : List Jvm.Cond) (p0 : Int32) (p1 : Int32) (p2 : Int32)  (h0 : Heap) (n0 : Nat) (Z0 : n0 ≤ h0.size)  :
    MetFree l x (head1 (Jvm.Cond.code x code maxLocals ret :: ws) room_1) (fun a U => a = #[(.int p0), (.int p1), (.int p2)] ∧ Z.Warmed39 U.vm ∧ U.heap = h0) (fun _ _ _ _ _ => True) (fun _ U o U' => ∃ v L, o = .returned v ∧ Q0 Z p0 p1 p2 h0 n0 v U'.heap L ∧ FrameEnd U o U' L 1 16) := by
  refine MetFree.of_bodySF (plainFor_of_name pn_1) hisR ?_
  intro p e s m args below meth c s₁ Bd hml0 hP hK
  obtain ⟨rfl, hZ, hh⟩ := hP
  have hx := Bd.exec
  have hby := Bd.bytes
  have hml : c.maxLocals = 9 := hml0
  have hown : s.vm.findClass "com/example/ratatoskr/ratatoskr/xml/XmlCharsIsCharPinLaw" = some m.cls := findClass_of_methodNamed Bd.named
  have hnm := (name_of_methodNamed Bd.named Bd.method).1
  have X0 : Stand p l e room_1 s m #[(.int p0), (.int p1), (.int p2)] below meth c s₁ [] 0 0 := Stand.of_body Bd
  have e0 : s₁.heap = h0 := by rw [← hh, Bd.state]; rfl
  have N0 := Fr.nil n0
  obtain ⟨S0, hS0⟩ : ∃ z, z = s₁.setTop (entryFrame m #[(.int p0), (.int p1), (.int p2)] maxLocals) := ⟨_, rfl⟩
  have pre0 : Go p.tables e below S0 s₁ (mkF m 0 #[vI p0, vI p1, vI p2, .unset, .unset, .unset, .unset, .unset, .unset] []) := fun t k => by rw [hS0]; exact castTop (ef_0 m p0 p1 p2) k
  have pre1 : Go p.tables e below S0 s₁ (mkF m 2 #[vI p0, vI p1, vI p2, .unset, .unset, .unset, .unset, .unset, .unset] [(.int (16 : Int32))]) := fun t k => pre0 t (by
    refine XS.bipush X0.here hx rfl (hb hby at_0) ?_
    show Steps p.tables e below (s₁.setTop (mkF m 2 #[vI p0, vI p1, vI p2, .unset, .unset, .unset, .unset, .unset, .unset] [(.int (16 : Int32))])) _
    exact k)
  obtain ⟨T2, h2, k2, X2, e2, E2, A2, st2⟩ := newP X0 hx hZ (hw _ (List.mem_of_getElem? (i := 0) rfl)) e0 (g := (mkF m 2 #[vI p0, vI p1, vI p2, .unset, .unset, .unset, .unset, .unset, .unset] [(.int (16 : Int32))])) rfl (hb hby at_2) rfl (by decide) (cap := 16) (by decide) (by decide) (by decide) (by decide)
  obtain ⟨b2, g2⟩ : ∃ z, z = h0.size := ⟨_, rfl⟩
  rw [← g2] at A2 st2
  have pre2 : Go p.tables e below S0 T2 (mkF m 4 #[vI p0, vI p1, vI p2, .unset, .unset, .unset, .unset, .unset, .unset] [(.ref b2)]) := fun t k => pre1 t (st2 t k)
  have bo2 : n0 ≤ b2 := Nat.le_trans Z0 (Nat.le_of_eq g2.symm)
  have zz4 : n0 ≤ h2.size := Nat.le_trans Z0 E2.1
  have av2 : Arv Z h2 b2 k2 .int (16 : Int32) [(.int (0 : Int32)), (.int (0 : Int32)), (.int (0 : Int32)), (.int (0 : Int32)), (.int (0 : Int32)), (.int (0 : Int32)), (.int (0 : Int32)), (.int (0 : Int32)), (.int (0 : Int32)), (.int (0 : Int32)), (.int (0 : Int32)), (.int (0 : Int32)), (.int (0 : Int32)), (.int (0 : Int32)), (.int (0 : Int32)), (.int (0 : Int32))] (.int (0 : Int32)) := (Arv.new A2 (by decide)).pad (pad_rep [] (.int (0 : Int32)) 16)
  have pre5 : Go p.tables e below S0 T2 (mkF m 7 #[vI p0, vI p1, vI p2, .unset, .unset, .unset, .unset, .unset, .unset] [(.int (0 : Int32)), (.int (0 : Int32)), (.ref b2), (.ref b2)]) := fun t k => pre2 t (by
    refine XS.dup X2.here hx rfl (hb hby at_4) rfl rfl ?_
    show Steps p.tables e below (T2.setTop (mkF m 5 #[vI p0, vI p1, vI p2, .unset, .unset, .unset, .unset, .unset, .unset] [(.ref b2), (.ref b2)])) _
    refine XS.iconst X2.here hx rfl (hb hby at_5) ?_
    show Steps p.tables e below (T2.setTop (mkF m 6 #[vI p0, vI p1, vI p2, .unset, .unset, .unset, .unset, .unset, .unset] [(.int (0 : Int32)), (.ref b2), (.ref b2)])) _
    refine XS.iconst X2.here hx rfl (hb hby at_6) ?_
    show Steps p.tables e below (T2.setTop (mkF m 7 #[vI p0, vI p1, vI p2, .unset, .unset, .unset, .unset, .unset, .unset] [(.int (0 : Int32)), (.int (0 : Int32)), (.ref b2), (.ref b2)])) _
    exact k)
  obtain ⟨cl6, Ar6, q6, S6, M6, H6, G6⟩ := av2
  have in6 : ¬ ((0 : Int32) < 0 ∨ cl6.slots.size ≤ ((0 : Int32)).toNatClampNeg) := inb_of S6 ⟨by decide, by decide⟩
  obtain ⟨T6, h6, X6, e6, W6, st6⟩ := stI X2 hx hZ e2 Ar6 (j := (0 : Int32)) in6 (g := (mkF m 7 #[vI p0, vI p1, vI p2, .unset, .unset, .unset, .unset, .unset, .unset] [(.int (0 : Int32)), (.int (0 : Int32)), (.ref b2), (.ref b2)])) rfl rfl (hb hby at_7)
  have pre6 : Go p.tables e below S0 T6 (mkF m 8 #[vI p0, vI p1, vI p2, .unset, .unset, .unset, .unset, .unset, .unset] [(.ref b2)]) := fun t k => pre5 t (st6 t k)
  have N6 := Fr.snoc X6 N0 bo2
  have av6 : Arv Z h6 b2 k2 .int (16 : Int32) [(.int (0 : Int32)), (.int (0 : Int32)), (.int (0 : Int32)), (.int (0 : Int32)), (.int (0 : Int32)), (.int (0 : Int32)), (.int (0 : Int32)), (.int (0 : Int32)), (.int (0 : Int32)), (.int (0 : Int32)), (.int (0 : Int32)), (.int (0 : Int32)), (.int (0 : Int32)), (.int (0 : Int32)), (.int (0 : Int32)), (.int (0 : Int32))] (.int (0 : Int32)) := Arv.set Ar6 q6 S6 M6 H6 G6 rfl W6 0 rfl (Nat.le_of_ble_eq_true rfl)
  have zz8 : n0 ≤ h6.size := Nat.le_trans zz4 (Keep.of_wr W6).1
  have pre9 : Go p.tables e below S0 T6 (mkF m 12 #[vI p0, vI p1, vI p2, .unset, .unset, .unset, .unset, .unset, .unset] [(.int (9 : Int32)), (.int (1 : Int32)), (.ref b2), (.ref b2)]) := fun t k => pre6 t (by
    refine XS.dup X6.here hx rfl (hb hby at_8) rfl rfl ?_
    show Steps p.tables e below (T6.setTop (mkF m 9 #[vI p0, vI p1, vI p2, .unset, .unset, .unset, .unset, .unset, .unset] [(.ref b2), (.ref b2)])) _
    refine XS.iconst X6.here hx rfl (hb hby at_9) ?_
    show Steps p.tables e below (T6.setTop (mkF m 10 #[vI p0, vI p1, vI p2, .unset, .unset, .unset, .unset, .unset, .unset] [(.int (1 : Int32)), (.ref b2), (.ref b2)])) _
    refine XS.bipush X6.here hx rfl (hb hby at_10) ?_
    show Steps p.tables e below (T6.setTop (mkF m 12 #[vI p0, vI p1, vI p2, .unset, .unset, .unset, .unset, .unset, .unset] [(.int (9 : Int32)), (.int (1 : Int32)), (.ref b2), (.ref b2)])) _
    exact k)
  obtain ⟨cl10, Ar10, q10, S10, M10, H10, G10⟩ := av6
  have in10 : ¬ ((1 : Int32) < 0 ∨ cl10.slots.size ≤ ((1 : Int32)).toNatClampNeg) := inb_of S10 ⟨by decide, by decide⟩
  obtain ⟨T10, h10, X10, e10, W10, st10⟩ := stI X6 hx hZ e6 Ar10 (j := (1 : Int32)) in10 (g := (mkF m 12 #[vI p0, vI p1, vI p2, .unset, .unset, .unset, .unset, .unset, .unset] [(.int (9 : Int32)), (.int (1 : Int32)), (.ref b2), (.ref b2)])) rfl rfl (hb hby at_12)
  have pre10 : Go p.tables e below S0 T10 (mkF m 13 #[vI p0, vI p1, vI p2, .unset, .unset, .unset, .unset, .unset, .unset] [(.ref b2)]) := fun t k => pre9 t (st10 t k)
  have N10 := Fr.snoc X10 N6 bo2
  have av10 : Arv Z h10 b2 k2 .int (16 : Int32) [(.int (0 : Int32)), (.int (9 : Int32)), (.int (0 : Int32)), (.int (0 : Int32)), (.int (0 : Int32)), (.int (0 : Int32)), (.int (0 : Int32)), (.int (0 : Int32)), (.int (0 : Int32)), (.int (0 : Int32)), (.int (0 : Int32)), (.int (0 : Int32)), (.int (0 : Int32)), (.int (0 : Int32)), (.int (0 : Int32)), (.int (0 : Int32))] (.int (0 : Int32)) := Arv.set Ar10 q10 S10 M10 H10 G10 rfl W10 1 rfl (Nat.le_of_ble_eq_true rfl)
  have zz12 : n0 ≤ h10.size := Nat.le_trans zz8 (Keep.of_wr W10).1
  have pre13 : Go p.tables e below S0 T10 (mkF m 17 #[vI p0, vI p1, vI p2, .unset, .unset, .unset, .unset, .unset, .unset] [(.int (10 : Int32)), (.int (2 : Int32)), (.ref b2), (.ref b2)]) := fun t k => pre10 t (by
    refine XS.dup X10.here hx rfl (hb hby at_13) rfl rfl ?_
    show Steps p.tables e below (T10.setTop (mkF m 14 #[vI p0, vI p1, vI p2, .unset, .unset, .unset, .unset, .unset, .unset] [(.ref b2), (.ref b2)])) _
    refine XS.iconst X10.here hx rfl (hb hby at_14) ?_
    show Steps p.tables e below (T10.setTop (mkF m 15 #[vI p0, vI p1, vI p2, .unset, .unset, .unset, .unset, .unset, .unset] [(.int (2 : Int32)), (.ref b2), (.ref b2)])) _
    refine XS.bipush X10.here hx rfl (hb hby at_15) ?_
    show Steps p.tables e below (T10.setTop (mkF m 17 #[vI p0, vI p1, vI p2, .unset, .unset, .unset, .unset, .unset, .unset] [(.int (10 : Int32)), (.int (2 : Int32)), (.ref b2), (.ref b2)])) _
    exact k)
  obtain ⟨cl14, Ar14, q14, S14, M14, H14, G14⟩ := av10
  have in14 : ¬ ((2 : Int32) < 0 ∨ cl14.slots.size ≤ ((2 : Int32)).toNatClampNeg) := inb_of S14 ⟨by decide, by decide⟩
  obtain ⟨T14, h14, X14, e14, W14, st14⟩ := stI X10 hx hZ e10 Ar14 (j := (2 : Int32)) in14 (g := (mkF m 17 #[vI p0, vI p1, vI p2, .unset, .unset, .unset, .unset, .unset, .unset] [(.int (10 : Int32)), (.int (2 : Int32)), (.ref b2), (.ref b2)])) rfl rfl (hb hby at_17)
  have pre14 : Go p.tables e below S0 T14 (mkF m 18 #[vI p0, vI p1, vI p2, .unset, .unset, .unset, .unset, .unset, .unset] [(.ref b2)]) := fun t k => pre13 t (st14 t k)
  have N14 := Fr.snoc X14 N10 bo2
  have av14 : Arv Z h14 b2 k2 .int (16 : Int32) [(.int (0 : Int32)), (.int (9 : Int32)), (.int (10 : Int32)), (.int (0 : Int32)), (.int (0 : Int32)), (.int (0 : Int32)), (.int (0 : Int32)), (.int (0 : Int32)), (.int (0 : Int32)), (.int (0 : Int32)), (.int (0 : Int32)), (.int (0 : Int32)), (.int (0 : Int32)), (.int (0 : Int32)), (.int (0 : Int32)), (.int (0 : Int32))] (.int (0 : Int32)) := Arv.set Ar14 q14 S14 M14 H14 G14 rfl W14 2 rfl (Nat.le_of_ble_eq_true rfl)
  have zz16 : n0 ≤ h14.size := Nat.le_trans zz12 (Keep.of_wr W14).1
  have pre17 : Go p.tables e below S0 T14 (mkF m 22 #[vI p0, vI p1, vI p2, .unset, .unset, .unset, .unset, .unset, .unset] [(.int (13 : Int32)), (.int (3 : Int32)), (.ref b2), (.ref b2)]) := fun t k => pre14 t (by
    refine XS.dup X14.here hx rfl (hb hby at_18) rfl rfl ?_
    show Steps p.tables e below (T14.setTop (mkF m 19 #[vI p0, vI p1, vI p2, .unset, .unset, .unset, .unset, .unset, .unset] [(.ref b2), (.ref b2)])) _
    refine XS.iconst X14.here hx rfl (hb hby at_19) ?_
    show Steps p.tables e below (T14.setTop (mkF m 20 #[vI p0, vI p1, vI p2, .unset, .unset, .unset, .unset, .unset, .unset] [(.int (3 : Int32)), (.ref b2), (.ref b2)])) _
    refine XS.bipush X14.here hx rfl (hb hby at_20) ?_
    show Steps p.tables e below (T14.setTop (mkF m 22 #[vI p0, vI p1, vI p2, .unset, .unset, .unset, .unset, .unset, .unset] [(.int (13 : Int32)), (.int (3 : Int32)), (.ref b2), (.ref b2)])) _
    exact k)
  obtain ⟨cl18, Ar18, q18, S18, M18, H18, G18⟩ := av14
  have in18 : ¬ ((3 : Int32) < 0 ∨ cl18.slots.size ≤ ((3 : Int32)).toNatClampNeg) := inb_of S18 ⟨by decide, by decide⟩
  obtain ⟨T18, h18, X18, e18, W18, st18⟩ := stI X14 hx hZ e14 Ar18 (j := (3 : Int32)) in18 (g := (mkF m 22 #[vI p0, vI p1, vI p2, .unset, .unset, .unset, .unset, .unset, .unset] [(.int (13 : Int32)), (.int (3 : Int32)), (.ref b2), (.ref b2)])) rfl rfl (hb hby at_22)
  have pre18 : Go p.tables e below S0 T18 (mkF m 23 #[vI p0, vI p1, vI p2, .unset, .unset, .unset, .unset, .unset, .unset] [(.ref b2)]) := fun t k => pre17 t (st18 t k)
  have N18 := Fr.snoc X18 N14 bo2
  have av18 : Arv Z h18 b2 k2 .int (16 : Int32) [(.int (0 : Int32)), (.int (9 : Int32)), (.int (10 : Int32)), (.int (13 : Int32)), (.int (0 : Int32)), (.int (0 : Int32)), (.int (0 : Int32)), (.int (0 : Int32)), (.int (0 : Int32)), (.int (0 : Int32)), (.int (0 : Int32)), (.int (0 : Int32)), (.int (0 : Int32)), (.int (0 : Int32)), (.int (0 : Int32)), (.int (0 : Int32))] (.int (0 : Int32)) := Arv.set Ar18 q18 S18 M18 H18 G18 rfl W18 3 rfl (Nat.le_of_ble_eq_true rfl)
  have zz20 : n0 ≤ h18.size := Nat.le_trans zz16 (Keep.of_wr W18).1
  have pre21 : Go p.tables e below S0 T18 (mkF m 27 #[vI p0, vI p1, vI p2, .unset, .unset, .unset, .unset, .unset, .unset] [(.int (32 : Int32)), (.int (4 : Int32)), (.ref b2), (.ref b2)]) := fun t k => pre18 t (by
    refine XS.dup X18.here hx rfl (hb hby at_23) rfl rfl ?_
    show Steps p.tables e below (T18.setTop (mkF m 24 #[vI p0, vI p1, vI p2, .unset, .unset, .unset, .unset, .unset, .unset] [(.ref b2), (.ref b2)])) _
    refine XS.iconst X18.here hx rfl (hb hby at_24) ?_
    show Steps p.tables e below (T18.setTop (mkF m 25 #[vI p0, vI p1, vI p2, .unset, .unset, .unset, .unset, .unset, .unset] [(.int (4 : Int32)), (.ref b2), (.ref b2)])) _
    refine XS.bipush X18.here hx rfl (hb hby at_25) ?_
    show Steps p.tables e below (T18.setTop (mkF m 27 #[vI p0, vI p1, vI p2, .unset, .unset, .unset, .unset, .unset, .unset] [(.int (32 : Int32)), (.int (4 : Int32)), (.ref b2), (.ref b2)])) _
    exact k)
  obtain ⟨cl22, Ar22, q22, S22, M22, H22, G22⟩ := av18
  have in22 : ¬ ((4 : Int32) < 0 ∨ cl22.slots.size ≤ ((4 : Int32)).toNatClampNeg) := inb_of S22 ⟨by decide, by decide⟩
  obtain ⟨T22, h22, X22, e22, W22, st22⟩ := stI X18 hx hZ e18 Ar22 (j := (4 : Int32)) in22 (g := (mkF m 27 #[vI p0, vI p1, vI p2, .unset, .unset, .unset, .unset, .unset, .unset] [(.int (32 : Int32)), (.int (4 : Int32)), (.ref b2), (.ref b2)])) rfl rfl (hb hby at_27)
  have pre22 : Go p.tables e below S0 T22 (mkF m 28 #[vI p0, vI p1, vI p2, .unset, .unset, .unset, .unset, .unset, .unset] [(.ref b2)]) := fun t k => pre21 t (st22 t k)
  have N22 := Fr.snoc X22 N18 bo2
  have av22 : Arv Z h22 b2 k2 .int (16 : Int32) [(.int (0 : Int32)), (.int (9 : Int32)), (.int (10 : Int32)), (.int (13 : Int32)), (.int (32 : Int32)), (.int (0 : Int32)), (.int (0 : Int32)), (.int (0 : Int32)), (.int (0 : Int32)), (.int (0 : Int32)), (.int (0 : Int32)), (.int (0 : Int32)), (.int (0 : Int32)), (.int (0 : Int32)), (.int (0 : Int32)), (.int (0 : Int32))] (.int (0 : Int32)) := Arv.set Ar22 q22 S22 M22 H22 G22 rfl W22 4 rfl (Nat.le_of_ble_eq_true rfl)
  have zz24 : n0 ≤ h22.size := Nat.le_trans zz20 (Keep.of_wr W22).1
  have pre25 : Go p.tables e below S0 T22 (mkF m 32 #[vI p0, vI p1, vI p2, .unset, .unset, .unset, .unset, .unset, .unset] [(.int (55295 : Int32)), (.int (5 : Int32)), (.ref b2), (.ref b2)]) := fun t k => pre22 t (by
    refine XS.dup X22.here hx rfl (hb hby at_28) rfl rfl ?_
    show Steps p.tables e below (T22.setTop (mkF m 29 #[vI p0, vI p1, vI p2, .unset, .unset, .unset, .unset, .unset, .unset] [(.ref b2), (.ref b2)])) _
    refine XS.iconst X22.here hx rfl (hb hby at_29) ?_
    show Steps p.tables e below (T22.setTop (mkF m 30 #[vI p0, vI p1, vI p2, .unset, .unset, .unset, .unset, .unset, .unset] [(.int (5 : Int32)), (.ref b2), (.ref b2)])) _
    refine X22.ldcInt hx hown (mvT hZ (hw _ (List.mem_of_getElem? (i := 1) rfl))) (g := (mkF m 30 #[vI p0, vI p1, vI p2, .unset, .unset, .unset, .unset, .unset, .unset] [(.int (5 : Int32)), (.ref b2), (.ref b2)])) rfl (hb hby at_30) _ ?_
    show Steps p.tables e below (T22.setTop (mkF m 32 #[vI p0, vI p1, vI p2, .unset, .unset, .unset, .unset, .unset, .unset] [(.int (55295 : Int32)), (.int (5 : Int32)), (.ref b2), (.ref b2)])) _
    exact k)
  obtain ⟨cl26, Ar26, q26, S26, M26, H26, G26⟩ := av22
  have in26 : ¬ ((5 : Int32) < 0 ∨ cl26.slots.size ≤ ((5 : Int32)).toNatClampNeg) := inb_of S26 ⟨by decide, by decide⟩
  obtain ⟨T26, h26, X26, e26, W26, st26⟩ := stI X22 hx hZ e22 Ar26 (j := (5 : Int32)) in26 (g := (mkF m 32 #[vI p0, vI p1, vI p2, .unset, .unset, .unset, .unset, .unset, .unset] [(.int (55295 : Int32)), (.int (5 : Int32)), (.ref b2), (.ref b2)])) rfl rfl (hb hby at_32)
  have pre26 : Go p.tables e below S0 T26 (mkF m 33 #[vI p0, vI p1, vI p2, .unset, .unset, .unset, .unset, .unset, .unset] [(.ref b2)]) := fun t k => pre25 t (st26 t k)
  have N26 := Fr.snoc X26 N22 bo2
  have av26 : Arv Z h26 b2 k2 .int (16 : Int32) [(.int (0 : Int32)), (.int (9 : Int32)), (.int (10 : Int32)), (.int (13 : Int32)), (.int (32 : Int32)), (.int (55295 : Int32)), (.int (0 : Int32)), (.int (0 : Int32)), (.int (0 : Int32)), (.int (0 : Int32)), (.int (0 : Int32)), (.int (0 : Int32)), (.int (0 : Int32)), (.int (0 : Int32)), (.int (0 : Int32)), (.int (0 : Int32))] (.int (0 : Int32)) := Arv.set Ar26 q26 S26 M26 H26 G26 rfl W26 5 rfl (Nat.le_of_ble_eq_true rfl)
  have zz28 : n0 ≤ h26.size := Nat.le_trans zz24 (Keep.of_wr W26).1
  have pre29 : Go p.tables e below S0 T26 (mkF m 38 #[vI p0, vI p1, vI p2, .unset, .unset, .unset, .unset, .unset, .unset] [(.int (55296 : Int32)), (.int (6 : Int32)), (.ref b2), (.ref b2)]) := fun t k => pre26 t (by
    refine XS.dup X26.here hx rfl (hb hby at_33) rfl rfl ?_
    show Steps p.tables e below (T26.setTop (mkF m 34 #[vI p0, vI p1, vI p2, .unset, .unset, .unset, .unset, .unset, .unset] [(.ref b2), (.ref b2)])) _
    refine XS.bipush X26.here hx rfl (hb hby at_34) ?_
    show Steps p.tables e below (T26.setTop (mkF m 36 #[vI p0, vI p1, vI p2, .unset, .unset, .unset, .unset, .unset, .unset] [(.int (6 : Int32)), (.ref b2), (.ref b2)])) _
    refine X26.ldcInt hx hown (mvT hZ (hw _ (List.mem_of_getElem? (i := 2) rfl))) (g := (mkF m 36 #[vI p0, vI p1, vI p2, .unset, .unset, .unset, .unset, .unset, .unset] [(.int (6 : Int32)), (.ref b2), (.ref b2)])) rfl (hb hby at_36) _ ?_
    show Steps p.tables e below (T26.setTop (mkF m 38 #[vI p0, vI p1, vI p2, .unset, .unset, .unset, .unset, .unset, .unset] [(.int (55296 : Int32)), (.int (6 : Int32)), (.ref b2), (.ref b2)])) _
    exact k)
  obtain ⟨cl30, Ar30, q30, S30, M30, H30, G30⟩ := av26
  have in30 : ¬ ((6 : Int32) < 0 ∨ cl30.slots.size ≤ ((6 : Int32)).toNatClampNeg) := inb_of S30 ⟨by decide, by decide⟩
  obtain ⟨T30, h30, X30, e30, W30, st30⟩ := stI X26 hx hZ e26 Ar30 (j := (6 : Int32)) in30 (g := (mkF m 38 #[vI p0, vI p1, vI p2, .unset, .unset, .unset, .unset, .unset, .unset] [(.int (55296 : Int32)), (.int (6 : Int32)), (.ref b2), (.ref b2)])) rfl rfl (hb hby at_38)
  have pre30 : Go p.tables e below S0 T30 (mkF m 39 #[vI p0, vI p1, vI p2, .unset, .unset, .unset, .unset, .unset, .unset] [(.ref b2)]) := fun t k => pre29 t (st30 t k)
  have N30 := Fr.snoc X30 N26 bo2
  have av30 : Arv Z h30 b2 k2 .int (16 : Int32) [(.int (0 : Int32)), (.int (9 : Int32)), (.int (10 : Int32)), (.int (13 : Int32)), (.int (32 : Int32)), (.int (55295 : Int32)), (.int (55296 : Int32)), (.int (0 : Int32)), (.int (0 : Int32)), (.int (0 : Int32)), (.int (0 : Int32)), (.int (0 : Int32)), (.int (0 : Int32)), (.int (0 : Int32)), (.int (0 : Int32)), (.int (0 : Int32))] (.int (0 : Int32)) := Arv.set Ar30 q30 S30 M30 H30 G30 rfl W30 6 rfl (Nat.le_of_ble_eq_true rfl)
  have zz32 : n0 ≤ h30.size := Nat.le_trans zz28 (Keep.of_wr W30).1
  have pre33 : Go p.tables e below S0 T30 (mkF m 44 #[vI p0, vI p1, vI p2, .unset, .unset, .unset, .unset, .unset, .unset] [(.int (57343 : Int32)), (.int (7 : Int32)), (.ref b2), (.ref b2)]) := fun t k => pre30 t (by
    refine XS.dup X30.here hx rfl (hb hby at_39) rfl rfl ?_
    show Steps p.tables e below (T30.setTop (mkF m 40 #[vI p0, vI p1, vI p2, .unset, .unset, .unset, .unset, .unset, .unset] [(.ref b2), (.ref b2)])) _
    refine XS.bipush X30.here hx rfl (hb hby at_40) ?_
    show Steps p.tables e below (T30.setTop (mkF m 42 #[vI p0, vI p1, vI p2, .unset, .unset, .unset, .unset, .unset, .unset] [(.int (7 : Int32)), (.ref b2), (.ref b2)])) _
    refine X30.ldcInt hx hown (mvT hZ (hw _ (List.mem_of_getElem? (i := 3) rfl))) (g := (mkF m 42 #[vI p0, vI p1, vI p2, .unset, .unset, .unset, .unset, .unset, .unset] [(.int (7 : Int32)), (.ref b2), (.ref b2)])) rfl (hb hby at_42) _ ?_
    show Steps p.tables e below (T30.setTop (mkF m 44 #[vI p0, vI p1, vI p2, .unset, .unset, .unset, .unset, .unset, .unset] [(.int (57343 : Int32)), (.int (7 : Int32)), (.ref b2), (.ref b2)])) _
    exact k)
  obtain ⟨cl34, Ar34, q34, S34, M34, H34, G34⟩ := av30
  have in34 : ¬ ((7 : Int32) < 0 ∨ cl34.slots.size ≤ ((7 : Int32)).toNatClampNeg) := inb_of S34 ⟨by decide, by decide⟩
  obtain ⟨T34, h34, X34, e34, W34, st34⟩ := stI X30 hx hZ e30 Ar34 (j := (7 : Int32)) in34 (g := (mkF m 44 #[vI p0, vI p1, vI p2, .unset, .unset, .unset, .unset, .unset, .unset] [(.int (57343 : Int32)), (.int (7 : Int32)), (.ref b2), (.ref b2)])) rfl rfl (hb hby at_44)
  have pre34 : Go p.tables e below S0 T34 (mkF m 45 #[vI p0, vI p1, vI p2, .unset, .unset, .unset, .unset, .unset, .unset] [(.ref b2)]) := fun t k => pre33 t (st34 t k)
  have N34 := Fr.snoc X34 N30 bo2
  have av34 : Arv Z h34 b2 k2 .int (16 : Int32) [(.int (0 : Int32)), (.int (9 : Int32)), (.int (10 : Int32)), (.int (13 : Int32)), (.int (32 : Int32)), (.int (55295 : Int32)), (.int (55296 : Int32)), (.int (57343 : Int32)), (.int (0 : Int32)), (.int (0 : Int32)), (.int (0 : Int32)), (.int (0 : Int32)), (.int (0 : Int32)), (.int (0 : Int32)), (.int (0 : Int32)), (.int (0 : Int32))] (.int (0 : Int32)) := Arv.set Ar34 q34 S34 M34 H34 G34 rfl W34 7 rfl (Nat.le_of_ble_eq_true rfl)
  have zz36 : n0 ≤ h34.size := Nat.le_trans zz32 (Keep.of_wr W34).1
  have pre37 : Go p.tables e below S0 T34 (mkF m 50 #[vI p0, vI p1, vI p2, .unset, .unset, .unset, .unset, .unset, .unset] [(.int (57344 : Int32)), (.int (8 : Int32)), (.ref b2), (.ref b2)]) := fun t k => pre34 t (by
    refine XS.dup X34.here hx rfl (hb hby at_45) rfl rfl ?_
    show Steps p.tables e below (T34.setTop (mkF m 46 #[vI p0, vI p1, vI p2, .unset, .unset, .unset, .unset, .unset, .unset] [(.ref b2), (.ref b2)])) _
    refine XS.bipush X34.here hx rfl (hb hby at_46) ?_
    show Steps p.tables e below (T34.setTop (mkF m 48 #[vI p0, vI p1, vI p2, .unset, .unset, .unset, .unset, .unset, .unset] [(.int (8 : Int32)), (.ref b2), (.ref b2)])) _
    refine X34.ldcInt hx hown (mvT hZ (hw _ (List.mem_of_getElem? (i := 4) rfl))) (g := (mkF m 48 #[vI p0, vI p1, vI p2, .unset, .unset, .unset, .unset, .unset, .unset] [(.int (8 : Int32)), (.ref b2), (.ref b2)])) rfl (hb hby at_48) _ ?_
    show Steps p.tables e below (T34.setTop (mkF m 50 #[vI p0, vI p1, vI p2, .unset, .unset, .unset, .unset, .unset, .unset] [(.int (57344 : Int32)), (.int (8 : Int32)), (.ref b2), (.ref b2)])) _
    exact k)
  obtain ⟨cl38, Ar38, q38, S38, M38, H38, G38⟩ := av34
  have in38 : ¬ ((8 : Int32) < 0 ∨ cl38.slots.size ≤ ((8 : Int32)).toNatClampNeg) := inb_of S38 ⟨by decide, by decide⟩
  obtain ⟨T38, h38, X38, e38, W38, st38⟩ := stI X34 hx hZ e34 Ar38 (j := (8 : Int32)) in38 (g := (mkF m 50 #[vI p0, vI p1, vI p2, .unset, .unset, .unset, .unset, .unset, .unset] [(.int (57344 : Int32)), (.int (8 : Int32)), (.ref b2), (.ref b2)])) rfl rfl (hb hby at_50)
  have pre38 : Go p.tables e below S0 T38 (mkF m 51 #[vI p0, vI p1, vI p2, .unset, .unset, .unset, .unset, .unset, .unset] [(.ref b2)]) := fun t k => pre37 t (st38 t k)
  have N38 := Fr.snoc X38 N34 bo2
  have av38 : Arv Z h38 b2 k2 .int (16 : Int32) [(.int (0 : Int32)), (.int (9 : Int32)), (.int (10 : Int32)), (.int (13 : Int32)), (.int (32 : Int32)), (.int (55295 : Int32)), (.int (55296 : Int32)), (.int (57343 : Int32)), (.int (57344 : Int32)), (.int (0 : Int32)), (.int (0 : Int32)), (.int (0 : Int32)), (.int (0 : Int32)), (.int (0 : Int32)), (.int (0 : Int32)), (.int (0 : Int32))] (.int (0 : Int32)) := Arv.set Ar38 q38 S38 M38 H38 G38 rfl W38 8 rfl (Nat.le_of_ble_eq_true rfl)
  have zz40 : n0 ≤ h38.size := Nat.le_trans zz36 (Keep.of_wr W38).1
  have pre41 : Go p.tables e below S0 T38 (mkF m 56 #[vI p0, vI p1, vI p2, .unset, .unset, .unset, .unset, .unset, .unset] [(.int (65533 : Int32)), (.int (9 : Int32)), (.ref b2), (.ref b2)]) := fun t k => pre38 t (by
    refine XS.dup X38.here hx rfl (hb hby at_51) rfl rfl ?_
    show Steps p.tables e below (T38.setTop (mkF m 52 #[vI p0, vI p1, vI p2, .unset, .unset, .unset, .unset, .unset, .unset] [(.ref b2), (.ref b2)])) _
    refine XS.bipush X38.here hx rfl (hb hby at_52) ?_
    show Steps p.tables e below (T38.setTop (mkF m 54 #[vI p0, vI p1, vI p2, .unset, .unset, .unset, .unset, .unset, .unset] [(.int (9 : Int32)), (.ref b2), (.ref b2)])) _
    refine X38.ldcInt hx hown (mvT hZ (hw _ (List.mem_of_getElem? (i := 5) rfl))) (g := (mkF m 54 #[vI p0, vI p1, vI p2, .unset, .unset, .unset, .unset, .unset, .unset] [(.int (9 : Int32)), (.ref b2), (.ref b2)])) rfl (hb hby at_54) _ ?_
    show Steps p.tables e below (T38.setTop (mkF m 56 #[vI p0, vI p1, vI p2, .unset, .unset, .unset, .unset, .unset, .unset] [(.int (65533 : Int32)), (.int (9 : Int32)), (.ref b2), (.ref b2)])) _
    exact k)
  obtain ⟨cl42, Ar42, q42, S42, M42, H42, G42⟩ := av38
  have in42 : ¬ ((9 : Int32) < 0 ∨ cl42.slots.size ≤ ((9 : Int32)).toNatClampNeg) := inb_of S42 ⟨by decide, by decide⟩
  obtain ⟨T42, h42, X42, e42, W42, st42⟩ := stI X38 hx hZ e38 Ar42 (j := (9 : Int32)) in42 (g := (mkF m 56 #[vI p0, vI p1, vI p2, .unset, .unset, .unset, .unset, .unset, .unset] [(.int (65533 : Int32)), (.int (9 : Int32)), (.ref b2), (.ref b2)])) rfl rfl (hb hby at_56)
  have pre42 : Go p.tables e below S0 T42 (mkF m 57 #[vI p0, vI p1, vI p2, .unset, .unset, .unset, .unset, .unset, .unset] [(.ref b2)]) := fun t k => pre41 t (st42 t k)
  have N42 := Fr.snoc X42 N38 bo2
  have av42 : Arv Z h42 b2 k2 .int (16 : Int32) [(.int (0 : Int32)), (.int (9 : Int32)), (.int (10 : Int32)), (.int (13 : Int32)), (.int (32 : Int32)), (.int (55295 : Int32)), (.int (55296 : Int32)), (.int (57343 : Int32)), (.int (57344 : Int32)), (.int (65533 : Int32)), (.int (0 : Int32)), (.int (0 : Int32)), (.int (0 : Int32)), (.int (0 : Int32)), (.int (0 : Int32)), (.int (0 : Int32))] (.int (0 : Int32)) := Arv.set Ar42 q42 S42 M42 H42 G42 rfl W42 9 rfl (Nat.le_of_ble_eq_true rfl)
  have zz44 : n0 ≤ h42.size := Nat.le_trans zz40 (Keep.of_wr W42).1
  have pre45 : Go p.tables e below S0 T42 (mkF m 62 #[vI p0, vI p1, vI p2, .unset, .unset, .unset, .unset, .unset, .unset] [(.int (65534 : Int32)), (.int (10 : Int32)), (.ref b2), (.ref b2)]) := fun t k => pre42 t (by
    refine XS.dup X42.here hx rfl (hb hby at_57) rfl rfl ?_
    show Steps p.tables e below (T42.setTop (mkF m 58 #[vI p0, vI p1, vI p2, .unset, .unset, .unset, .unset, .unset, .unset] [(.ref b2), (.ref b2)])) _
    refine XS.bipush X42.here hx rfl (hb hby at_58) ?_
    show Steps p.tables e below (T42.setTop (mkF m 60 #[vI p0, vI p1, vI p2, .unset, .unset, .unset, .unset, .unset, .unset] [(.int (10 : Int32)), (.ref b2), (.ref b2)])) _
    refine X42.ldcInt hx hown (mvT hZ (hw _ (List.mem_of_getElem? (i := 6) rfl))) (g := (mkF m 60 #[vI p0, vI p1, vI p2, .unset, .unset, .unset, .unset, .unset, .unset] [(.int (10 : Int32)), (.ref b2), (.ref b2)])) rfl (hb hby at_60) _ ?_
    show Steps p.tables e below (T42.setTop (mkF m 62 #[vI p0, vI p1, vI p2, .unset, .unset, .unset, .unset, .unset, .unset] [(.int (65534 : Int32)), (.int (10 : Int32)), (.ref b2), (.ref b2)])) _
    exact k)
  obtain ⟨cl46, Ar46, q46, S46, M46, H46, G46⟩ := av42
  have in46 : ¬ ((10 : Int32) < 0 ∨ cl46.slots.size ≤ ((10 : Int32)).toNatClampNeg) := inb_of S46 ⟨by decide, by decide⟩
  obtain ⟨T46, h46, X46, e46, W46, st46⟩ := stI X42 hx hZ e42 Ar46 (j := (10 : Int32)) in46 (g := (mkF m 62 #[vI p0, vI p1, vI p2, .unset, .unset, .unset, .unset, .unset, .unset] [(.int (65534 : Int32)), (.int (10 : Int32)), (.ref b2), (.ref b2)])) rfl rfl (hb hby at_62)
  have pre46 : Go p.tables e below S0 T46 (mkF m 63 #[vI p0, vI p1, vI p2, .unset, .unset, .unset, .unset, .unset, .unset] [(.ref b2)]) := fun t k => pre45 t (st46 t k)
  have N46 := Fr.snoc X46 N42 bo2
  have av46 : Arv Z h46 b2 k2 .int (16 : Int32) [(.int (0 : Int32)), (.int (9 : Int32)), (.int (10 : Int32)), (.int (13 : Int32)), (.int (32 : Int32)), (.int (55295 : Int32)), (.int (55296 : Int32)), (.int (57343 : Int32)), (.int (57344 : Int32)), (.int (65533 : Int32)), (.int (65534 : Int32)), (.int (0 : Int32)), (.int (0 : Int32)), (.int (0 : Int32)), (.int (0 : Int32)), (.int (0 : Int32))] (.int (0 : Int32)) := Arv.set Ar46 q46 S46 M46 H46 G46 rfl W46 10 rfl (Nat.le_of_ble_eq_true rfl)
  have zz48 : n0 ≤ h46.size := Nat.le_trans zz44 (Keep.of_wr W46).1
  have pre49 : Go p.tables e below S0 T46 (mkF m 68 #[vI p0, vI p1, vI p2, .unset, .unset, .unset, .unset, .unset, .unset] [(.int (65535 : Int32)), (.int (11 : Int32)), (.ref b2), (.ref b2)]) := fun t k => pre46 t (by
    refine XS.dup X46.here hx rfl (hb hby at_63) rfl rfl ?_
    show Steps p.tables e below (T46.setTop (mkF m 64 #[vI p0, vI p1, vI p2, .unset, .unset, .unset, .unset, .unset, .unset] [(.ref b2), (.ref b2)])) _
    refine XS.bipush X46.here hx rfl (hb hby at_64) ?_
    show Steps p.tables e below (T46.setTop (mkF m 66 #[vI p0, vI p1, vI p2, .unset, .unset, .unset, .unset, .unset, .unset] [(.int (11 : Int32)), (.ref b2), (.ref b2)])) _
    refine X46.ldcInt hx hown (mvT hZ (hw _ (List.mem_of_getElem? (i := 7) rfl))) (g := (mkF m 66 #[vI p0, vI p1, vI p2, .unset, .unset, .unset, .unset, .unset, .unset] [(.int (11 : Int32)), (.ref b2), (.ref b2)])) rfl (hb hby at_66) _ ?_
    show Steps p.tables e below (T46.setTop (mkF m 68 #[vI p0, vI p1, vI p2, .unset, .unset, .unset, .unset, .unset, .unset] [(.int (65535 : Int32)), (.int (11 : Int32)), (.ref b2), (.ref b2)])) _
    exact k)
  obtain ⟨cl50, Ar50, q50, S50, M50, H50, G50⟩ := av46
  have in50 : ¬ ((11 : Int32) < 0 ∨ cl50.slots.size ≤ ((11 : Int32)).toNatClampNeg) := inb_of S50 ⟨by decide, by decide⟩
  obtain ⟨T50, h50, X50, e50, W50, st50⟩ := stI X46 hx hZ e46 Ar50 (j := (11 : Int32)) in50 (g := (mkF m 68 #[vI p0, vI p1, vI p2, .unset, .unset, .unset, .unset, .unset, .unset] [(.int (65535 : Int32)), (.int (11 : Int32)), (.ref b2), (.ref b2)])) rfl rfl (hb hby at_68)
  have pre50 : Go p.tables e below S0 T50 (mkF m 69 #[vI p0, vI p1, vI p2, .unset, .unset, .unset, .unset, .unset, .unset] [(.ref b2)]) := fun t k => pre49 t (st50 t k)
  have N50 := Fr.snoc X50 N46 bo2
  have av50 : Arv Z h50 b2 k2 .int (16 : Int32) [(.int (0 : Int32)), (.int (9 : Int32)), (.int (10 : Int32)), (.int (13 : Int32)), (.int (32 : Int32)), (.int (55295 : Int32)), (.int (55296 : Int32)), (.int (57343 : Int32)), (.int (57344 : Int32)), (.int (65533 : Int32)), (.int (65534 : Int32)), (.int (65535 : Int32)), (.int (0 : Int32)), (.int (0 : Int32)), (.int (0 : Int32)), (.int (0 : Int32))] (.int (0 : Int32)) := Arv.set Ar50 q50 S50 M50 H50 G50 rfl W50 11 rfl (Nat.le_of_ble_eq_true rfl)
  have zz52 : n0 ≤ h50.size := Nat.le_trans zz48 (Keep.of_wr W50).1
  have pre53 : Go p.tables e below S0 T50 (mkF m 74 #[vI p0, vI p1, vI p2, .unset, .unset, .unset, .unset, .unset, .unset] [(.int (65536 : Int32)), (.int (12 : Int32)), (.ref b2), (.ref b2)]) := fun t k => pre50 t (by
    refine XS.dup X50.here hx rfl (hb hby at_69) rfl rfl ?_
    show Steps p.tables e below (T50.setTop (mkF m 70 #[vI p0, vI p1, vI p2, .unset, .unset, .unset, .unset, .unset, .unset] [(.ref b2), (.ref b2)])) _
    refine XS.bipush X50.here hx rfl (hb hby at_70) ?_
    show Steps p.tables e below (T50.setTop (mkF m 72 #[vI p0, vI p1, vI p2, .unset, .unset, .unset, .unset, .unset, .unset] [(.int (12 : Int32)), (.ref b2), (.ref b2)])) _
    refine X50.ldcInt hx hown (mvT hZ (hw _ (List.mem_of_getElem? (i := 8) rfl))) (g := (mkF m 72 #[vI p0, vI p1, vI p2, .unset, .unset, .unset, .unset, .unset, .unset] [(.int (12 : Int32)), (.ref b2), (.ref b2)])) rfl (hb hby at_72) _ ?_
    show Steps p.tables e below (T50.setTop (mkF m 74 #[vI p0, vI p1, vI p2, .unset, .unset, .unset, .unset, .unset, .unset] [(.int (65536 : Int32)), (.int (12 : Int32)), (.ref b2), (.ref b2)])) _
    exact k)
  obtain ⟨cl54, Ar54, q54, S54, M54, H54, G54⟩ := av50
  have in54 : ¬ ((12 : Int32) < 0 ∨ cl54.slots.size ≤ ((12 : Int32)).toNatClampNeg) := inb_of S54 ⟨by decide, by decide⟩
  obtain ⟨T54, h54, X54, e54, W54, st54⟩ := stI X50 hx hZ e50 Ar54 (j := (12 : Int32)) in54 (g := (mkF m 74 #[vI p0, vI p1, vI p2, .unset, .unset, .unset, .unset, .unset, .unset] [(.int (65536 : Int32)), (.int (12 : Int32)), (.ref b2), (.ref b2)])) rfl rfl (hb hby at_74)
  have pre54 : Go p.tables e below S0 T54 (mkF m 75 #[vI p0, vI p1, vI p2, .unset, .unset, .unset, .unset, .unset, .unset] [(.ref b2)]) := fun t k => pre53 t (st54 t k)
  have N54 := Fr.snoc X54 N50 bo2
  have av54 : Arv Z h54 b2 k2 .int (16 : Int32) [(.int (0 : Int32)), (.int (9 : Int32)), (.int (10 : Int32)), (.int (13 : Int32)), (.int (32 : Int32)), (.int (55295 : Int32)), (.int (55296 : Int32)), (.int (57343 : Int32)), (.int (57344 : Int32)), (.int (65533 : Int32)), (.int (65534 : Int32)), (.int (65535 : Int32)), (.int (65536 : Int32)), (.int (0 : Int32)), (.int (0 : Int32)), (.int (0 : Int32))] (.int (0 : Int32)) := Arv.set Ar54 q54 S54 M54 H54 G54 rfl W54 12 rfl (Nat.le_of_ble_eq_true rfl)
  have zz56 : n0 ≤ h54.size := Nat.le_trans zz52 (Keep.of_wr W54).1
  have pre57 : Go p.tables e below S0 T54 (mkF m 80 #[vI p0, vI p1, vI p2, .unset, .unset, .unset, .unset, .unset, .unset] [(.int (1114111 : Int32)), (.int (13 : Int32)), (.ref b2), (.ref b2)]) := fun t k => pre54 t (by
    refine XS.dup X54.here hx rfl (hb hby at_75) rfl rfl ?_
    show Steps p.tables e below (T54.setTop (mkF m 76 #[vI p0, vI p1, vI p2, .unset, .unset, .unset, .unset, .unset, .unset] [(.ref b2), (.ref b2)])) _
    refine XS.bipush X54.here hx rfl (hb hby at_76) ?_
    show Steps p.tables e below (T54.setTop (mkF m 78 #[vI p0, vI p1, vI p2, .unset, .unset, .unset, .unset, .unset, .unset] [(.int (13 : Int32)), (.ref b2), (.ref b2)])) _
    refine X54.ldcInt hx hown (mvT hZ (hw _ (List.mem_of_getElem? (i := 9) rfl))) (g := (mkF m 78 #[vI p0, vI p1, vI p2, .unset, .unset, .unset, .unset, .unset, .unset] [(.int (13 : Int32)), (.ref b2), (.ref b2)])) rfl (hb hby at_78) _ ?_
    show Steps p.tables e below (T54.setTop (mkF m 80 #[vI p0, vI p1, vI p2, .unset, .unset, .unset, .unset, .unset, .unset] [(.int (1114111 : Int32)), (.int (13 : Int32)), (.ref b2), (.ref b2)])) _
    exact k)
  obtain ⟨cl58, Ar58, q58, S58, M58, H58, G58⟩ := av54
  have in58 : ¬ ((13 : Int32) < 0 ∨ cl58.slots.size ≤ ((13 : Int32)).toNatClampNeg) := inb_of S58 ⟨by decide, by decide⟩
  obtain ⟨T58, h58, X58, e58, W58, st58⟩ := stI X54 hx hZ e54 Ar58 (j := (13 : Int32)) in58 (g := (mkF m 80 #[vI p0, vI p1, vI p2, .unset, .unset, .unset, .unset, .unset, .unset] [(.int (1114111 : Int32)), (.int (13 : Int32)), (.ref b2), (.ref b2)])) rfl rfl (hb hby at_80)
  have pre58 : Go p.tables e below S0 T58 (mkF m 81 #[vI p0, vI p1, vI p2, .unset, .unset, .unset, .unset, .unset, .unset] [(.ref b2)]) := fun t k => pre57 t (st58 t k)
  have N58 := Fr.snoc X58 N54 bo2
  have av58 : Arv Z h58 b2 k2 .int (16 : Int32) [(.int (0 : Int32)), (.int (9 : Int32)), (.int (10 : Int32)), (.int (13 : Int32)), (.int (32 : Int32)), (.int (55295 : Int32)), (.int (55296 : Int32)), (.int (57343 : Int32)), (.int (57344 : Int32)), (.int (65533 : Int32)), (.int (65534 : Int32)), (.int (65535 : Int32)), (.int (65536 : Int32)), (.int (1114111 : Int32)), (.int (0 : Int32)), (.int (0 : Int32))] (.int (0 : Int32)) := Arv.set Ar58 q58 S58 M58 H58 G58 rfl W58 13 rfl (Nat.le_of_ble_eq_true rfl)
  have zz60 : n0 ≤ h58.size := Nat.le_trans zz56 (Keep.of_wr W58).1
  have pre61 : Go p.tables e below S0 T58 (mkF m 86 #[vI p0, vI p1, vI p2, .unset, .unset, .unset, .unset, .unset, .unset] [(.int (1114112 : Int32)), (.int (14 : Int32)), (.ref b2), (.ref b2)]) := fun t k => pre58 t (by
    refine XS.dup X58.here hx rfl (hb hby at_81) rfl rfl ?_
    show Steps p.tables e below (T58.setTop (mkF m 82 #[vI p0, vI p1, vI p2, .unset, .unset, .unset, .unset, .unset, .unset] [(.ref b2), (.ref b2)])) _
    refine XS.bipush X58.here hx rfl (hb hby at_82) ?_
    show Steps p.tables e below (T58.setTop (mkF m 84 #[vI p0, vI p1, vI p2, .unset, .unset, .unset, .unset, .unset, .unset] [(.int (14 : Int32)), (.ref b2), (.ref b2)])) _
    refine X58.ldcInt hx hown (mvT hZ (hw _ (List.mem_of_getElem? (i := 10) rfl))) (g := (mkF m 84 #[vI p0, vI p1, vI p2, .unset, .unset, .unset, .unset, .unset, .unset] [(.int (14 : Int32)), (.ref b2), (.ref b2)])) rfl (hb hby at_84) _ ?_
    show Steps p.tables e below (T58.setTop (mkF m 86 #[vI p0, vI p1, vI p2, .unset, .unset, .unset, .unset, .unset, .unset] [(.int (1114112 : Int32)), (.int (14 : Int32)), (.ref b2), (.ref b2)])) _
    exact k)
  obtain ⟨cl62, Ar62, q62, S62, M62, H62, G62⟩ := av58
  have in62 : ¬ ((14 : Int32) < 0 ∨ cl62.slots.size ≤ ((14 : Int32)).toNatClampNeg) := inb_of S62 ⟨by decide, by decide⟩
  obtain ⟨T62, h62, X62, e62, W62, st62⟩ := stI X58 hx hZ e58 Ar62 (j := (14 : Int32)) in62 (g := (mkF m 86 #[vI p0, vI p1, vI p2, .unset, .unset, .unset, .unset, .unset, .unset] [(.int (1114112 : Int32)), (.int (14 : Int32)), (.ref b2), (.ref b2)])) rfl rfl (hb hby at_86)
  have pre62 : Go p.tables e below S0 T62 (mkF m 87 #[vI p0, vI p1, vI p2, .unset, .unset, .unset, .unset, .unset, .unset] [(.ref b2)]) := fun t k => pre61 t (st62 t k)
  have N62 := Fr.snoc X62 N58 bo2
  have av62 : Arv Z h62 b2 k2 .int (16 : Int32) [(.int (0 : Int32)), (.int (9 : Int32)), (.int (10 : Int32)), (.int (13 : Int32)), (.int (32 : Int32)), (.int (55295 : Int32)), (.int (55296 : Int32)), (.int (57343 : Int32)), (.int (57344 : Int32)), (.int (65533 : Int32)), (.int (65534 : Int32)), (.int (65535 : Int32)), (.int (65536 : Int32)), (.int (1114111 : Int32)), (.int (1114112 : Int32)), (.int (0 : Int32))] (.int (0 : Int32)) := Arv.set Ar62 q62 S62 M62 H62 G62 rfl W62 14 rfl (Nat.le_of_ble_eq_true rfl)
  have zz64 : n0 ≤ h62.size := Nat.le_trans zz60 (Keep.of_wr W62).1
  have pre65 : Go p.tables e below S0 T62 (mkF m 92 #[vI p0, vI p1, vI p2, .unset, .unset, .unset, .unset, .unset, .unset] [(.int (-2147483648 : Int32)), (.int (15 : Int32)), (.ref b2), (.ref b2)]) := fun t k => pre62 t (by
    refine XS.dup X62.here hx rfl (hb hby at_87) rfl rfl ?_
    show Steps p.tables e below (T62.setTop (mkF m 88 #[vI p0, vI p1, vI p2, .unset, .unset, .unset, .unset, .unset, .unset] [(.ref b2), (.ref b2)])) _
    refine XS.bipush X62.here hx rfl (hb hby at_88) ?_
    show Steps p.tables e below (T62.setTop (mkF m 90 #[vI p0, vI p1, vI p2, .unset, .unset, .unset, .unset, .unset, .unset] [(.int (15 : Int32)), (.ref b2), (.ref b2)])) _
    refine X62.ldcInt hx hown (mvT hZ (hw _ (List.mem_of_getElem? (i := 11) rfl))) (g := (mkF m 90 #[vI p0, vI p1, vI p2, .unset, .unset, .unset, .unset, .unset, .unset] [(.int (15 : Int32)), (.ref b2), (.ref b2)])) rfl (hb hby at_90) _ ?_
    show Steps p.tables e below (T62.setTop (mkF m 92 #[vI p0, vI p1, vI p2, .unset, .unset, .unset, .unset, .unset, .unset] [(.int (-2147483648 : Int32)), (.int (15 : Int32)), (.ref b2), (.ref b2)])) _
    exact k)
  obtain ⟨cl66, Ar66, q66, S66, M66, H66, G66⟩ := av62
  have in66 : ¬ ((15 : Int32) < 0 ∨ cl66.slots.size ≤ ((15 : Int32)).toNatClampNeg) := inb_of S66 ⟨by decide, by decide⟩
  obtain ⟨T66, h66, X66, e66, W66, st66⟩ := stI X62 hx hZ e62 Ar66 (j := (15 : Int32)) in66 (g := (mkF m 92 #[vI p0, vI p1, vI p2, .unset, .unset, .unset, .unset, .unset, .unset] [(.int (-2147483648 : Int32)), (.int (15 : Int32)), (.ref b2), (.ref b2)])) rfl rfl (hb hby at_92)
  have pre66 : Go p.tables e below S0 T66 (mkF m 93 #[vI p0, vI p1, vI p2, .unset, .unset, .unset, .unset, .unset, .unset] [(.ref b2)]) := fun t k => pre65 t (st66 t k)
  have N66 := Fr.snoc X66 N62 bo2
  have av66 : Arv Z h66 b2 k2 .int (16 : Int32) [(.int (0 : Int32)), (.int (9 : Int32)), (.int (10 : Int32)), (.int (13 : Int32)), (.int (32 : Int32)), (.int (55295 : Int32)), (.int (55296 : Int32)), (.int (57343 : Int32)), (.int (57344 : Int32)), (.int (65533 : Int32)), (.int (65534 : Int32)), (.int (65535 : Int32)), (.int (65536 : Int32)), (.int (1114111 : Int32)), (.int (1114112 : Int32)), (.int (-2147483648 : Int32))] (.int (0 : Int32)) := Arv.set Ar66 q66 S66 M66 H66 G66 rfl W66 15 rfl (Nat.le_of_ble_eq_true rfl)
  have zz68 : n0 ≤ h66.size := Nat.le_trans zz64 (Keep.of_wr W66).1
  obtain ⟨v69, hv69, pre69⟩ : ∃ z : Int32, z = ((p1 &&& (2147483647 : Int32)) % (16 : Int32)) ∧ Go p.tables e below S0 T66 (mkF m 103 #[vI p0, vI p1, vI p2, vR b2, vI z, .unset, .unset, .unset, .unset] []) := ⟨_, rfl, fun t k => pre66 t (by
    refine XS.astoreN X66.here hx rfl (hb hby at_93) rfl rfl (l' := #[vI p0, vI p1, vI p2, vR b2, .unset, .unset, .unset, .unset, .unset]) rfl ?_
    show Steps p.tables e below (T66.setTop (mkF m 94 #[vI p0, vI p1, vI p2, vR b2, .unset, .unset, .unset, .unset, .unset] [])) _
    refine XS.iloadN X66.here hx rfl (hb hby at_94) rfl ?_
    show Steps p.tables e below (T66.setTop (mkF m 95 #[vI p0, vI p1, vI p2, vR b2, .unset, .unset, .unset, .unset, .unset] [(.int p1)])) _
    refine X66.ldcInt hx hown (mvT hZ (hw _ (List.mem_of_getElem? (i := 12) rfl))) (g := (mkF m 95 #[vI p0, vI p1, vI p2, vR b2, .unset, .unset, .unset, .unset, .unset] [(.int p1)])) rfl (hb hby at_95) _ ?_
    show Steps p.tables e below (T66.setTop (mkF m 97 #[vI p0, vI p1, vI p2, vR b2, .unset, .unset, .unset, .unset, .unset] [(.int (2147483647 : Int32)), (.int p1)])) _
    refine XS.iand X66.here hx rfl (hb hby at_97) rfl ?_
    show Steps p.tables e below (T66.setTop (mkF m 98 #[vI p0, vI p1, vI p2, vR b2, .unset, .unset, .unset, .unset, .unset] [(.int (p1 &&& (2147483647 : Int32)))])) _
    refine XS.bipush X66.here hx rfl (hb hby at_98) ?_
    show Steps p.tables e below (T66.setTop (mkF m 100 #[vI p0, vI p1, vI p2, vR b2, .unset, .unset, .unset, .unset, .unset] [(.int (16 : Int32)), (.int (p1 &&& (2147483647 : Int32)))])) _
    refine iremM X66 hx rfl (hb hby at_100) rfl (by decide) ?_
    show Steps p.tables e below (T66.setTop (mkF m 101 #[vI p0, vI p1, vI p2, vR b2, .unset, .unset, .unset, .unset, .unset] [(.int ((p1 &&& (2147483647 : Int32)) % (16 : Int32)))])) _
    refine XS.istore X66.here hx rfl (hb hby at_101) rfl (l' := #[vI p0, vI p1, vI p2, vR b2, vI ((p1 &&& (2147483647 : Int32)) % (16 : Int32)), .unset, .unset, .unset, .unset]) rfl ?_
    show Steps p.tables e below (T66.setTop (mkF m 103 #[vI p0, vI p1, vI p2, vR b2, vI ((p1 &&& (2147483647 : Int32)) % (16 : Int32)), .unset, .unset, .unset, .unset] [])) _
    exact k)⟩
  have ix := own_idx hv69
  obtain ⟨v70, hv70, pre70⟩ : ∃ z : Int32, z = ((p2 &&& (3 : Int32)) - (1 : Int32)) ∧ Go p.tables e below S0 T66 (mkF m 110 #[vI p0, vI p1, vI p2, vR b2, vI v69, vI z, .unset, .unset, .unset] []) := ⟨_, rfl, fun t k => pre69 t (by
    refine XS.iloadN X66.here hx rfl (hb hby at_103) rfl ?_
    show Steps p.tables e below (T66.setTop (mkF m 104 #[vI p0, vI p1, vI p2, vR b2, vI v69, .unset, .unset, .unset, .unset] [(.int p2)])) _
    refine XS.iconst X66.here hx rfl (hb hby at_104) ?_
    show Steps p.tables e below (T66.setTop (mkF m 105 #[vI p0, vI p1, vI p2, vR b2, vI v69, .unset, .unset, .unset, .unset] [(.int (3 : Int32)), (.int p2)])) _
    refine XS.iand X66.here hx rfl (hb hby at_105) rfl ?_
    show Steps p.tables e below (T66.setTop (mkF m 106 #[vI p0, vI p1, vI p2, vR b2, vI v69, .unset, .unset, .unset, .unset] [(.int (p2 &&& (3 : Int32)))])) _
    refine XS.iconst X66.here hx rfl (hb hby at_106) ?_
    show Steps p.tables e below (T66.setTop (mkF m 107 #[vI p0, vI p1, vI p2, vR b2, vI v69, .unset, .unset, .unset, .unset] [(.int (1 : Int32)), (.int (p2 &&& (3 : Int32)))])) _
    refine XS.isub X66.here hx rfl (hb hby at_107) rfl ?_
    show Steps p.tables e below (T66.setTop (mkF m 108 #[vI p0, vI p1, vI p2, vR b2, vI v69, .unset, .unset, .unset, .unset] [(.int ((p2 &&& (3 : Int32)) - (1 : Int32)))])) _
    refine XS.istore X66.here hx rfl (hb hby at_108) rfl (l' := #[vI p0, vI p1, vI p2, vR b2, vI v69, vI ((p2 &&& (3 : Int32)) - (1 : Int32)), .unset, .unset, .unset]) rfl ?_
    show Steps p.tables e below (T66.setTop (mkF m 110 #[vI p0, vI p1, vI p2, vR b2, vI v69, vI ((p2 &&& (3 : Int32)) - (1 : Int32)), .unset, .unset, .unset] [])) _
    exact k)⟩
  have pre71 : Go p.tables e below S0 T66 (mkF m 113 #[vI p0, vI p1, vI p2, vR b2, vI v69, vI v70, .unset, .unset, .unset] [(.int v69), (.ref b2)]) := fun t k => pre70 t (by
    refine XS.aloadN X66.here hx rfl (hb hby at_110) rfl rfl ?_
    show Steps p.tables e below (T66.setTop (mkF m 111 #[vI p0, vI p1, vI p2, vR b2, vI v69, vI v70, .unset, .unset, .unset] [(.ref b2)])) _
    refine XS.iload X66.here hx rfl (hb hby at_111) rfl ?_
    show Steps p.tables e below (T66.setTop (mkF m 113 #[vI p0, vI p1, vI p2, vR b2, vI v69, vI v70, .unset, .unset, .unset] [(.int v69), (.ref b2)])) _
    exact k)
  obtain ⟨cl72, Ar72, q72, S72, M72, H72, G72⟩ := av66
  have in72 : ¬ (v69 < 0 ∨ cl72.slots.size ≤ (v69).toNatClampNeg) := inb_of S72 ix
  have at72 : cl72.slots[(v69).toNatClampNeg]? = some (.int ([(0 : Int32), (9 : Int32), (10 : Int32), (13 : Int32), (32 : Int32), (55295 : Int32), (55296 : Int32), (57343 : Int32), (57344 : Int32), (65533 : Int32), (65534 : Int32), (65535 : Int32), (65536 : Int32), (1114111 : Int32), (1114112 : Int32), (-2147483648 : Int32)].getD (v69).toNatClampNeg 0)) := H72.at in72 (own_getI [(0 : Int32), (9 : Int32), (10 : Int32), (13 : Int32), (32 : Int32), (55295 : Int32), (55296 : Int32), (57343 : Int32), (57344 : Int32), (65533 : Int32), (65534 : Int32), (65535 : Int32), (65536 : Int32), (1114111 : Int32), (1114112 : Int32), (-2147483648 : Int32)] _)
  obtain ⟨v73, hv73, pre73⟩ : ∃ z : Int32, z = (([(0 : Int32), (9 : Int32), (10 : Int32), (13 : Int32), (32 : Int32), (55295 : Int32), (55296 : Int32), (57343 : Int32), (57344 : Int32), (65533 : Int32), (65534 : Int32), (65535 : Int32), (65536 : Int32), (1114111 : Int32), (1114112 : Int32), (-2147483648 : Int32)].getD (v69).toNatClampNeg 0) + v70) ∧ Go p.tables e below S0 T66 (mkF m 119 #[vI p0, vI p1, vI p2, vR b2, vI v69, vI v70, vI z, .unset, .unset] []) := ⟨_, rfl, fun t k => pre71 t (by
    refine X66.iaload hx (j := v69) (v := (.int ([(0 : Int32), (9 : Int32), (10 : Int32), (13 : Int32), (32 : Int32), (55295 : Int32), (55296 : Int32), (57343 : Int32), (57344 : Int32), (65533 : Int32), (65534 : Int32), (65535 : Int32), (65536 : Int32), (1114111 : Int32), (1114112 : Int32), (-2147483648 : Int32)].getD (v69).toNatClampNeg 0))) (by rw [e66]; exact Ar72.1) (State.isArrayOf_alike hZ.alike Ar72.2.1) Ar72.2.2 in72 at72 (g := (mkF m 113 #[vI p0, vI p1, vI p2, vR b2, vI v69, vI v70, .unset, .unset, .unset] [(.int v69), (.ref b2)])) rfl rfl (hb hby at_113) _ ?_
    show Steps p.tables e below (T66.setTop (mkF m 114 #[vI p0, vI p1, vI p2, vR b2, vI v69, vI v70, .unset, .unset, .unset] [(.int ([(0 : Int32), (9 : Int32), (10 : Int32), (13 : Int32), (32 : Int32), (55295 : Int32), (55296 : Int32), (57343 : Int32), (57344 : Int32), (65533 : Int32), (65534 : Int32), (65535 : Int32), (65536 : Int32), (1114111 : Int32), (1114112 : Int32), (-2147483648 : Int32)].getD (v69).toNatClampNeg 0))])) _
    refine XS.iload X66.here hx rfl (hb hby at_114) rfl ?_
    show Steps p.tables e below (T66.setTop (mkF m 116 #[vI p0, vI p1, vI p2, vR b2, vI v69, vI v70, .unset, .unset, .unset] [(.int v70), (.int ([(0 : Int32), (9 : Int32), (10 : Int32), (13 : Int32), (32 : Int32), (55295 : Int32), (55296 : Int32), (57343 : Int32), (57344 : Int32), (65533 : Int32), (65534 : Int32), (65535 : Int32), (65536 : Int32), (1114111 : Int32), (1114112 : Int32), (-2147483648 : Int32)].getD (v69).toNatClampNeg 0))])) _
    refine XS.iadd X66.here hx rfl (hb hby at_116) rfl ?_
    show Steps p.tables e below (T66.setTop (mkF m 117 #[vI p0, vI p1, vI p2, vR b2, vI v69, vI v70, .unset, .unset, .unset] [(.int (([(0 : Int32), (9 : Int32), (10 : Int32), (13 : Int32), (32 : Int32), (55295 : Int32), (55296 : Int32), (57343 : Int32), (57344 : Int32), (65533 : Int32), (65534 : Int32), (65535 : Int32), (65536 : Int32), (1114111 : Int32), (1114112 : Int32), (-2147483648 : Int32)].getD (v69).toNatClampNeg 0) + v70))])) _
    refine XS.istore X66.here hx rfl (hb hby at_117) rfl (l' := #[vI p0, vI p1, vI p2, vR b2, vI v69, vI v70, vI (([(0 : Int32), (9 : Int32), (10 : Int32), (13 : Int32), (32 : Int32), (55295 : Int32), (55296 : Int32), (57343 : Int32), (57344 : Int32), (65533 : Int32), (65534 : Int32), (65535 : Int32), (65536 : Int32), (1114111 : Int32), (1114112 : Int32), (-2147483648 : Int32)].getD (v69).toNatClampNeg 0) + v70), .unset, .unset]) rfl ?_
    show Steps p.tables e below (T66.setTop (mkF m 119 #[vI p0, vI p1, vI p2, vR b2, vI v69, vI v70, vI (([(0 : Int32), (9 : Int32), (10 : Int32), (13 : Int32), (32 : Int32), (55295 : Int32), (55296 : Int32), (57343 : Int32), (57344 : Int32), (65533 : Int32), (65534 : Int32), (65535 : Int32), (65536 : Int32), (1114111 : Int32), (1114112 : Int32), (-2147483648 : Int32)].getD (v69).toNatClampNeg 0) + v70), .unset, .unset] [])) _
    exact k)⟩
  have pre74 : Go p.tables e below S0 T66 (mkF m 120 #[vI p0, vI p1, vI p2, vR b2, vI v69, vI v70, vI v73, .unset, .unset] [(.int p0)]) := fun t k => pre73 t (by
    refine XS.iloadN X66.here hx rfl (hb hby at_119) rfl ?_
    show Steps p.tables e below (T66.setTop (mkF m 120 #[vI p0, vI p1, vI p2, vR b2, vI v69, vI v70, vI v73, .unset, .unset] [(.int p0)])) _
    exact k)
  obtain ⟨_, _, ⟨T75, L75, k75, n75⟩, -, X75, ⟨Lc75, hQ75, l75, y75, z75⟩, st75⟩ := Jvm.LawKit.callS X66 hx (y := (⟨"com/example/ratatoskr/ratatoskr/xml/XmlChars", "isChar", "(I)Z"⟩ : MethodName)) hown (mvT hZ (hw _ (List.mem_of_getElem? (i := 13) rfl))) (mvT hZ (hw _ (List.mem_of_getElem? (i := 14) rfl))) (mvT hZ (hw _ (List.mem_of_getElem? (i := 15) rfl))) (mvT hZ (hw _ (List.mem_of_getElem? (i := 16) rfl))) (by decide) (backOf (W := 0) (rm1 l Z A0 hw [] p0 h66 n0 zz68) hZ (hw _ (List.mem_of_getElem? (i := 16) rfl)) (hw _ (List.mem_of_getElem? (i := 15) rfl)) (by decide) (by decide)) (g := (mkF m 120 #[vI p0, vI p1, vI p2, vR b2, vI v69, vI v70, vI v73, .unset, .unset] [(.int p0)])) rfl (by rw [hml]; rfl) (argsL := [(.int p0)]) (rest := []) (lenOf pd_0 rfl) rfl (by show 2 * 0 + _ ≤ _; exact Nat.le_of_eq rfl) (hb hby at_120) (fun _ _ => ⟨rfl, e66, (by decide : 1 + 0 ≤ _), (by decide : 16 + 0 ≤ _)⟩)
  dsimp only [Pt.U, Pt.locs, Pt.cells, Pt.slots] at X75 l75 y75 z75 st75 hQ75
  subst l75 y75 z75
  obtain ⟨rfl, Nq75, eq75⟩ := hQ75
  have N75 := Fr.app N66 Nq75
  have pre75 : Go p.tables e below S0 T75 (mkF m 123 #[vI p0, vI p1, vI p2, vR b2, vI v69, vI v70, vI v73, .unset, .unset] [(.int (own_isc p0))]) := fun t k => pre74 t (st75 t k)
  have pre76 : Go p.tables e below S0 T75 (mkF m 124 #[vI p0, vI p1, vI p2, vR b2, vI v69, vI v70, vI v73, .unset, .unset] [(.int p0), (.int (own_isc p0))]) := fun t k => pre75 t (by
    refine XS.iloadN X75.here hx rfl (hb hby at_123) rfl ?_
    show Steps p.tables e below (T75.setTop (mkF m 124 #[vI p0, vI p1, vI p2, vR b2, vI v69, vI v70, vI v73, .unset, .unset] [(.int p0), (.int (own_isc p0))])) _
    exact k)
  obtain ⟨_, _, ⟨T77, L77, k77, n77⟩, -, X77, ⟨Lc77, hQ77, l77, y77, z77⟩, st77⟩ := Jvm.LawKit.callS X75 hx (y := (⟨"com/example/ratatoskr/ratatoskr/xml/XmlCharsIsCharPinLaw", "ref", "(I)Z"⟩ : MethodName)) hown (mvT hZ (hw _ (List.mem_of_getElem? (i := 19) rfl))) (mvT hZ (hw _ (List.mem_of_getElem? (i := 20) rfl))) (mvT hZ (hw _ (List.mem_of_getElem? (i := 21) rfl))) (mvT hZ (hw _ (List.mem_of_getElem? (i := 22) rfl))) (by decide) (backOf (W := 1) (rm2 l Z A0 hw [] p0 h66 n0 zz68) hZ (hw _ (List.mem_of_getElem? (i := 22) rfl)) (hw _ (List.mem_of_getElem? (i := 21) rfl)) (by decide) (by decide)) (g := (mkF m 124 #[vI p0, vI p1, vI p2, vR b2, vI v69, vI v70, vI v73, .unset, .unset] [(.int p0), (.int (own_isc p0))])) rfl (by rw [hml]; rfl) (argsL := [(.int p0)]) (rest := [(.int (own_isc p0))]) (lenOf pd_0 rfl) rfl (by show 2 * 0 + _ ≤ _; exact Nat.le_of_eq rfl) (hb hby at_124) (fun _ _ => ⟨rfl, eq75, (by decide : 1 + 0 ≤ _), (by decide : 16 + 0 ≤ _)⟩)
  dsimp only [Pt.U, Pt.locs, Pt.cells, Pt.slots] at X77 l77 y77 z77 st77 hQ77
  subst l77 y77 z77
  obtain ⟨rfl, Nq77, eq77⟩ := hQ77
  have N77 := Fr.app N75 Nq77
  have pre77 : Go p.tables e below S0 T77 (mkF m 127 #[vI p0, vI p1, vI p2, vR b2, vI v69, vI v70, vI v73, .unset, .unset] [(.int (own_ref p0)), (.int (own_isc p0))]) := fun t k => pre76 t (st77 t k)
  have cc78 : (own_isc p0) = (own_ref p0) := own_same _
  have pre79 : Go p.tables e below S0 T77 (mkF m 139 #[vI p0, vI p1, vI p2, vR b2, vI v69, vI v70, vI v73, vI (1 : Int32), .unset] [(.int v73)]) := fun t k => pre77 t (by
    refine XS.icmpNo X77.here hx rfl (hb hby at_127) rfl (teq cc78).2 ?_
    show Steps p.tables e below (T77.setTop (mkF m 130 #[vI p0, vI p1, vI p2, vR b2, vI v69, vI v70, vI v73, .unset, .unset] [])) _
    refine XS.iconst X77.here hx rfl (hb hby at_130) ?_
    show Steps p.tables e below (T77.setTop (mkF m 131 #[vI p0, vI p1, vI p2, vR b2, vI v69, vI v70, vI v73, .unset, .unset] [(.int (1 : Int32))])) _
    refine XS.goto X77.here hx rfl (pc0 := 131) (pc' := 135) rfl (hb hby at_131) (by decide) (by decide) ?_
    show Steps p.tables e below (T77.setTop (mkF m 135 #[vI p0, vI p1, vI p2, vR b2, vI v69, vI v70, vI v73, .unset, .unset] [(.int (1 : Int32))])) _
    refine XS.istore X77.here hx rfl (hb hby at_135) rfl (l' := #[vI p0, vI p1, vI p2, vR b2, vI v69, vI v70, vI v73, vI (1 : Int32), .unset]) rfl ?_
    show Steps p.tables e below (T77.setTop (mkF m 137 #[vI p0, vI p1, vI p2, vR b2, vI v69, vI v70, vI v73, vI (1 : Int32), .unset] [])) _
    refine XS.iload X77.here hx rfl (hb hby at_137) rfl ?_
    show Steps p.tables e below (T77.setTop (mkF m 139 #[vI p0, vI p1, vI p2, vR b2, vI v69, vI v70, vI v73, vI (1 : Int32), .unset] [(.int v73)])) _
    exact k)
  obtain ⟨_, _, ⟨T80, L80, k80, n80⟩, -, X80, ⟨Lc80, hQ80, l80, y80, z80⟩, st80⟩ := Jvm.LawKit.callS X77 hx (y := (⟨"com/example/ratatoskr/ratatoskr/xml/XmlChars", "isChar", "(I)Z"⟩ : MethodName)) hown (mvT hZ (hw _ (List.mem_of_getElem? (i := 13) rfl))) (mvT hZ (hw _ (List.mem_of_getElem? (i := 14) rfl))) (mvT hZ (hw _ (List.mem_of_getElem? (i := 15) rfl))) (mvT hZ (hw _ (List.mem_of_getElem? (i := 16) rfl))) (by decide) (backOf (W := 0) (rm1 l Z A0 hw [] v73 h66 n0 zz68) hZ (hw _ (List.mem_of_getElem? (i := 16) rfl)) (hw _ (List.mem_of_getElem? (i := 15) rfl)) (by decide) (by decide)) (g := (mkF m 139 #[vI p0, vI p1, vI p2, vR b2, vI v69, vI v70, vI v73, vI (1 : Int32), .unset] [(.int v73)])) rfl (by rw [hml]; rfl) (argsL := [(.int v73)]) (rest := []) (lenOf pd_0 rfl) rfl (by show 2 * 0 + _ ≤ _; exact Nat.le_of_eq rfl) (hb hby at_139) (fun _ _ => ⟨rfl, eq77, (by decide : 1 + 0 ≤ _), (by decide : 16 + 0 ≤ _)⟩)
  dsimp only [Pt.U, Pt.locs, Pt.cells, Pt.slots] at X80 l80 y80 z80 st80 hQ80
  subst l80 y80 z80
  obtain ⟨rfl, Nq80, eq80⟩ := hQ80
  have N80 := Fr.app N77 Nq80
  have pre80 : Go p.tables e below S0 T80 (mkF m 142 #[vI p0, vI p1, vI p2, vR b2, vI v69, vI v70, vI v73, vI (1 : Int32), .unset] [(.int (own_isc v73))]) := fun t k => pre79 t (st80 t k)
  have pre81 : Go p.tables e below S0 T80 (mkF m 144 #[vI p0, vI p1, vI p2, vR b2, vI v69, vI v70, vI v73, vI (1 : Int32), .unset] [(.int v73), (.int (own_isc v73))]) := fun t k => pre80 t (by
    refine XS.iload X80.here hx rfl (hb hby at_142) rfl ?_
    show Steps p.tables e below (T80.setTop (mkF m 144 #[vI p0, vI p1, vI p2, vR b2, vI v69, vI v70, vI v73, vI (1 : Int32), .unset] [(.int v73), (.int (own_isc v73))])) _
    exact k)
  obtain ⟨_, _, ⟨T82, L82, k82, n82⟩, -, X82, ⟨Lc82, hQ82, l82, y82, z82⟩, st82⟩ := Jvm.LawKit.callS X80 hx (y := (⟨"com/example/ratatoskr/ratatoskr/xml/XmlCharsIsCharPinLaw", "ref", "(I)Z"⟩ : MethodName)) hown (mvT hZ (hw _ (List.mem_of_getElem? (i := 19) rfl))) (mvT hZ (hw _ (List.mem_of_getElem? (i := 20) rfl))) (mvT hZ (hw _ (List.mem_of_getElem? (i := 21) rfl))) (mvT hZ (hw _ (List.mem_of_getElem? (i := 22) rfl))) (by decide) (backOf (W := 1) (rm2 l Z A0 hw [] v73 h66 n0 zz68) hZ (hw _ (List.mem_of_getElem? (i := 22) rfl)) (hw _ (List.mem_of_getElem? (i := 21) rfl)) (by decide) (by decide)) (g := (mkF m 144 #[vI p0, vI p1, vI p2, vR b2, vI v69, vI v70, vI v73, vI (1 : Int32), .unset] [(.int v73), (.int (own_isc v73))])) rfl (by rw [hml]; rfl) (argsL := [(.int v73)]) (rest := [(.int (own_isc v73))]) (lenOf pd_0 rfl) rfl (by show 2 * 0 + _ ≤ _; exact Nat.le_of_eq rfl) (hb hby at_144) (fun _ _ => ⟨rfl, eq80, (by decide : 1 + 0 ≤ _), (by decide : 16 + 0 ≤ _)⟩)
  dsimp only [Pt.U, Pt.locs, Pt.cells, Pt.slots] at X82 l82 y82 z82 st82 hQ82
  subst l82 y82 z82
  obtain ⟨rfl, Nq82, eq82⟩ := hQ82
  have N82 := Fr.app N80 Nq82
  have pre82 : Go p.tables e below S0 T82 (mkF m 147 #[vI p0, vI p1, vI p2, vR b2, vI v69, vI v70, vI v73, vI (1 : Int32), .unset] [(.int (own_ref v73)), (.int (own_isc v73))]) := fun t k => pre81 t (st82 t k)
  have cc83 : (own_isc v73) = (own_ref v73) := own_same _
  have pre84 : Go p.tables e below S0 T82 (mkF m 172 #[vI p0, vI p1, vI p2, vR b2, vI v69, vI v70, vI v73, vI (1 : Int32), vI (1 : Int32)] [(.int (1 : Int32))]) := fun t k => pre82 t (by
    refine XS.icmpNo X82.here hx rfl (hb hby at_147) rfl (teq cc83).2 ?_
    show Steps p.tables e below (T82.setTop (mkF m 150 #[vI p0, vI p1, vI p2, vR b2, vI v69, vI v70, vI v73, vI (1 : Int32), .unset] [])) _
    refine XS.iconst X82.here hx rfl (hb hby at_150) ?_
    show Steps p.tables e below (T82.setTop (mkF m 151 #[vI p0, vI p1, vI p2, vR b2, vI v69, vI v70, vI v73, vI (1 : Int32), .unset] [(.int (1 : Int32))])) _
    refine XS.goto X82.here hx rfl (pc0 := 151) (pc' := 155) rfl (hb hby at_151) (by decide) (by decide) ?_
    show Steps p.tables e below (T82.setTop (mkF m 155 #[vI p0, vI p1, vI p2, vR b2, vI v69, vI v70, vI v73, vI (1 : Int32), .unset] [(.int (1 : Int32))])) _
    refine XS.istore X82.here hx rfl (hb hby at_155) rfl (l' := #[vI p0, vI p1, vI p2, vR b2, vI v69, vI v70, vI v73, vI (1 : Int32), vI (1 : Int32)]) rfl ?_
    show Steps p.tables e below (T82.setTop (mkF m 157 #[vI p0, vI p1, vI p2, vR b2, vI v69, vI v70, vI v73, vI (1 : Int32), vI (1 : Int32)] [])) _
    refine XS.iload X82.here hx rfl (hb hby at_157) rfl ?_
    show Steps p.tables e below (T82.setTop (mkF m 159 #[vI p0, vI p1, vI p2, vR b2, vI v69, vI v70, vI v73, vI (1 : Int32), vI (1 : Int32)] [(.int (1 : Int32))])) _
    refine XS.ifNo X82.here hx rfl (hb hby at_159) rfl ((if0 _ _).trans (feq (by decide : ¬ ((1 : Int32) = (0 : Int32)))).1) ?_
    show Steps p.tables e below (T82.setTop (mkF m 162 #[vI p0, vI p1, vI p2, vR b2, vI v69, vI v70, vI v73, vI (1 : Int32), vI (1 : Int32)] [])) _
    refine XS.iload X82.here hx rfl (hb hby at_162) rfl ?_
    show Steps p.tables e below (T82.setTop (mkF m 164 #[vI p0, vI p1, vI p2, vR b2, vI v69, vI v70, vI v73, vI (1 : Int32), vI (1 : Int32)] [(.int (1 : Int32))])) _
    refine XS.ifNo X82.here hx rfl (hb hby at_164) rfl ((if0 _ _).trans (feq (by decide : ¬ ((1 : Int32) = (0 : Int32)))).1) ?_
    show Steps p.tables e below (T82.setTop (mkF m 167 #[vI p0, vI p1, vI p2, vR b2, vI v69, vI v70, vI v73, vI (1 : Int32), vI (1 : Int32)] [])) _
    refine XS.iconst X82.here hx rfl (hb hby at_167) ?_
    show Steps p.tables e below (T82.setTop (mkF m 168 #[vI p0, vI p1, vI p2, vR b2, vI v69, vI v70, vI v73, vI (1 : Int32), vI (1 : Int32)] [(.int (1 : Int32))])) _
    refine XS.goto X82.here hx rfl (pc0 := 168) (pc' := 172) rfl (hb hby at_168) (by decide) (by decide) ?_
    show Steps p.tables e below (T82.setTop (mkF m 172 #[vI p0, vI p1, vI p2, vR b2, vI v69, vI v70, vI v73, vI (1 : Int32), vI (1 : Int32)] [(.int (1 : Int32))])) _
    exact k)
  obtain ⟨fs, hr, hrun, hended, hW, hsame⟩ := X82.leave (v := some (.int (1 : Int32))) (fun h => by rw [Bd.returns] at h; cases h)
  exact ⟨_, _, pre84.fin hS0 (retN X82 hx (t := .boolean) Bd.returns (by simp) (hb hby at_172) hr), hrun, hended, _, _, rfl, (by
    show Q0 Z p0 p1 p2 h0 n0 _ T82.heap _
    rw [eq82]
    exact ⟨rfl, N82⟩), ⟨_, rfl⟩, hW, hsame.mono (by decide) (by decide)⟩
set_option maxRecDepth 65536 in
set_option maxHeartbeats 40000000 in
theorem comes_1 {Post : Tables → Env → Array Value → State → Outcome → State → Prop} (hpost : ∀ tb e args s v u, (limb_1_1.after args s (.returned v) u = true ∧ limb_1_2.after args s (.returned v) u = true ∧ True) → FrameEnd s (.returned v) u (Jvm.fieldLocs frame_1_writes args s ++ Jvm.arrayLocs frame_1_arrays args s ++ Jvm.staticLocs frame_1_statics s) 16 128 → Post tb e args s (.returned v) u) :
    ArmFor flags0 classFile x code maxLocals ret World_1 tables_1 room_1 Calls_1 rest_1 Pre_1 Post := by
  intro l hfl _ _ p e ha hc hk s m args below hf hA hF happ hP
  obtain ⟨hcalls, hrest, hpre⟩ := hP
  obtain ⟨-, -, -, hnamed, -, -, -, hat⟩ := (Spec.applies_iff hf).mp happ
  obtain ⟨hg, hn⟩ := and_e (Cond.before_iff.mp (show (Jvm.Cond.and given_1 narrow_1).before args s = true from hpre))
  obtain ⟨g0, r0⟩ := and_e hg
  obtain ⟨g1, r1⟩ := and_e r0
  obtain ⟨g2, r2⟩ := and_e r1
  obtain ⟨w0, w1, w2, rfl⟩ : ∃ w0 w1 w2 : Value, args = #[w0, w1, w2] := by
    have hs : args.size = 3 := by simpa [Cond.value, given_1] using g0
    obtain ⟨L⟩ := args
    match L, hs with
    | [w0, w1, w2], _ => exact ⟨w0, w1, w2, rfl⟩
  have hw := fun d (hd : d ∈ tables_1) => atoms_spec (ws := Jvm.Cond.code x code maxLocals ret :: tables_1) hat d (List.mem_cons_of_mem _ hd)
  obtain ⟨i0, ei0⟩ := is_v g1
  obtain rfl : w0 = (.int i0) := Option.some.inj ei0
  obtain ⟨i1, ei1⟩ := is_v g2
  obtain rfl : w1 = (.int i1) := Option.some.inj ei1
  obtain ⟨i2, ei2⟩ := is_v r2
  obtain rfl : w2 = (.int i2) := Option.some.inj ei2
  obtain ⟨n, o, h1, h2, h3, _, L, rfl, ⟨rfl, N⟩, hq⟩ := rm0 l s _ hw tables_1 i0 i1 i2  s.heap s.heap.size (Nat.le_refl _) p e ha hc hk s m _ below hf ((Spec.applies_iff_loose hf).mp happ).1 ⟨rfl, State.Warmed39.refl s, rfl⟩ trivial
  refine ⟨n, _, h1, h2, h3, hpost _ _ _ _ _ _ ⟨Cond.after_iff.mpr rfl, Cond.after_iff.mpr (eq_i res_at (Term.int_eval (1)) rfl), trivial⟩ ⟨hq.1, hq.2.1, (hq.2.2.sift fun y hy => Or.inr (N y hy)).mono (by decide) (by decide)⟩⟩
theorem main_1_1 : Claimed_1_1 := comes_1 fun _ _ _ _ _ _ h hF => ⟨h.1, hF⟩
theorem main_1_2 : Claimed_1_2 := comes_1 fun _ _ _ _ _ _ h hF => ⟨h.2.1, hF⟩
end Jvm.Pilot.@@N@@
namespace Jvm.Pilot.@@N@@
open Jvm Jvm.ClassFile Sem Op Lib Jvm.Free Jvm.Stand Jvm.Pilot.@@N@@.Jvm.D
/-! MADE BY PROGRAM (witnessworld.py) out of the Statement's table words and the real class files: 9 classes; the members and pool entries that the words name. The judged class is class 1, her method 2. -/
namespace start1
open Jvm.ClassFile
def u (s : String) : CpInfo := .utf8 (stringToUtf16 s)
/-- a pool by its gaps: so many unusable entries, then the entry; so many at the end -/
def gap : Nat → List CpInfo → List CpInfo
  | 0, r => r
  | n + 1, r => .unusable :: gap n r
def poolList (es : List (Nat × CpInfo)) (last : Nat) : List CpInfo := es.foldr (fun e r => gap e.1 (e.2 :: r)) (gap last [])
def pool (es : List (Nat × CpInfo)) (last : Nat) : Array CpInfo := ⟨poolList es last⟩
def fileOf (pool : Array CpInfo) (this : Nat) (attrs : Array Attribute := #[]) (ms : Array MethodInfo := #[]) (fl : Nat := 33) (sup : Nat := 0) (ifs : Array Nat := #[]) (fds : Array FieldInfo := #[]) : ClassFile where
  minorVersion := 0
  majorVersion := 65
  constantPool := pool
  accessFlags := fl
  thisClass := this
  superClass := sup
  interfaces := ifs
  fields := fds
  methods := ms
  attributes := attrs
def plain (name : String) (sup : Option ClassId) : Class where
  name := name
  kind := .ordinary
  loader := none
  accessFlags := 33
  super := sup
  interfaces := #[]
  cf := none
  fields := #[]
  methods := #[]
  instanceTypes := #[]
  staticTypes := #[]
  resolved := #[]
  callSites := []
  init := .initialized
  statics := none
  mirror := none

def pool0 : Array CpInfo := pool [(5, u "<init>"), (0, u "()V"), (1, .class_ 10), (1, u "java/lang/Object")] 113

def k0m0 : Method := { name := "<init>", desc := "()V", sig := { parameters := [], returnType := none }, accessFlags := 1, code := none }
/-- java/lang/Object -/
def k0 : Class := { plain "java/lang/Object" none with
  accessFlags := 33
  interfaces := #[]
  cf := some (fileOf pool0 8 #[] #[{ accessFlags := 1, nameIndex := 5, descriptorIndex := 6, attributes := #[] }] 33 0 #[] #[])
  fields := #[]
  methods := #[k0m0]
  instanceTypes := #[]
  staticTypes := #[]
  resolved := Array.replicate 124 none
  statics := none }

def pool1 : Array CpInfo := pool [(2, .class_ 4), (1, u "java/lang/Object"), (0, u "<init>"), (0, u "()V"), (0, .integer 1114111), (0, .integer 55296), (0, .integer 57343), (0, .integer 65534), (0, .integer 65535), (0, .integer 55295), (0, .integer 57344), (0, .integer 65533), (0, .integer 65536), (0, .integer 1114112), (2, .integer 2147483648), (0, .integer 2147483647), (0, .methodref 22 23), (0, .class_ 24), (0, .nameAndType 25 26), (0, u "com/example/ratatoskr/ratatoskr/xml/XmlChars"), (0, u "isChar"), (0, u "(I)Z"), (0, .methodref 28 29), (0, .class_ 30), (0, .nameAndType 31 26), (0, u "com/example/ratatoskr/ratatoskr/xml/XmlCharsIsCharPinLaw"), (0, u "ref"), (3, u "law"), (0, u "(III)Z")] 4

def k1m0 : Method := { name := "<init>", desc := "()V", sig := { parameters := [], returnType := none }, accessFlags := 2, code := none }
def k1c1 : Code := { maxStack := 2, maxLocals := 1, code := method_2_code, exceptionTable := #[], attributes := #[] }
def k1m1 : Method := { name := "ref", desc := "(I)Z", sig := { parameters := [.int], returnType := some .boolean }, accessFlags := 10, code := some k1c1 }
def k1c2 : Code := { maxStack := 4, maxLocals := 9, code := code, exceptionTable := #[], attributes := #[] }
def k1m2 : Method := { name := "law", desc := "(III)Z", sig := { parameters := [.int, .int, .int], returnType := some .boolean }, accessFlags := 9, code := some k1c2 }
/-- com/example/ratatoskr/ratatoskr/xml/XmlCharsIsCharPinLaw -/
def k1 : Class := { plain "com/example/ratatoskr/ratatoskr/xml/XmlCharsIsCharPinLaw" (some 0) with
  accessFlags := 49
  interfaces := #[]
  cf := some (fileOf pool1 28 #[] #[{ accessFlags := 2, nameIndex := 5, descriptorIndex := 6, attributes := #[] }, { accessFlags := 10, nameIndex := 31, descriptorIndex := 26, attributes := #[] }, { accessFlags := 9, nameIndex := 35, descriptorIndex := 36, attributes := #[] }] 49 2 #[] #[])
  fields := #[]
  methods := #[k1m0, k1m1, k1m2]
  instanceTypes := #[]
  staticTypes := #[]
  resolved := Array.replicate 41 none
  statics := none }

def pool2 : Array CpInfo := pool [(2, .class_ 4), (1, u "java/lang/Object"), (0, u "<init>"), (0, u "()V"), (0, .integer 55295), (0, .integer 57344), (0, .integer 65533), (0, .integer 65536), (0, .integer 1114111), (5, .class_ 19), (1, u "com/example/ratatoskr/ratatoskr/xml/XmlChars"), (1, u "(I)Z"), (2, u "isChar")] 5

def k2m0 : Method := { name := "<init>", desc := "()V", sig := { parameters := [], returnType := none }, accessFlags := 2, code := none }
def k2c1 : Code := { maxStack := 2, maxLocals := 1, code := prog_118_method_2_code, exceptionTable := #[], attributes := #[] }
def k2m1 : Method := { name := "isChar", desc := "(I)Z", sig := { parameters := [.int], returnType := some .boolean }, accessFlags := 8, code := some k2c1 }
/-- com/example/ratatoskr/ratatoskr/xml/XmlChars -/
def k2 : Class := { plain "com/example/ratatoskr/ratatoskr/xml/XmlChars" (some 0) with
  accessFlags := 33
  interfaces := #[]
  cf := some (fileOf pool2 17 #[] #[{ accessFlags := 2, nameIndex := 5, descriptorIndex := 6, attributes := #[] }, { accessFlags := 8, nameIndex := 24, descriptorIndex := 21, attributes := #[] }] 33 2 #[] #[])
  fields := #[]
  methods := #[k2m0, k2m1]
  instanceTypes := #[]
  staticTypes := #[]
  resolved := Array.replicate 30 none
  statics := none }

def pool3 : Array CpInfo := pool [(1, u "java/lang/Cloneable"), (0, .class_ 1), (0, u "java/lang/Object"), (0, .class_ 3)] 3

/-- java/lang/Cloneable -/
def k3 : Class := { plain "java/lang/Cloneable" (some 0) with
  accessFlags := 1537
  interfaces := #[]
  cf := some (fileOf pool3 2 #[] #[] 1537 4 #[] #[])
  fields := #[]
  methods := #[]
  instanceTypes := #[]
  staticTypes := #[]
  resolved := Array.replicate 8 none
  statics := none }

def pool4 : Array CpInfo := pool [(1, u "java/io/Serializable"), (0, .class_ 1), (0, u "java/lang/Object"), (0, .class_ 3)] 3

/-- java/io/Serializable -/
def k4 : Class := { plain "java/io/Serializable" (some 0) with
  accessFlags := 1537
  interfaces := #[]
  cf := some (fileOf pool4 2 #[] #[] 1537 4 #[] #[])
  fields := #[]
  methods := #[]
  instanceTypes := #[]
  staticTypes := #[]
  resolved := Array.replicate 8 none
  statics := none }

/-- the primitive byte -/
def k5 : Class := { plain "byte" none with kind := .primitive 'B', accessFlags := 0x411 }
/-- [B -/
def k6 : Class := { plain "[B" (some 0) with kind := .array 5 .byte, interfaces := #[3, 4], accessFlags := 1041 }

/-- the primitive int -/
def k7 : Class := { plain "int" none with kind := .primitive 'I', accessFlags := 0x411 }
/-- [I -/
def k8 : Class := { plain "[I" (some 0) with kind := .array 7 .int, interfaces := #[3, 4], accessFlags := 1041 }

def heap : Heap := #[]
def classes : Array Class := #[k0, k1, k2, k3, k4, k5, k6, k7, k8]
def interned : List (Array UInt16 × Addr) := []
def slotsUsed : Nat := 0
def theMethod : MethodId := ⟨1, 2⟩
def args0 : Array Value := #[.int 5, .int 6, .int 7]
def aboutOver (below : List Frame) : State where
  vm := { classes := classes, interned := interned.toArray }
  heap := heap
  slotsUsed := slotsUsed
  threads := #[{ frames := .invoking theMethod args0 :: below }]
def below0 : List Frame := [.native { method := ⟨0, 0⟩, args := #[] }]
def about1 : State := aboutOver below0
def p0 : Program := .bare "" "" ""
def e0 : Env := launch0.env 0 0 0
theorem w_frames : about1.frames = Frame.invoking theMethod args0 :: below0 := rfl
set_option maxRecDepth 65536 in
theorem w_args : argsFit about1.vm theMethod args0 = true := by decide +kernel
set_option maxRecDepth 65536 in
theorem w_heap : heapFits about1 = true := by decide +kernel
set_option maxRecDepth 65536 in
theorem w_runnable : about1.curStatus? = some .runnable := by decide +kernel
set_option maxRecDepth 65536 in
theorem w_alone : about1.alone = true := by decide +kernel
set_option maxRecDepth 65536 in
theorem w_named : about1.methodNamed? x = some theMethod := by decide +kernel
set_option maxRecDepth 65536 in
theorem w_hears : about1.hears theMethod below0 = true := by decide +kernel
set_option maxRecDepth 65536 in
theorem w_ripe : about1.ripe theMethod args0 below0 = true := by decide +kernel
theorem w_running : about1.status = .running := rfl
set_option maxRecDepth 65536 in
theorem w_room : about1.hasRoom e0.platform room_1 = true :=
  launch0.hasRoom_least _ room_1 (by decide +kernel) (by decide +kernel) (by decide +kernel) (by decide +kernel) (by decide +kernel) (by decide +kernel)
theorem allAtoms_all (ts : List Jvm.Cond) (a : Array Jvm.Value) (st : Jvm.State) : (allAtoms ts).before a st = ts.all (fun c => c.before a st) := by
  induction ts with
  | nil => rfl
  | cons c t ih =>
    show (Jvm.Cond.and c (allAtoms t)).before a st = _
    rw [Jvm.Cond.before_and, ih, List.all_cons]
def words1 : List Jvm.Cond := Jvm.Cond.code x code maxLocals ret :: tables_1
/-- a 'code' word, met by the world's own term for the bytes: nothing is compared byte by byte -/
theorem code_word {y : MethodName} {bytes : ByteArray} {mx : Nat} {rt : Option FieldType} {a : Array Value} {s : State} {m : MethodId} {meth : Method} {c : Code} (h1 : s.methodNamed? y = some m) (h2 : s.vm.method? m = some meth) (h3 : meth.code = some c) (h4 : c.code = bytes)
    (h5 : (c.maxLocals == mx && c.exceptionTable.isEmpty && decide (c.maxStack ≤ mostOperands) && decide (meth.sig.returnType = rt) && !meth.locks && decide (parseMethodDescriptor y.desc = some meth.sig)) = true) : (Jvm.Cond.code y bytes mx rt).before a s = true := by
  simp only [Bool.and_eq_true, beq_iff_eq, Bool.not_eq_true', decide_eq_true_eq] at h5
  obtain ⟨⟨⟨⟨⟨g1, g2⟩, g3⟩, g4⟩, g5⟩, g6⟩ := h5
  simp [Cond.before, Cond.holds, Cond.value, h1, h2, h3, h4, g1, g2, g3, g4, g5, g6]
def isCode : Jvm.Cond → Bool
  | .code _ _ _ _ => true
  | _ => false
theorem all_split {L : List Jvm.Cond} {P : Jvm.Cond → Bool} (h1 : L.all (fun c => isCode c || P c) = true) (h2 : ∀ c ∈ L.filter isCode, P c = true) : L.all P = true := by
  refine List.all_eq_true.mpr fun c hc => ?_
  have h := List.all_eq_true.mp h1 c hc
  rcases Bool.eq_false_or_eq_true (isCode c) with hi | hi
  · exact h2 c (List.mem_filter.mpr ⟨hc, hi⟩)
  · simpa [hi] using h
set_option maxRecDepth 65536 in
theorem w_c0 : (Jvm.Cond.code x code maxLocals ret).before args0 about1 = true := code_word (m := ⟨1, 2⟩) (meth := k1m2) (c := k1c2) (by decide +kernel) rfl rfl rfl (by decide +kernel)
set_option maxRecDepth 65536 in
theorem w_c1 : (Jvm.Cond.code ({ cls := "com/example/ratatoskr/ratatoskr/xml/XmlChars", name := "isChar", desc := "(I)Z" } : Jvm.MethodName) prog_118_method_2_code (1 : Nat) (Option.some Jvm.ClassFile.FieldType.boolean)).before args0 about1 = true := code_word (m := ⟨2, 1⟩) (meth := k2m1) (c := k2c1) (by decide +kernel) rfl rfl rfl (by decide +kernel)
set_option maxRecDepth 65536 in
theorem w_c2 : (Jvm.Cond.code ({ cls := "com/example/ratatoskr/ratatoskr/xml/XmlCharsIsCharPinLaw", name := "ref", desc := "(I)Z" } : Jvm.MethodName) method_2_code (1 : Nat) (Option.some Jvm.ClassFile.FieldType.boolean)).before args0 about1 = true := code_word (m := ⟨1, 1⟩) (meth := k1m1) (c := k1c1) (by decide +kernel) rfl rfl rfl (by decide +kernel)
def codes1 : List Jvm.Cond := [Jvm.Cond.code x code maxLocals ret, Jvm.Cond.code ({ cls := "com/example/ratatoskr/ratatoskr/xml/XmlChars", name := "isChar", desc := "(I)Z" } : Jvm.MethodName) prog_118_method_2_code (1 : Nat) (Option.some Jvm.ClassFile.FieldType.boolean), Jvm.Cond.code ({ cls := "com/example/ratatoskr/ratatoskr/xml/XmlCharsIsCharPinLaw", name := "ref", desc := "(I)Z" } : Jvm.MethodName) method_2_code (1 : Nat) (Option.some Jvm.ClassFile.FieldType.boolean)]
set_option maxRecDepth 65536 in
theorem codes_eq : words1.filter isCode = codes1 := rfl
theorem w_codes : ∀ c ∈ words1.filter isCode, c.before args0 about1 = true := by
  rw [codes_eq]
  intro c hc
  simp only [codes1, List.mem_cons, List.not_mem_nil, or_false] at hc
  rcases hc with rfl | rfl | rfl
  · exact w_c0
  · exact w_c1
  · exact w_c2
set_option maxRecDepth 65536 in
theorem w_t1 : (words1.take 24).all (fun c => isCode c || c.before args0 about1) = true := by decide +kernel
set_option maxRecDepth 65536 in
theorem w_t2 : (words1.drop 24).all (fun c => isCode c || c.before args0 about1) = true := by decide +kernel
theorem w_tables : (allAtoms (Jvm.Cond.code x code maxLocals ret :: tables_1)).before args0 about1 = true := by
  rw [allAtoms_all]
  show words1.all (fun c => c.before args0 about1) = true
  refine all_split ?_ w_codes
  rw [← List.take_append_drop 24 words1, List.all_append, w_t1, w_t2]
  rfl
set_option maxRecDepth 65536 in
theorem w_case : (Jvm.Cond.and given_1 narrow_1).before args0 about1 = true := by decide +kernel
theorem w_applies : (headSpec (Jvm.Cond.code x code maxLocals ret :: tables_1) room_1).applies x e0.platform about1 = true :=
  (Spec.applies_iff w_frames).mpr ⟨w_running, w_runnable, w_alone, w_named, w_hears, w_ripe, w_room, w_tables⟩
theorem atStart : AtStart classFile x code maxLocals ret World_1 tables_1 room_1 Calls_1 rest_1 Pre_1 launch0 p0 e0 about1 theMethod args0 below0 :=
  ⟨lists_1, trivial, launch0.admits_env _ _ _, launch0.least_env, fairChoices_fair.cas, fairChoices_fair.clock, w_frames, w_args, w_heap, w_applies, trivial, trivial, w_case⟩
end start1
theorem witness_1 : WitnessClaimed_1 := ⟨start1.p0, start1.e0, start1.about1, start1.theMethod, start1.args0, start1.below0, start1.atStart⟩
end Jvm.Pilot.@@N@@
