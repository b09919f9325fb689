import JvmDerived
import JvmDerived.Pilot.@@N@@Statement
import JvmDerived.Pilot.@@N@@Code
set_option linter.unusedVariables false
set_option linter.unusedSimpArgs false
namespace Jvm.RoadKit
open Sem ClassFile Op Lib Jvm.Stand Jvm.Free Jvm.LawKit
abbrev vI (x : Int32) : Slot := .val (.int x)
abbrev vJ (x : Int64) : Slot := .val (.long x)
abbrev vR (a : Addr) : Slot := .val (.ref a)
/-- from S0 the run comes to T with g on top -/
def Go (tb : Tables) (e : Env) (below : List Frame) (S0 T : State) (g : JFrame) : Prop := ∀ t, Steps tb e below (T.setTop g) t → Steps tb e below S0 t
theorem Go.fin {tb : Tables} {e : Env} {below : List Frame} {S0 S T t : State} {g : JFrame} (h : Go tb e below S0 T g) (q : S0 = S) (k : Steps tb e below (T.setTop g) t) : Steps tb e below S t := q ▸ h t k
section New
variable {p : Program} {l : Launch} {e : Env} {R : Room} {s : State} {m : MethodId} {args : Array Value} {below : List Frame} {meth : Method} {c : Code} {T : State} {locs : List Loc} {cells slots : Nat}
end New
end Jvm.RoadKit
namespace Jvm.Pilot.@@N@@
open Jvm Jvm.ClassFile Sem Op Lib Jvm.Free Jvm.Stand Jvm.LawKit Jvm.RoadKit Bundle Jvm.Pilot.@@N@@.Jvm.D
theorem ef_1 (m : MethodId) (x0 : Addr) (x1 : Int64) (x2 : Int64) : entryFrame m #[(.ref x0), (.long x1), (.long x2)] 5 = mkF m 0 #[.val (.ref x0), .val (.long x1), .second, .val (.long x2), .second] [] := by first | (simp [entryFrame, mkF, argsToLocals, Value.category]; done) | rfl
theorem pn_0 : plainName "com/example/tariff_riders/tariffriders/Capacity" = true := by first | (simp [plainName, overriddenIn]; done) | decide +kernel
theorem d1_0 : decode prog_6_method_1_code 0 = .ok (.aload_n 0, 1) := by decide +kernel
theorem d1_1 : decode prog_6_method_1_code 1 = .ok (.invokespecial 1, 3) := by decide +kernel
theorem d1_4 : decode prog_6_method_1_code 4 = .ok (.aload_n 0, 1) := by decide +kernel
theorem d1_5 : decode prog_6_method_1_code 5 = .ok (.lload_n 1, 1) := by decide +kernel
theorem d1_6 : decode prog_6_method_1_code 6 = .ok (.putfield 7, 3) := by decide +kernel
theorem d1_9 : decode prog_6_method_1_code 9 = .ok (.aload_n 0, 1) := by decide +kernel
theorem d1_10 : decode prog_6_method_1_code 10 = .ok (.lload_n 3, 1) := by decide +kernel
theorem d1_11 : decode prog_6_method_1_code 11 = .ok (.putfield 13, 3) := by decide +kernel
theorem d1_14 : decode prog_6_method_1_code 14 = .ok (.return_, 1) := by decide +kernel
def Q1 (Z : State) (a0 : Addr) (q1 : Int64) (q2 : Int64) (h0 : Heap) (n0 : Nat) (v : Option Value) (h : Heap) (L : List Loc) : Prop := v = none ∧ Fr n0 L ∧ Keep h0 h [a0] ∧ (Exa Z h a0 "com/example/tariff_riders/tariffriders/Capacity") ∧ (Fld Z h a0 "com/example/tariff_riders/tariffriders/Capacity" "fromKva" "J" (.long q1)) ∧ (Fld Z h a0 "com/example/tariff_riders/tariffriders/Capacity" "belowKva" "J" (.long q2))
set_option maxRecDepth 65536 in
set_option maxHeartbeats 40000000 in
theorem rm1 (l : Launch) (Z : State) (A0 : Array Value) (hw : ∀ d ∈ tables_1, d.before A0 Z = true) (ws : List Jvm.Cond) (a0 : Addr) (q1 : Int64) (q2 : Int64)  (h0 : Heap) (n0 : Nat) (Z0 : n0 ≤ h0.size) (E0 : Exa Z h0 a0 "com/example/tariff_riders/tariffriders/Capacity") (F_fromKva : Fld Z h0 a0 "com/example/tariff_riders/tariffriders/Capacity" "fromKva" "J" (.long (0 : Int64))) (F_belowKva : Fld Z h0 a0 "com/example/tariff_riders/tariffriders/Capacity" "belowKva" "J" (.long (0 : Int64))) (g0 : n0 ≤ a0) :
    MetFree l (⟨"com/example/tariff_riders/tariffriders/Capacity", "<init>", "(JJ)V"⟩ : MethodName) (head1 (Jvm.Cond.code (⟨"com/example/tariff_riders/tariffriders/Capacity", "<init>", "(JJ)V"⟩ : MethodName) prog_6_method_1_code 5 none :: ws) ({ frames := 1, cells := 0, slots := 0, locals := 12 } : Room)) (fun a U => a = #[(.ref a0), (.long q1), (.long q2)] ∧ Z.Warmed39 U.vm ∧ U.heap = h0) (fun _ _ _ _ _ => True) (fun _ U o U' => ∃ v L, o = .returned v ∧ Q1 Z a0 q1 q2 h0 n0 v U'.heap L ∧ FrameEnd U o U' L ({ frames := 1, cells := 0, slots := 0, locals := 12 } : Room).cells ({ frames := 1, cells := 0, slots := 0, locals := 12 } : Room).slots) := by
  refine MetFree.of_bodySF (plainFor_of_name pn_0) hisR ?_
  intro p e s m args below meth c s₁ Bd hml0 hP hK
  obtain ⟨rfl, hZ, hh⟩ := hP
  have hx := Bd.exec
  have hby := Bd.bytes
  have hml : c.maxLocals = 5 := hml0
  have hown : s.vm.findClass "com/example/tariff_riders/tariffriders/Capacity" = some m.cls := findClass_of_methodNamed Bd.named
  have hnm := (name_of_methodNamed Bd.named Bd.method).1
  have X0 : Stand p l e ({ frames := 1, cells := 0, slots := 0, locals := 12 } : Room) s m #[(.ref a0), (.long q1), (.long q2)] below meth c s₁ [] 0 0 := Stand.of_body Bd
  have e0 : s₁.heap = h0 := by rw [← hh, Bd.state]; rfl
  have N0 := Fr.nil n0
  have kp0 : Keep h0 h0 [a0] := Keep.refl _ _
  obtain ⟨S0, hS0⟩ : ∃ z, z = s₁.setTop (entryFrame m #[(.ref a0), (.long q1), (.long q2)] 5) := ⟨_, rfl⟩
  have pre0 : Go p.tables e below S0 s₁ (mkF m 0 #[vR a0, vJ q1, .second, vJ q2, .second] []) := fun t k => by rw [hS0]; exact castTop (ef_1 m a0 q1 q2) k
  have pre1 : Go p.tables e below S0 s₁ (mkF m 1 #[vR a0, vJ q1, .second, vJ q2, .second] [(.ref a0)]) := fun t k => pre0 t (by
    refine XS.aloadN X0.here hx rfl (hb hby d1_0) rfl rfl ?_
    show Steps p.tables e below (s₁.setTop (mkF m 1 #[vR a0, vJ q1, .second, vJ q2, .second] [(.ref a0)])) _
    exact k)
  obtain ⟨T2, X2, e2, st2⟩ := initO X0 hx hZ hown (hw _ (List.mem_of_getElem? (i := 10) rfl)) (hw _ (List.mem_of_getElem? (i := 11) rfl)) (hw _ (List.mem_of_getElem? (i := 12) rfl)) e0 (g := (mkF m 1 #[vR a0, vJ q1, .second, vJ q2, .second] [(.ref a0)])) rfl (by rw [hml]; rfl) rfl (hb hby d1_1) (by decide) (W := 0) (by show 2 * 0 + _ ≤ _; exact Nat.le_of_eq rfl) (by decide)
  have pre2 : Go p.tables e below S0 T2 (mkF m 4 #[vR a0, vJ q1, .second, vJ q2, .second] []) := fun t k => pre1 t (st2 t k)
  have pre3 : Go p.tables e below S0 T2 (mkF m 6 #[vR a0, vJ q1, .second, vJ q2, .second] [(.long q1), (.ref a0)]) := fun t k => pre2 t (by
    refine XS.aloadN X2.here hx rfl (hb hby d1_4) rfl rfl ?_
    show Steps p.tables e below (T2.setTop (mkF m 5 #[vR a0, vJ q1, .second, vJ q2, .second] [(.ref a0)])) _
    refine XS.lloadN X2.here hx rfl (hb hby d1_5) rfl ?_
    show Steps p.tables e below (T2.setTop (mkF m 6 #[vR a0, vJ q1, .second, vJ q2, .second] [(.long q1), (.ref a0)])) _
    exact k)
  obtain ⟨T4, h4, X4, e4, W4, st4⟩ := putF X2 hx hZ hown (host := "") (Or.inl (hw _ (List.mem_of_getElem? (i := 13) rfl))) Via.refl e2 F_fromKva E0 (Or.inr ⟨(hw _ (List.mem_of_getElem? (i := 14) rfl)), rfl, hnm⟩) (hw _ (List.mem_of_getElem? (i := 5) rfl)) (ty := .long) (by decide) rfl rfl (g := (mkF m 6 #[vR a0, vJ q1, .second, vJ q2, .second] [(.long q1), (.ref a0)])) rfl rfl (hb hby d1_6)
  have pre4 : Go p.tables e below S0 T4 (mkF m 9 #[vR a0, vJ q1, .second, vJ q2, .second] []) := fun t k => pre3 t (st4 t k)
  have N4 := Fr.snoc X4 N0 g0
  have fw4 : Fld Z h4 a0 "com/example/tariff_riders/tariffriders/Capacity" "fromKva" "J" (.long q1) := Fld.same W4 F_fromKva
  have f5_1 := Exa.wr W4 E0
  have f5_2 := Fld.other W4 F_belowKva (Or.inr (slot_ne (Or.inr (hw _ (List.mem_of_getElem? (i := 16) rfl))) (Or.inr (hw _ (List.mem_of_getElem? (i := 14) rfl))) (by decide) (t := .long) (t' := .long) (by decide) (by decide)))
  have zz6 : n0 ≤ h4.size := Nat.le_trans Z0 (Keep.of_wr W4).1
  have kp7 : Keep h0 h4 [a0] := kp0.wr W4 (Or.inl (List.mem_of_getElem? (i := 0) rfl))
  have pre8 : Go p.tables e below S0 T4 (mkF m 11 #[vR a0, vJ q1, .second, vJ q2, .second] [(.long q2), (.ref a0)]) := fun t k => pre4 t (by
    refine XS.aloadN X4.here hx rfl (hb hby d1_9) rfl rfl ?_
    show Steps p.tables e below (T4.setTop (mkF m 10 #[vR a0, vJ q1, .second, vJ q2, .second] [(.ref a0)])) _
    refine XS.lloadN X4.here hx rfl (hb hby d1_10) rfl ?_
    show Steps p.tables e below (T4.setTop (mkF m 11 #[vR a0, vJ q1, .second, vJ q2, .second] [(.long q2), (.ref a0)])) _
    exact k)
  obtain ⟨T9, h9, X9, e9, W9, st9⟩ := putF X4 hx hZ hown (host := "") (Or.inl (hw _ (List.mem_of_getElem? (i := 15) rfl))) Via.refl e4 f5_2 f5_1 (Or.inr ⟨(hw _ (List.mem_of_getElem? (i := 16) rfl)), rfl, hnm⟩) (hw _ (List.mem_of_getElem? (i := 5) rfl)) (ty := .long) (by decide) rfl rfl (g := (mkF m 11 #[vR a0, vJ q1, .second, vJ q2, .second] [(.long q2), (.ref a0)])) rfl rfl (hb hby d1_11)
  have pre9 : Go p.tables e below S0 T9 (mkF m 14 #[vR a0, vJ q1, .second, vJ q2, .second] []) := fun t k => pre8 t (st9 t k)
  have N9 := Fr.snoc X9 N4 g0
  have fw9 : Fld Z h9 a0 "com/example/tariff_riders/tariffriders/Capacity" "belowKva" "J" (.long q2) := Fld.same W9 f5_2
  have f10_1 := Exa.wr W9 f5_1
  have f10_2 := Fld.other W9 fw4 (Or.inr (slot_ne (Or.inr (hw _ (List.mem_of_getElem? (i := 14) rfl))) (Or.inr (hw _ (List.mem_of_getElem? (i := 16) rfl))) (by decide) (t := .long) (t' := .long) (by decide) (by decide)))
  have zz11 : n0 ≤ h9.size := Nat.le_trans zz6 (Keep.of_wr W9).1
  have kp12 : Keep h0 h9 [a0] := kp7.wr W9 (Or.inl (List.mem_of_getElem? (i := 0) rfl))
  obtain ⟨fs, hr, hrun, hended, hW, hsame⟩ := X9.leave (v := none) (fun _ => rfl)
  exact ⟨_, _, pre9.fin hS0 (X9.returnOut hx Bd.returns (hb hby d1_14) hr), hrun, hended, _, _, rfl, (by
    show Q1 Z a0 q1 q2 h0 n0 _ T9.heap _
    rw [e9]
    exact ⟨rfl, N9, kp12, f10_1, f10_2, fw9⟩), ⟨_, rfl⟩, hW, hsame.mono (by decide) (by decide)⟩
def own_cont (f b k : Int64) : Int32 := if k < f then 0 else if k < b then 1 else 0
theorem ef_3 (m : MethodId) (x0 : Addr) (x1 : Int64) : entryFrame m #[(.ref x0), (.long x1)] 3 = mkF m 0 #[.val (.ref x0), .val (.long x1), .second] [] := by first | (simp [entryFrame, mkF, argsToLocals, Value.category]; done) | rfl
theorem d3_0 : decode prog_6_method_2_code 0 = .ok (.lload_n 1, 1) := by decide +kernel
theorem d3_1 : decode prog_6_method_2_code 1 = .ok (.aload_n 0, 1) := by decide +kernel
theorem d3_2 : decode prog_6_method_2_code 2 = .ok (.getfield 7, 3) := by decide +kernel
theorem d3_5 : decode prog_6_method_2_code 5 = .ok (.lcmp, 1) := by decide +kernel
theorem d3_6 : decode prog_6_method_2_code 6 = .ok (.ifCond .lt 16, 3) := by decide +kernel
theorem d3_9 : decode prog_6_method_2_code 9 = .ok (.lload_n 1, 1) := by decide +kernel
theorem d3_10 : decode prog_6_method_2_code 10 = .ok (.aload_n 0, 1) := by decide +kernel
theorem d3_11 : decode prog_6_method_2_code 11 = .ok (.getfield 13, 3) := by decide +kernel
theorem d3_14 : decode prog_6_method_2_code 14 = .ok (.lcmp, 1) := by decide +kernel
theorem d3_15 : decode prog_6_method_2_code 15 = .ok (.ifCond .ge 7, 3) := by decide +kernel
theorem d3_18 : decode prog_6_method_2_code 18 = .ok (.iconst 1, 1) := by decide +kernel
theorem d3_19 : decode prog_6_method_2_code 19 = .ok (.goto 4, 3) := by decide +kernel
theorem d3_22 : decode prog_6_method_2_code 22 = .ok (.iconst 0, 1) := by decide +kernel
theorem d3_23 : decode prog_6_method_2_code 23 = .ok (.ireturn, 1) := by decide +kernel
def Q3 (Z : State) (a0 : Addr) (q1 : Int64) (w_fromKva : Int64) (w_belowKva : Int64) (h0 : Heap) (n0 : Nat) (v : Option Value) (h : Heap) (L : List Loc) : Prop := v = some (.int (own_cont w_fromKva w_belowKva q1)) ∧ Fr n0 L ∧ h = h0
set_option maxRecDepth 65536 in
set_option maxHeartbeats 40000000 in
theorem rm3 (l : Launch) (Z : State) (A0 : Array Value) (hw : ∀ d ∈ tables_1, d.before A0 Z = true) (ws : List Jvm.Cond) (a0 : Addr) (q1 : Int64) (w_fromKva : Int64) (w_belowKva : Int64) (h0 : Heap) (n0 : Nat) (Z0 : n0 ≤ h0.size) (F_fromKva : Fld Z h0 a0 "com/example/tariff_riders/tariffriders/Capacity" "fromKva" "J" (.long w_fromKva)) (F_belowKva : Fld Z h0 a0 "com/example/tariff_riders/tariffriders/Capacity" "belowKva" "J" (.long w_belowKva)) :
    MetFree l (⟨"com/example/tariff_riders/tariffriders/Capacity", "contains", "(J)Z"⟩ : MethodName) (head1 (Jvm.Cond.code (⟨"com/example/tariff_riders/tariffriders/Capacity", "contains", "(J)Z"⟩ : MethodName) prog_6_method_2_code 3 (some .boolean) :: ws) ({ frames := 0, cells := 0, slots := 0, locals := 0 } : Room)) (fun a U => a = #[(.ref a0), (.long q1)] ∧ Z.Warmed39 U.vm ∧ U.heap = h0) (fun _ _ _ _ _ => True) (fun _ U o U' => ∃ v L, o = .returned v ∧ Q3 Z a0 q1 w_fromKva w_belowKva h0 n0 v U'.heap L ∧ FrameEnd U o U' L ({ frames := 0, cells := 0, slots := 0, locals := 0 } : Room).cells ({ frames := 0, cells := 0, slots := 0, locals := 0 } : Room).slots) := by
  refine MetFree.of_bodySF (plainFor_of_name pn_0) hisR ?_
  intro p e s m args below meth c s₁ Bd hml0 hP hK
  obtain ⟨rfl, hZ, hh⟩ := hP
  have hx := Bd.exec
  have hby := Bd.bytes
  have hml : c.maxLocals = 3 := hml0
  have hown : s.vm.findClass "com/example/tariff_riders/tariffriders/Capacity" = some m.cls := findClass_of_methodNamed Bd.named
  have hnm := (name_of_methodNamed Bd.named Bd.method).1
  have X0 : Stand p l e ({ frames := 0, cells := 0, slots := 0, locals := 0 } : Room) s m #[(.ref a0), (.long q1)] below meth c s₁ [] 0 0 := Stand.of_body Bd
  have e0 : s₁.heap = h0 := by rw [← hh, Bd.state]; rfl
  have N0 := Fr.nil n0
  obtain ⟨S0, hS0⟩ : ∃ z, z = s₁.setTop (entryFrame m #[(.ref a0), (.long q1)] 3) := ⟨_, rfl⟩
  have pre0 : Go p.tables e below S0 s₁ (mkF m 0 #[vR a0, vJ q1, .second] []) := fun t k => by rw [hS0]; exact castTop (ef_3 m a0 q1) k
  have pre1 : Go p.tables e below S0 s₁ (mkF m 2 #[vR a0, vJ q1, .second] [(.ref a0), (.long q1)]) := fun t k => pre0 t (by
    refine XS.lloadN X0.here hx rfl (hb hby d3_0) rfl ?_
    show Steps p.tables e below (s₁.setTop (mkF m 1 #[vR a0, vJ q1, .second] [(.long q1)])) _
    refine XS.aloadN X0.here hx rfl (hb hby d3_1) rfl rfl ?_
    show Steps p.tables e below (s₁.setTop (mkF m 2 #[vR a0, vJ q1, .second] [(.ref a0), (.long q1)])) _
    exact k)
  obtain ⟨T2, X2, e2, st2⟩ := getF X0 hx hZ hown (host := "") (Or.inl (hw _ (List.mem_of_getElem? (i := 13) rfl))) Via.refl e0 F_fromKva (g := (mkF m 2 #[vR a0, vJ q1, .second] [(.ref a0), (.long q1)])) rfl rfl (hb hby d3_2)
  have pre2 : Go p.tables e below S0 T2 (mkF m 5 #[vR a0, vJ q1, .second] [(.long w_fromKva), (.long q1)]) := fun t k => pre1 t (st2 t k)
  have pre3 : Go p.tables e below S0 T2 (mkF m 6 #[vR a0, vJ q1, .second] [(.int (lcmpW q1 w_fromKva))]) := fun t k => pre2 t (by
    refine XS.lcmp X2.here hx rfl (hb hby d3_5) rfl ?_
    show Steps p.tables e below (T2.setTop (mkF m 6 #[vR a0, vJ q1, .second] [(.int (lcmpW q1 w_fromKva))])) _
    exact k)
  by_cases c6_4 : q1 < w_fromKva
  · skip
    have pre5 : Go p.tables e below S0 T2 (mkF m 23 #[vR a0, vJ q1, .second] [(.int (0 : Int32))]) := fun t k => pre3 t (by
      refine XS.ifYes X2.here hx rfl (pc0 := 6) (pc' := 22) rfl (hb hby d3_6) rfl ((if0 _ _).trans (tlt ((lw_lt _ _).mpr c6_4)).1) (by decide) (by decide) ?_
      show Steps p.tables e below (T2.setTop (mkF m 22 #[vR a0, vJ q1, .second] [])) _
      refine XS.iconst X2.here hx rfl (hb hby d3_22) ?_
      show Steps p.tables e below (T2.setTop (mkF m 23 #[vR a0, vJ q1, .second] [(.int (0 : Int32))])) _
      exact k)
    obtain ⟨fs, hr, hrun, hended, hW, hsame⟩ := X2.leave (v := some (.int (0 : Int32))) (fun h => by rw [Bd.returns] at h; cases h)
    exact ⟨_, _, pre5.fin hS0 (retN X2 hx (t := .boolean) Bd.returns (by simp) (hb hby d3_23) hr), hrun, hended, _, _, rfl, (by
      show Q3 Z a0 q1 w_fromKva w_belowKva h0 n0 _ T2.heap _
      rw [e2]
      exact ⟨congrArg (fun z => some (Value.int z)) (by simp [own_cont, c6_4]), N0, rfl⟩), ⟨_, rfl⟩, hW, hsame.mono (by decide) (by decide)⟩
  · skip
    have pre6 : Go p.tables e below S0 T2 (mkF m 11 #[vR a0, vJ q1, .second] [(.ref a0), (.long q1)]) := fun t k => pre3 t (by
      refine XS.ifNo X2.here hx rfl (hb hby d3_6) rfl ((if0 _ _).trans (flt (fun q => c6_4 ((lw_lt _ _).mp q))).1) ?_
      show Steps p.tables e below (T2.setTop (mkF m 9 #[vR a0, vJ q1, .second] [])) _
      refine XS.lloadN X2.here hx rfl (hb hby d3_9) rfl ?_
      show Steps p.tables e below (T2.setTop (mkF m 10 #[vR a0, vJ q1, .second] [(.long q1)])) _
      refine XS.aloadN X2.here hx rfl (hb hby d3_10) rfl rfl ?_
      show Steps p.tables e below (T2.setTop (mkF m 11 #[vR a0, vJ q1, .second] [(.ref a0), (.long q1)])) _
      exact k)
    obtain ⟨T7, X7, e7, st7⟩ := getF X2 hx hZ hown (host := "") (Or.inl (hw _ (List.mem_of_getElem? (i := 15) rfl))) Via.refl e2 F_belowKva (g := (mkF m 11 #[vR a0, vJ q1, .second] [(.ref a0), (.long q1)])) rfl rfl (hb hby d3_11)
    have pre7 : Go p.tables e below S0 T7 (mkF m 14 #[vR a0, vJ q1, .second] [(.long w_belowKva), (.long q1)]) := fun t k => pre6 t (st7 t k)
    have pre8 : Go p.tables e below S0 T7 (mkF m 15 #[vR a0, vJ q1, .second] [(.int (lcmpW q1 w_belowKva))]) := fun t k => pre7 t (by
      refine XS.lcmp X7.here hx rfl (hb hby d3_14) rfl ?_
      show Steps p.tables e below (T7.setTop (mkF m 15 #[vR a0, vJ q1, .second] [(.int (lcmpW q1 w_belowKva))])) _
      exact k)
    by_cases c15_9 : q1 < w_belowKva
    · skip
      have pre10 : Go p.tables e below S0 T7 (mkF m 23 #[vR a0, vJ q1, .second] [(.int (1 : Int32))]) := fun t k => pre8 t (by
        refine XS.ifNo X7.here hx rfl (hb hby d3_15) rfl ((if0 _ _).trans (tlt ((lw_lt _ _).mpr c15_9)).2.1) ?_
        show Steps p.tables e below (T7.setTop (mkF m 18 #[vR a0, vJ q1, .second] [])) _
        refine XS.iconst X7.here hx rfl (hb hby d3_18) ?_
        show Steps p.tables e below (T7.setTop (mkF m 19 #[vR a0, vJ q1, .second] [(.int (1 : Int32))])) _
        refine XS.goto X7.here hx rfl (pc0 := 19) (pc' := 23) rfl (hb hby d3_19) (by decide) (by decide) ?_
        show Steps p.tables e below (T7.setTop (mkF m 23 #[vR a0, vJ q1, .second] [(.int (1 : Int32))])) _
        exact k)
      obtain ⟨fs, hr, hrun, hended, hW, hsame⟩ := X7.leave (v := some (.int (1 : Int32))) (fun h => by rw [Bd.returns] at h; cases h)
      exact ⟨_, _, pre10.fin hS0 (retN X7 hx (t := .boolean) Bd.returns (by simp) (hb hby d3_23) hr), hrun, hended, _, _, rfl, (by
        show Q3 Z a0 q1 w_fromKva w_belowKva h0 n0 _ T7.heap _
        rw [e7]
        exact ⟨congrArg (fun z => some (Value.int z)) (by simp [own_cont, c6_4, c15_9]), N0, rfl⟩), ⟨_, rfl⟩, hW, hsame.mono (by decide) (by decide)⟩
    · skip
      have pre11 : Go p.tables e below S0 T7 (mkF m 23 #[vR a0, vJ q1, .second] [(.int (0 : Int32))]) := fun t k => pre8 t (by
        refine XS.ifYes X7.here hx rfl (pc0 := 15) (pc' := 22) rfl (hb hby d3_15) rfl ((if0 _ _).trans (flt (fun q => c15_9 ((lw_lt _ _).mp q))).2.1) (by decide) (by decide) ?_
        show Steps p.tables e below (T7.setTop (mkF m 22 #[vR a0, vJ q1, .second] [])) _
        refine XS.iconst X7.here hx rfl (hb hby d3_22) ?_
        show Steps p.tables e below (T7.setTop (mkF m 23 #[vR a0, vJ q1, .second] [(.int (0 : Int32))])) _
        exact k)
      obtain ⟨fs, hr, hrun, hended, hW, hsame⟩ := X7.leave (v := some (.int (0 : Int32))) (fun h => by rw [Bd.returns] at h; cases h)
      exact ⟨_, _, pre11.fin hS0 (retN X7 hx (t := .boolean) Bd.returns (by simp) (hb hby d3_23) hr), hrun, hended, _, _, rfl, (by
        show Q3 Z a0 q1 w_fromKva w_belowKva h0 n0 _ T7.heap _
        rw [e7]
        exact ⟨congrArg (fun z => some (Value.int z)) (by simp [own_cont, c6_4, c15_9]), N0, rfl⟩), ⟨_, rfl⟩, hW, hsame.mono (by decide) (by decide)⟩
def own_exp (q0 : Int64) (q1 : Int64) (q2 : Int64) : Int32 := if q2 < q0 then ((0 : Int32)) else (if q2 < q1 then ((1 : Int32)) else ((0 : Int32)))
theorem ef_4 (m : MethodId) (x0 : Int64) (x1 : Int64) (x2 : Int64) : entryFrame m #[(.long x0), (.long x1), (.long x2)] 6 = mkF m 0 #[.val (.long x0), .second, .val (.long x1), .second, .val (.long x2), .second] [] := by first | (simp [entryFrame, mkF, argsToLocals, Value.category]; done) | rfl
theorem pn_1 : plainName "com/example/tariff_riders/tariffriders/CapacityContainsPinLaw" = true := by first | (simp [plainName, overriddenIn]; done) | decide +kernel
theorem d4_0 : decode method_2_code 0 = .ok (.lload 4, 2) := by decide +kernel
theorem d4_2 : decode method_2_code 2 = .ok (.lload_n 0, 1) := by decide +kernel
theorem d4_3 : decode method_2_code 3 = .ok (.lcmp, 1) := by decide +kernel
theorem d4_4 : decode method_2_code 4 = .ok (.ifCond .ge 5, 3) := by decide +kernel
theorem d4_7 : decode method_2_code 7 = .ok (.iconst 0, 1) := by decide +kernel
theorem d4_8 : decode method_2_code 8 = .ok (.ireturn, 1) := by decide +kernel
theorem d4_9 : decode method_2_code 9 = .ok (.lload 4, 2) := by decide +kernel
theorem d4_11 : decode method_2_code 11 = .ok (.lload_n 2, 1) := by decide +kernel
theorem d4_12 : decode method_2_code 12 = .ok (.lcmp, 1) := by decide +kernel
theorem d4_13 : decode method_2_code 13 = .ok (.ifCond .lt 5, 3) := by decide +kernel
theorem d4_16 : decode method_2_code 16 = .ok (.iconst 0, 1) := by decide +kernel
theorem d4_17 : decode method_2_code 17 = .ok (.ireturn, 1) := by decide +kernel
theorem d4_18 : decode method_2_code 18 = .ok (.iconst 1, 1) := by decide +kernel
theorem d4_19 : decode method_2_code 19 = .ok (.ireturn, 1) := by decide +kernel
def Q4 (Z : State) (q0 : Int64) (q1 : Int64) (q2 : Int64) (h0 : Heap) (n0 : Nat) (v : Option Value) (h : Heap) (L : List Loc) : Prop := v = some (.int (own_exp q0 q1 q2)) ∧ Fr n0 L ∧ h = h0
set_option maxRecDepth 65536 in
set_option maxHeartbeats 40000000 in
theorem rm4 (l : Launch) (Z : State) (A0 : Array Value) (hw : ∀ d ∈ tables_1, d.before A0 Z = true) (ws : List Jvm.Cond) (q0 : Int64) (q1 : Int64) (q2 : Int64)  (h0 : Heap) (n0 : Nat) (Z0 : n0 ≤ h0.size)  :
    MetFree l (⟨"com/example/tariff_riders/tariffriders/CapacityContainsPinLaw", "expected", "(JJJ)Z"⟩ : MethodName) (head1 (Jvm.Cond.code (⟨"com/example/tariff_riders/tariffriders/CapacityContainsPinLaw", "expected", "(JJJ)Z"⟩ : MethodName) method_2_code 6 (some .boolean) :: ws) ({ frames := 0, cells := 0, slots := 0, locals := 0 } : Room)) (fun a U => a = #[(.long q0), (.long q1), (.long q2)] ∧ Z.Warmed39 U.vm ∧ U.heap = h0) (fun _ _ _ _ _ => True) (fun _ U o U' => ∃ v L, o = .returned v ∧ Q4 Z q0 q1 q2 h0 n0 v U'.heap L ∧ FrameEnd U o U' L ({ frames := 0, cells := 0, slots := 0, locals := 0 } : Room).cells ({ frames := 0, cells := 0, slots := 0, locals := 0 } : Room).slots) := by
  refine MetFree.of_bodySF (plainFor_of_name pn_1) hisR ?_
  intro p e s m args below meth c s₁ Bd hml0 hP hK
  obtain ⟨rfl, hZ, hh⟩ := hP
  have hx := Bd.exec
  have hby := Bd.bytes
  have hml : c.maxLocals = 6 := hml0
  have hown : s.vm.findClass "com/example/tariff_riders/tariffriders/CapacityContainsPinLaw" = some m.cls := findClass_of_methodNamed Bd.named
  have hnm := (name_of_methodNamed Bd.named Bd.method).1
  have X0 : Stand p l e ({ frames := 0, cells := 0, slots := 0, locals := 0 } : Room) s m #[(.long q0), (.long q1), (.long q2)] below meth c s₁ [] 0 0 := Stand.of_body Bd
  have e0 : s₁.heap = h0 := by rw [← hh, Bd.state]; rfl
  have N0 := Fr.nil n0
  obtain ⟨S0, hS0⟩ : ∃ z, z = s₁.setTop (entryFrame m #[(.long q0), (.long q1), (.long q2)] 6) := ⟨_, rfl⟩
  have pre0 : Go p.tables e below S0 s₁ (mkF m 0 #[vJ q0, .second, vJ q1, .second, vJ q2, .second] []) := fun t k => by rw [hS0]; exact castTop (ef_4 m q0 q1 q2) k
  have pre1 : Go p.tables e below S0 s₁ (mkF m 4 #[vJ q0, .second, vJ q1, .second, vJ q2, .second] [(.int (lcmpW q2 q0))]) := fun t k => pre0 t (by
    refine XS.lload X0.here hx rfl (hb hby d4_0) rfl ?_
    show Steps p.tables e below (s₁.setTop (mkF m 2 #[vJ q0, .second, vJ q1, .second, vJ q2, .second] [(.long q2)])) _
    refine XS.lloadN X0.here hx rfl (hb hby d4_2) rfl ?_
    show Steps p.tables e below (s₁.setTop (mkF m 3 #[vJ q0, .second, vJ q1, .second, vJ q2, .second] [(.long q0), (.long q2)])) _
    refine XS.lcmp X0.here hx rfl (hb hby d4_3) rfl ?_
    show Steps p.tables e below (s₁.setTop (mkF m 4 #[vJ q0, .second, vJ q1, .second, vJ q2, .second] [(.int (lcmpW q2 q0))])) _
    exact k)
  by_cases c4_2 : q2 < q0
  · skip
    have pre3 : Go p.tables e below S0 s₁ (mkF m 8 #[vJ q0, .second, vJ q1, .second, vJ q2, .second] [(.int (0 : Int32))]) := fun t k => pre1 t (by
      refine XS.ifNo X0.here hx rfl (hb hby d4_4) rfl ((if0 _ _).trans (tlt ((lw_lt _ _).mpr c4_2)).2.1) ?_
      show Steps p.tables e below (s₁.setTop (mkF m 7 #[vJ q0, .second, vJ q1, .second, vJ q2, .second] [])) _
      refine XS.iconst X0.here hx rfl (hb hby d4_7) ?_
      show Steps p.tables e below (s₁.setTop (mkF m 8 #[vJ q0, .second, vJ q1, .second, vJ q2, .second] [(.int (0 : Int32))])) _
      exact k)
    obtain ⟨fs, hr, hrun, hended, hW, hsame⟩ := X0.leave (v := some (.int (0 : Int32))) (fun h => by rw [Bd.returns] at h; cases h)
    exact ⟨_, _, pre3.fin hS0 (retN X0 hx (t := .boolean) Bd.returns (by simp) (hb hby d4_8) hr), hrun, hended, _, _, rfl, (by
      show Q4 Z q0 q1 q2 h0 n0 _ s₁.heap _
      rw [e0]
      exact ⟨congrArg (fun z => some (Value.int z)) (by simp [own_exp, c4_2]), N0, rfl⟩), ⟨_, rfl⟩, hW, hsame.mono (by decide) (by decide)⟩
  · skip
    have pre4 : Go p.tables e below S0 s₁ (mkF m 13 #[vJ q0, .second, vJ q1, .second, vJ q2, .second] [(.int (lcmpW q2 q1))]) := fun t k => pre1 t (by
      refine XS.ifYes X0.here hx rfl (pc0 := 4) (pc' := 9) rfl (hb hby d4_4) rfl ((if0 _ _).trans (flt (fun q => c4_2 ((lw_lt _ _).mp q))).2.1) (by decide) (by decide) ?_
      show Steps p.tables e below (s₁.setTop (mkF m 9 #[vJ q0, .second, vJ q1, .second, vJ q2, .second] [])) _
      refine XS.lload X0.here hx rfl (hb hby d4_9) rfl ?_
      show Steps p.tables e below (s₁.setTop (mkF m 11 #[vJ q0, .second, vJ q1, .second, vJ q2, .second] [(.long q2)])) _
      refine XS.lloadN X0.here hx rfl (hb hby d4_11) rfl ?_
      show Steps p.tables e below (s₁.setTop (mkF m 12 #[vJ q0, .second, vJ q1, .second, vJ q2, .second] [(.long q1), (.long q2)])) _
      refine XS.lcmp X0.here hx rfl (hb hby d4_12) rfl ?_
      show Steps p.tables e below (s₁.setTop (mkF m 13 #[vJ q0, .second, vJ q1, .second, vJ q2, .second] [(.int (lcmpW q2 q1))])) _
      exact k)
    by_cases c13_5 : q2 < q1
    · skip
      have pre6 : Go p.tables e below S0 s₁ (mkF m 19 #[vJ q0, .second, vJ q1, .second, vJ q2, .second] [(.int (1 : Int32))]) := fun t k => pre4 t (by
        refine XS.ifYes X0.here hx rfl (pc0 := 13) (pc' := 18) rfl (hb hby d4_13) rfl ((if0 _ _).trans (tlt ((lw_lt _ _).mpr c13_5)).1) (by decide) (by decide) ?_
        show Steps p.tables e below (s₁.setTop (mkF m 18 #[vJ q0, .second, vJ q1, .second, vJ q2, .second] [])) _
        refine XS.iconst X0.here hx rfl (hb hby d4_18) ?_
        show Steps p.tables e below (s₁.setTop (mkF m 19 #[vJ q0, .second, vJ q1, .second, vJ q2, .second] [(.int (1 : Int32))])) _
        exact k)
      obtain ⟨fs, hr, hrun, hended, hW, hsame⟩ := X0.leave (v := some (.int (1 : Int32))) (fun h => by rw [Bd.returns] at h; cases h)
      exact ⟨_, _, pre6.fin hS0 (retN X0 hx (t := .boolean) Bd.returns (by simp) (hb hby d4_19) hr), hrun, hended, _, _, rfl, (by
        show Q4 Z q0 q1 q2 h0 n0 _ s₁.heap _
        rw [e0]
        exact ⟨congrArg (fun z => some (Value.int z)) (by simp [own_exp, c4_2, c13_5]), N0, rfl⟩), ⟨_, rfl⟩, hW, hsame.mono (by decide) (by decide)⟩
    · skip
      have pre7 : Go p.tables e below S0 s₁ (mkF m 17 #[vJ q0, .second, vJ q1, .second, vJ q2, .second] [(.int (0 : Int32))]) := fun t k => pre4 t (by
        refine XS.ifNo X0.here hx rfl (hb hby d4_13) rfl ((if0 _ _).trans (flt (fun q => c13_5 ((lw_lt _ _).mp q))).1) ?_
        show Steps p.tables e below (s₁.setTop (mkF m 16 #[vJ q0, .second, vJ q1, .second, vJ q2, .second] [])) _
        refine XS.iconst X0.here hx rfl (hb hby d4_16) ?_
        show Steps p.tables e below (s₁.setTop (mkF m 17 #[vJ q0, .second, vJ q1, .second, vJ q2, .second] [(.int (0 : Int32))])) _
        exact k)
      obtain ⟨fs, hr, hrun, hended, hW, hsame⟩ := X0.leave (v := some (.int (0 : Int32))) (fun h => by rw [Bd.returns] at h; cases h)
      exact ⟨_, _, pre7.fin hS0 (retN X0 hx (t := .boolean) Bd.returns (by simp) (hb hby d4_17) hr), hrun, hended, _, _, rfl, (by
        show Q4 Z q0 q1 q2 h0 n0 _ s₁.heap _
        rw [e0]
        exact ⟨congrArg (fun z => some (Value.int z)) (by simp [own_exp, c4_2, c13_5]), N0, rfl⟩), ⟨_, rfl⟩, hW, hsame.mono (by decide) (by decide)⟩
theorem own_and (a : Int32) : 0 ≤ (a &&& (2147483647 : Int32)).toInt := by
  rw [c_mask a (2147483647 : Int32) 31 (by decide) (by decide)]; omega
theorem own_from {a : Int32} {f : Int64} (h : f = (1 : Int64) + ((a &&& (2147483647 : Int32)) % (49 : Int32)).toInt64) : 1 ≤ f.toInt ∧ f.toInt ≤ 49 := by
  have h1 := (c_iremV (a &&& (2147483647 : Int32)) (49 : Int32)).1 (own_and a) (by decide)
  have h2 := c_ladd (1 : Int64) ((a &&& (2147483647 : Int32)) % (49 : Int32)).toInt64
  have h3 := rng64 f
  rw [c_i2l, ← h] at h2
  have t : (1 : Int64).toInt = 1 := rfl
  have t2 : (49 : Int32).toInt = 49 := rfl
  omega
theorem own_room {f r : Int64} (hf : 1 ≤ f.toInt ∧ f.toInt ≤ 49) (h : r = (50 : Int64) - f) : r.toInt = 50 - f.toInt := by
  have h2 := c_lsub (50 : Int64) f
  have h3 := rng64 r
  rw [← h] at h2
  have t : (50 : Int64).toInt = 50 := rfl
  omega
theorem own_i {r : Int64} (h : 1 ≤ r.toInt ∧ r.toInt ≤ 100) : r.toInt32.toInt = r.toInt := by
  have h2 := c_l2i r
  have h3 := rng32 r.toInt32
  omega
theorem own_nz {r : Int64} (h : 1 ≤ r.toInt ∧ r.toInt ≤ 100) : r.toInt32 ≠ 0 := fun q => by
  have := own_i h
  rw [q] at this
  have t : (0 : Int32).toInt = 0 := rfl
  omega
theorem own_below {b : Int32} {f r w : Int64} (hf : 1 ≤ f.toInt ∧ f.toInt ≤ 49) (hr : r.toInt = 50 - f.toInt) (h : w = (f + (1 : Int64)) + ((b &&& (2147483647 : Int32)) % r.toInt32).toInt64) : f.toInt < w.toInt ∧ w.toInt ≤ 50 := by
  have e := own_i (r := r) (by omega)
  have h1 := (c_iremV (b &&& (2147483647 : Int32)) r.toInt32).1 (own_and b) (by omega)
  have h2 := c_ladd (f + (1 : Int64)) ((b &&& (2147483647 : Int32)) % r.toInt32).toInt64
  have h4 := c_ladd f (1 : Int64)
  have h3 := rng64 w
  have h5 := rng64 (f + (1 : Int64))
  rw [c_i2l, ← h] at h2
  have t : (1 : Int64).toInt = 1 := rfl
  omega
theorem own_gap {f w : Int64} (hf : 1 ≤ f.toInt ∧ f.toInt ≤ 49) (hw : f.toInt < w.toInt ∧ w.toInt ≤ 50) : 1 ≤ ((w - f) + (4 : Int64)).toInt ∧ ((w - f) + (4 : Int64)).toInt ≤ 100 := by
  have h1 := c_lsub w f
  have h2 := c_ladd (w - f) (4 : Int64)
  have h3 := rng64 (w - f)
  have h4 := rng64 ((w - f) + (4 : Int64))
  have t : (4 : Int64).toInt = 4 := rfl
  omega
theorem own_four {f w : Int64} (hf : 1 ≤ f.toInt ∧ f.toInt ≤ 49) (hw : f.toInt < w.toInt ∧ w.toInt ≤ 50) : ¬ (own_cont f w f = (0 : Int32)) ∧ own_cont f w (f - (1 : Int64)) = (0 : Int32) ∧ ¬ (own_cont f w (w - (1 : Int64)) = (0 : Int32)) ∧ own_cont f w w = (0 : Int32) := by
  have h1 := c_lsub f (1 : Int64)
  have h2 := c_lsub w (1 : Int64)
  have h3 := rng64 (f - (1 : Int64))
  have h4 := rng64 (w - (1 : Int64))
  have t : (1 : Int64).toInt = 1 := rfl
  rw [t] at h1 h2
  unfold own_cont
  simp only [Int64.lt_iff_toInt_lt]
  refine ⟨?_, ?_, ?_, ?_⟩
  · rw [if_neg (by omega), if_pos (by omega)]; decide
  · rw [if_pos (by omega)]
  · rw [if_neg (by omega), if_pos (by omega)]; decide
  · rw [if_neg (by omega), if_neg (by omega)]
theorem own_same (f b k : Int64) : own_cont f b k = own_exp f b k := rfl
theorem ef_0 (m : MethodId) (x0 : Int32) (x1 : Int32) (x2 : Int64) (x3 : Int32) : entryFrame m #[(.int x0), (.int x1), (.long x2), (.int x3)] maxLocals = mkF m 0 #[.val (.int x0), .val (.int x1), .val (.long x2), .second, .val (.int x3), .unset, .unset, .unset, .unset, .unset, .unset, .unset, .unset, .unset, .unset, .unset, .unset, .unset, .unset, .unset] [] := by first | (simp [entryFrame, mkF, argsToLocals, Value.category, maxLocals]; done) | rfl
theorem pd_0 : parseMethodDescriptor "(JJ)V" = some ⟨[.long, .long], none⟩ := by decide +kernel
theorem pd_1 : parseMethodDescriptor "(J)Z" = some ⟨[.long], some .boolean⟩ := by decide +kernel
theorem pd_2 : parseMethodDescriptor "(JJJ)Z" = some ⟨[.long, .long, .long], some .boolean⟩ := by decide +kernel
def Q0 (Z : State) (p0 p1 : Int32) (q2 : Int64) (p3 : Int32) (h0 : Heap) (n0 : Nat) (v : Option Value) (h : Heap) (L : List Loc) : Prop := v = some (.int 1) ∧ Fr n0 L
set_option maxRecDepth 65536 in
set_option maxHeartbeats 40000000 in
theorem rm0 (l : Launch) (Z : State) (A0 : Array Value) (hw : ∀ d ∈ tables_1, d.before A0 Z = true) (ws : List Jvm.Cond) (p0 : Int32) (p1 : Int32) (q2 : Int64) (p3 : Int32)  (h0 : Heap) (n0 : Nat) (Z0 : n0 ≤ h0.size)  :
    MetFree l x (head1 (Jvm.Cond.code x code maxLocals ret :: ws) room_1) (fun a U => a = #[(.int p0), (.int p1), (.long q2), (.int p3)] ∧ Z.Warmed39 U.vm ∧ U.heap = h0) (fun _ _ _ _ _ => True) (fun _ U o U' => ∃ v L, o = .returned v ∧ Q0 Z p0 p1 q2 p3 h0 n0 v U'.heap L ∧ FrameEnd U o U' L 1 2) := by
  refine MetFree.of_bodySF (plainFor_of_name pn_1) hisR ?_
  intro p e s m args below meth c s₁ Bd hml0 hP hK
  obtain ⟨rfl, hZ, hh⟩ := hP
  have hx := Bd.exec
  have hby := Bd.bytes
  have hml : c.maxLocals = 20 := hml0
  have hown : s.vm.findClass "com/example/tariff_riders/tariffriders/CapacityContainsPinLaw" = some m.cls := findClass_of_methodNamed Bd.named
  have hnm := (name_of_methodNamed Bd.named Bd.method).1
  have X0 : Stand p l e room_1 s m #[(.int p0), (.int p1), (.long q2), (.int p3)] below meth c s₁ [] 0 0 := Stand.of_body Bd
  have e0 : s₁.heap = h0 := by rw [← hh, Bd.state]; rfl
  have N0 := Fr.nil n0
  obtain ⟨S0, hS0⟩ : ∃ z, z = s₁.setTop (entryFrame m #[(.int p0), (.int p1), (.long q2), (.int p3)] maxLocals) := ⟨_, rfl⟩
  have pre0 : Go p.tables e below S0 s₁ (mkF m 0 #[vI p0, vI p1, vJ q2, .second, vI p3, .unset, .unset, .unset, .unset, .unset, .unset, .unset, .unset, .unset, .unset, .unset, .unset, .unset, .unset, .unset] []) := fun t k => by rw [hS0]; exact castTop (ef_0 m p0 p1 q2 p3) k
  obtain ⟨v1, hv1, pre1⟩ : ∃ z : Int64, z = ((1 : Int64) + (((p0 &&& (2147483647 : Int32)) % (49 : Int32)).toInt64)) ∧ Go p.tables e below S0 s₁ (mkF m 12 #[vI p0, vI p1, vJ q2, .second, vI p3, vJ z, .second, .unset, .unset, .unset, .unset, .unset, .unset, .unset, .unset, .unset, .unset, .unset, .unset, .unset] []) := ⟨_, rfl, fun t k => pre0 t (by
    refine XS.lconst X0.here hx rfl (hb hby at_0) ?_
    show Steps p.tables e below (s₁.setTop (mkF m 1 #[vI p0, vI p1, vJ q2, .second, vI p3, .unset, .unset, .unset, .unset, .unset, .unset, .unset, .unset, .unset, .unset, .unset, .unset, .unset, .unset, .unset] [(.long (1 : Int64))])) _
    refine XS.iloadN X0.here hx rfl (hb hby at_1) rfl ?_
    show Steps p.tables e below (s₁.setTop (mkF m 2 #[vI p0, vI p1, vJ q2, .second, vI p3, .unset, .unset, .unset, .unset, .unset, .unset, .unset, .unset, .unset, .unset, .unset, .unset, .unset, .unset, .unset] [(.int p0), (.long (1 : Int64))])) _
    refine X0.ldcInt hx hown (mvT hZ (hw _ (List.mem_of_getElem? (i := 0) rfl))) (g := (mkF m 2 #[vI p0, vI p1, vJ q2, .second, vI p3, .unset, .unset, .unset, .unset, .unset, .unset, .unset, .unset, .unset, .unset, .unset, .unset, .unset, .unset, .unset] [(.int p0), (.long (1 : Int64))])) rfl (hb hby at_2) _ ?_
    show Steps p.tables e below (s₁.setTop (mkF m 4 #[vI p0, vI p1, vJ q2, .second, vI p3, .unset, .unset, .unset, .unset, .unset, .unset, .unset, .unset, .unset, .unset, .unset, .unset, .unset, .unset, .unset] [(.int (2147483647 : Int32)), (.int p0), (.long (1 : Int64))])) _
    refine XS.iand X0.here hx rfl (hb hby at_4) rfl ?_
    show Steps p.tables e below (s₁.setTop (mkF m 5 #[vI p0, vI p1, vJ q2, .second, vI p3, .unset, .unset, .unset, .unset, .unset, .unset, .unset, .unset, .unset, .unset, .unset, .unset, .unset, .unset, .unset] [(.int (p0 &&& (2147483647 : Int32))), (.long (1 : Int64))])) _
    refine XS.bipush X0.here hx rfl (hb hby at_5) ?_
    show Steps p.tables e below (s₁.setTop (mkF m 7 #[vI p0, vI p1, vJ q2, .second, vI p3, .unset, .unset, .unset, .unset, .unset, .unset, .unset, .unset, .unset, .unset, .unset, .unset, .unset, .unset, .unset] [(.int (49 : Int32)), (.int (p0 &&& (2147483647 : Int32))), (.long (1 : Int64))])) _
    refine iremM X0 hx rfl (hb hby at_7) rfl (by decide) ?_
    show Steps p.tables e below (s₁.setTop (mkF m 8 #[vI p0, vI p1, vJ q2, .second, vI p3, .unset, .unset, .unset, .unset, .unset, .unset, .unset, .unset, .unset, .unset, .unset, .unset, .unset, .unset, .unset] [(.int ((p0 &&& (2147483647 : Int32)) % (49 : Int32))), (.long (1 : Int64))])) _
    refine XS.i2l X0.here hx rfl (hb hby at_8) rfl ?_
    show Steps p.tables e below (s₁.setTop (mkF m 9 #[vI p0, vI p1, vJ q2, .second, vI p3, .unset, .unset, .unset, .unset, .unset, .unset, .unset, .unset, .unset, .unset, .unset, .unset, .unset, .unset, .unset] [(.long (((p0 &&& (2147483647 : Int32)) % (49 : Int32)).toInt64)), (.long (1 : Int64))])) _
    refine XS.ladd X0.here hx rfl (hb hby at_9) rfl ?_
    show Steps p.tables e below (s₁.setTop (mkF m 10 #[vI p0, vI p1, vJ q2, .second, vI p3, .unset, .unset, .unset, .unset, .unset, .unset, .unset, .unset, .unset, .unset, .unset, .unset, .unset, .unset, .unset] [(.long ((1 : Int64) + (((p0 &&& (2147483647 : Int32)) % (49 : Int32)).toInt64)))])) _
    refine XS.lstore X0.here hx rfl (hb hby at_10) rfl (l' := #[vI p0, vI p1, vJ q2, .second, vI p3, vJ ((1 : Int64) + (((p0 &&& (2147483647 : Int32)) % (49 : Int32)).toInt64)), .second, .unset, .unset, .unset, .unset, .unset, .unset, .unset, .unset, .unset, .unset, .unset, .unset, .unset]) rfl ?_
    show Steps p.tables e below (s₁.setTop (mkF m 12 #[vI p0, vI p1, vJ q2, .second, vI p3, vJ ((1 : Int64) + (((p0 &&& (2147483647 : Int32)) % (49 : Int32)).toInt64)), .second, .unset, .unset, .unset, .unset, .unset, .unset, .unset, .unset, .unset, .unset, .unset, .unset, .unset] [])) _
    exact k)⟩
  have f1 := own_from hv1
  obtain ⟨v2, hv2, pre2⟩ : ∃ z : Int64, z = ((50 : Int64) - v1) ∧ Go p.tables e below S0 s₁ (mkF m 20 #[vI p0, vI p1, vJ q2, .second, vI p3, vJ v1, .second, vJ z, .second, .unset, .unset, .unset, .unset, .unset, .unset, .unset, .unset, .unset, .unset, .unset] []) := ⟨_, rfl, fun t k => pre1 t (by
    refine X0.ldc2Long hx hown (mvT hZ (hw _ (List.mem_of_getElem? (i := 1) rfl))) (g := (mkF m 12 #[vI p0, vI p1, vJ q2, .second, vI p3, vJ v1, .second, .unset, .unset, .unset, .unset, .unset, .unset, .unset, .unset, .unset, .unset, .unset, .unset, .unset] [])) rfl (hb hby at_12) _ ?_
    show Steps p.tables e below (s₁.setTop (mkF m 15 #[vI p0, vI p1, vJ q2, .second, vI p3, vJ v1, .second, .unset, .unset, .unset, .unset, .unset, .unset, .unset, .unset, .unset, .unset, .unset, .unset, .unset] [(.long (50 : Int64))])) _
    refine XS.lload X0.here hx rfl (hb hby at_15) rfl ?_
    show Steps p.tables e below (s₁.setTop (mkF m 17 #[vI p0, vI p1, vJ q2, .second, vI p3, vJ v1, .second, .unset, .unset, .unset, .unset, .unset, .unset, .unset, .unset, .unset, .unset, .unset, .unset, .unset] [(.long v1), (.long (50 : Int64))])) _
    refine XS.lsub X0.here hx rfl (hb hby at_17) rfl ?_
    show Steps p.tables e below (s₁.setTop (mkF m 18 #[vI p0, vI p1, vJ q2, .second, vI p3, vJ v1, .second, .unset, .unset, .unset, .unset, .unset, .unset, .unset, .unset, .unset, .unset, .unset, .unset, .unset] [(.long ((50 : Int64) - v1))])) _
    refine XS.lstore X0.here hx rfl (hb hby at_18) rfl (l' := #[vI p0, vI p1, vJ q2, .second, vI p3, vJ v1, .second, vJ ((50 : Int64) - v1), .second, .unset, .unset, .unset, .unset, .unset, .unset, .unset, .unset, .unset, .unset, .unset]) rfl ?_
    show Steps p.tables e below (s₁.setTop (mkF m 20 #[vI p0, vI p1, vJ q2, .second, vI p3, vJ v1, .second, vJ ((50 : Int64) - v1), .second, .unset, .unset, .unset, .unset, .unset, .unset, .unset, .unset, .unset, .unset, .unset] [])) _
    exact k)⟩
  have r1 := own_room f1 hv2
  have nz1 := own_nz (r := v2) (by omega)
  have pre3 : Go p.tables e below S0 s₁ (mkF m 31 #[vI p0, vI p1, vJ q2, .second, vI p3, vJ v1, .second, vJ v2, .second, .unset, .unset, .unset, .unset, .unset, .unset, .unset, .unset, .unset, .unset, .unset] [(.int (v2.toInt32)), (.int (p1 &&& (2147483647 : Int32))), (.long (v1 + (1 : Int64)))]) := fun t k => pre2 t (by
    refine XS.lload X0.here hx rfl (hb hby at_20) rfl ?_
    show Steps p.tables e below (s₁.setTop (mkF m 22 #[vI p0, vI p1, vJ q2, .second, vI p3, vJ v1, .second, vJ v2, .second, .unset, .unset, .unset, .unset, .unset, .unset, .unset, .unset, .unset, .unset, .unset] [(.long v1)])) _
    refine XS.lconst X0.here hx rfl (hb hby at_22) ?_
    show Steps p.tables e below (s₁.setTop (mkF m 23 #[vI p0, vI p1, vJ q2, .second, vI p3, vJ v1, .second, vJ v2, .second, .unset, .unset, .unset, .unset, .unset, .unset, .unset, .unset, .unset, .unset, .unset] [(.long (1 : Int64)), (.long v1)])) _
    refine XS.ladd X0.here hx rfl (hb hby at_23) rfl ?_
    show Steps p.tables e below (s₁.setTop (mkF m 24 #[vI p0, vI p1, vJ q2, .second, vI p3, vJ v1, .second, vJ v2, .second, .unset, .unset, .unset, .unset, .unset, .unset, .unset, .unset, .unset, .unset, .unset] [(.long (v1 + (1 : Int64)))])) _
    refine XS.iloadN X0.here hx rfl (hb hby at_24) rfl ?_
    show Steps p.tables e below (s₁.setTop (mkF m 25 #[vI p0, vI p1, vJ q2, .second, vI p3, vJ v1, .second, vJ v2, .second, .unset, .unset, .unset, .unset, .unset, .unset, .unset, .unset, .unset, .unset, .unset] [(.int p1), (.long (v1 + (1 : Int64)))])) _
    refine X0.ldcInt hx hown (mvT hZ (hw _ (List.mem_of_getElem? (i := 0) rfl))) (g := (mkF m 25 #[vI p0, vI p1, vJ q2, .second, vI p3, vJ v1, .second, vJ v2, .second, .unset, .unset, .unset, .unset, .unset, .unset, .unset, .unset, .unset, .unset, .unset] [(.int p1), (.long (v1 + (1 : Int64)))])) rfl (hb hby at_25) _ ?_
    show Steps p.tables e below (s₁.setTop (mkF m 27 #[vI p0, vI p1, vJ q2, .second, vI p3, vJ v1, .second, vJ v2, .second, .unset, .unset, .unset, .unset, .unset, .unset, .unset, .unset, .unset, .unset, .unset] [(.int (2147483647 : Int32)), (.int p1), (.long (v1 + (1 : Int64)))])) _
    refine XS.iand X0.here hx rfl (hb hby at_27) rfl ?_
    show Steps p.tables e below (s₁.setTop (mkF m 28 #[vI p0, vI p1, vJ q2, .second, vI p3, vJ v1, .second, vJ v2, .second, .unset, .unset, .unset, .unset, .unset, .unset, .unset, .unset, .unset, .unset, .unset] [(.int (p1 &&& (2147483647 : Int32))), (.long (v1 + (1 : Int64)))])) _
    refine XS.lload X0.here hx rfl (hb hby at_28) rfl ?_
    show Steps p.tables e below (s₁.setTop (mkF m 30 #[vI p0, vI p1, vJ q2, .second, vI p3, vJ v1, .second, vJ v2, .second, .unset, .unset, .unset, .unset, .unset, .unset, .unset, .unset, .unset, .unset, .unset] [(.long v2), (.int (p1 &&& (2147483647 : Int32))), (.long (v1 + (1 : Int64)))])) _
    refine XS.l2i X0.here hx rfl (hb hby at_30) rfl ?_
    show Steps p.tables e below (s₁.setTop (mkF m 31 #[vI p0, vI p1, vJ q2, .second, vI p3, vJ v1, .second, vJ v2, .second, .unset, .unset, .unset, .unset, .unset, .unset, .unset, .unset, .unset, .unset, .unset] [(.int (v2.toInt32)), (.int (p1 &&& (2147483647 : Int32))), (.long (v1 + (1 : Int64)))])) _
    exact k)
  have nz4 : (v2.toInt32) ≠ 0 := nz1
  obtain ⟨v5, hv5, pre5⟩ : ∃ z : Int64, z = ((v1 + (1 : Int64)) + (((p1 &&& (2147483647 : Int32)) % (v2.toInt32)).toInt64)) ∧ Go p.tables e below S0 s₁ (mkF m 36 #[vI p0, vI p1, vJ q2, .second, vI p3, vJ v1, .second, vJ v2, .second, vJ z, .second, .unset, .unset, .unset, .unset, .unset, .unset, .unset, .unset, .unset] []) := ⟨_, rfl, fun t k => pre3 t (by
    refine iremM X0 hx rfl (hb hby at_31) rfl nz4 ?_
    show Steps p.tables e below (s₁.setTop (mkF m 32 #[vI p0, vI p1, vJ q2, .second, vI p3, vJ v1, .second, vJ v2, .second, .unset, .unset, .unset, .unset, .unset, .unset, .unset, .unset, .unset, .unset, .unset] [(.int ((p1 &&& (2147483647 : Int32)) % (v2.toInt32))), (.long (v1 + (1 : Int64)))])) _
    refine XS.i2l X0.here hx rfl (hb hby at_32) rfl ?_
    show Steps p.tables e below (s₁.setTop (mkF m 33 #[vI p0, vI p1, vJ q2, .second, vI p3, vJ v1, .second, vJ v2, .second, .unset, .unset, .unset, .unset, .unset, .unset, .unset, .unset, .unset, .unset, .unset] [(.long (((p1 &&& (2147483647 : Int32)) % (v2.toInt32)).toInt64)), (.long (v1 + (1 : Int64)))])) _
    refine XS.ladd X0.here hx rfl (hb hby at_33) rfl ?_
    show Steps p.tables e below (s₁.setTop (mkF m 34 #[vI p0, vI p1, vJ q2, .second, vI p3, vJ v1, .second, vJ v2, .second, .unset, .unset, .unset, .unset, .unset, .unset, .unset, .unset, .unset, .unset, .unset] [(.long ((v1 + (1 : Int64)) + (((p1 &&& (2147483647 : Int32)) % (v2.toInt32)).toInt64)))])) _
    refine XS.lstore X0.here hx rfl (hb hby at_34) rfl (l' := #[vI p0, vI p1, vJ q2, .second, vI p3, vJ v1, .second, vJ v2, .second, vJ ((v1 + (1 : Int64)) + (((p1 &&& (2147483647 : Int32)) % (v2.toInt32)).toInt64)), .second, .unset, .unset, .unset, .unset, .unset, .unset, .unset, .unset, .unset]) rfl ?_
    show Steps p.tables e below (s₁.setTop (mkF m 36 #[vI p0, vI p1, vJ q2, .second, vI p3, vJ v1, .second, vJ v2, .second, vJ ((v1 + (1 : Int64)) + (((p1 &&& (2147483647 : Int32)) % (v2.toInt32)).toInt64)), .second, .unset, .unset, .unset, .unset, .unset, .unset, .unset, .unset, .unset] [])) _
    exact k)⟩
  have b1 := own_below f1 r1 hv5
  have nz2 := own_nz (own_gap f1 b1)
  obtain ⟨d1, d2, d3, d4⟩ := own_four f1 b1
  have pre6 : Go p.tables e below S0 s₁ (mkF m 57 #[vI p0, vI p1, vJ q2, .second, vI p3, vJ v1, .second, vJ v2, .second, vJ v5, .second, .unset, .unset, .unset, .unset, .unset, .unset, .unset, .unset, .unset] [(.int (((v5 - v1) + (4 : Int64)).toInt32)), (.int (p3 &&& (2147483647 : Int32))), (.long (v1 - (2 : Int64)))]) := fun t k => pre5 t (by
    refine XS.lload X0.here hx rfl (hb hby at_36) rfl ?_
    show Steps p.tables e below (s₁.setTop (mkF m 38 #[vI p0, vI p1, vJ q2, .second, vI p3, vJ v1, .second, vJ v2, .second, vJ v5, .second, .unset, .unset, .unset, .unset, .unset, .unset, .unset, .unset, .unset] [(.long v1)])) _
    refine X0.ldc2Long hx hown (mvT hZ (hw _ (List.mem_of_getElem? (i := 2) rfl))) (g := (mkF m 38 #[vI p0, vI p1, vJ q2, .second, vI p3, vJ v1, .second, vJ v2, .second, vJ v5, .second, .unset, .unset, .unset, .unset, .unset, .unset, .unset, .unset, .unset] [(.long v1)])) rfl (hb hby at_38) _ ?_
    show Steps p.tables e below (s₁.setTop (mkF m 41 #[vI p0, vI p1, vJ q2, .second, vI p3, vJ v1, .second, vJ v2, .second, vJ v5, .second, .unset, .unset, .unset, .unset, .unset, .unset, .unset, .unset, .unset] [(.long (2 : Int64)), (.long v1)])) _
    refine XS.lsub X0.here hx rfl (hb hby at_41) rfl ?_
    show Steps p.tables e below (s₁.setTop (mkF m 42 #[vI p0, vI p1, vJ q2, .second, vI p3, vJ v1, .second, vJ v2, .second, vJ v5, .second, .unset, .unset, .unset, .unset, .unset, .unset, .unset, .unset, .unset] [(.long (v1 - (2 : Int64)))])) _
    refine XS.iload X0.here hx rfl (hb hby at_42) rfl ?_
    show Steps p.tables e below (s₁.setTop (mkF m 44 #[vI p0, vI p1, vJ q2, .second, vI p3, vJ v1, .second, vJ v2, .second, vJ v5, .second, .unset, .unset, .unset, .unset, .unset, .unset, .unset, .unset, .unset] [(.int p3), (.long (v1 - (2 : Int64)))])) _
    refine X0.ldcInt hx hown (mvT hZ (hw _ (List.mem_of_getElem? (i := 0) rfl))) (g := (mkF m 44 #[vI p0, vI p1, vJ q2, .second, vI p3, vJ v1, .second, vJ v2, .second, vJ v5, .second, .unset, .unset, .unset, .unset, .unset, .unset, .unset, .unset, .unset] [(.int p3), (.long (v1 - (2 : Int64)))])) rfl (hb hby at_44) _ ?_
    show Steps p.tables e below (s₁.setTop (mkF m 46 #[vI p0, vI p1, vJ q2, .second, vI p3, vJ v1, .second, vJ v2, .second, vJ v5, .second, .unset, .unset, .unset, .unset, .unset, .unset, .unset, .unset, .unset] [(.int (2147483647 : Int32)), (.int p3), (.long (v1 - (2 : Int64)))])) _
    refine XS.iand X0.here hx rfl (hb hby at_46) rfl ?_
    show Steps p.tables e below (s₁.setTop (mkF m 47 #[vI p0, vI p1, vJ q2, .second, vI p3, vJ v1, .second, vJ v2, .second, vJ v5, .second, .unset, .unset, .unset, .unset, .unset, .unset, .unset, .unset, .unset] [(.int (p3 &&& (2147483647 : Int32))), (.long (v1 - (2 : Int64)))])) _
    refine XS.lload X0.here hx rfl (hb hby at_47) rfl ?_
    show Steps p.tables e below (s₁.setTop (mkF m 49 #[vI p0, vI p1, vJ q2, .second, vI p3, vJ v1, .second, vJ v2, .second, vJ v5, .second, .unset, .unset, .unset, .unset, .unset, .unset, .unset, .unset, .unset] [(.long v5), (.int (p3 &&& (2147483647 : Int32))), (.long (v1 - (2 : Int64)))])) _
    refine XS.lload X0.here hx rfl (hb hby at_49) rfl ?_
    show Steps p.tables e below (s₁.setTop (mkF m 51 #[vI p0, vI p1, vJ q2, .second, vI p3, vJ v1, .second, vJ v2, .second, vJ v5, .second, .unset, .unset, .unset, .unset, .unset, .unset, .unset, .unset, .unset] [(.long v1), (.long v5), (.int (p3 &&& (2147483647 : Int32))), (.long (v1 - (2 : Int64)))])) _
    refine XS.lsub X0.here hx rfl (hb hby at_51) rfl ?_
    show Steps p.tables e below (s₁.setTop (mkF m 52 #[vI p0, vI p1, vJ q2, .second, vI p3, vJ v1, .second, vJ v2, .second, vJ v5, .second, .unset, .unset, .unset, .unset, .unset, .unset, .unset, .unset, .unset] [(.long (v5 - v1)), (.int (p3 &&& (2147483647 : Int32))), (.long (v1 - (2 : Int64)))])) _
    refine X0.ldc2Long hx hown (mvT hZ (hw _ (List.mem_of_getElem? (i := 3) rfl))) (g := (mkF m 52 #[vI p0, vI p1, vJ q2, .second, vI p3, vJ v1, .second, vJ v2, .second, vJ v5, .second, .unset, .unset, .unset, .unset, .unset, .unset, .unset, .unset, .unset] [(.long (v5 - v1)), (.int (p3 &&& (2147483647 : Int32))), (.long (v1 - (2 : Int64)))])) rfl (hb hby at_52) _ ?_
    show Steps p.tables e below (s₁.setTop (mkF m 55 #[vI p0, vI p1, vJ q2, .second, vI p3, vJ v1, .second, vJ v2, .second, vJ v5, .second, .unset, .unset, .unset, .unset, .unset, .unset, .unset, .unset, .unset] [(.long (4 : Int64)), (.long (v5 - v1)), (.int (p3 &&& (2147483647 : Int32))), (.long (v1 - (2 : Int64)))])) _
    refine XS.ladd X0.here hx rfl (hb hby at_55) rfl ?_
    show Steps p.tables e below (s₁.setTop (mkF m 56 #[vI p0, vI p1, vJ q2, .second, vI p3, vJ v1, .second, vJ v2, .second, vJ v5, .second, .unset, .unset, .unset, .unset, .unset, .unset, .unset, .unset, .unset] [(.long ((v5 - v1) + (4 : Int64))), (.int (p3 &&& (2147483647 : Int32))), (.long (v1 - (2 : Int64)))])) _
    refine XS.l2i X0.here hx rfl (hb hby at_56) rfl ?_
    show Steps p.tables e below (s₁.setTop (mkF m 57 #[vI p0, vI p1, vJ q2, .second, vI p3, vJ v1, .second, vJ v2, .second, vJ v5, .second, .unset, .unset, .unset, .unset, .unset, .unset, .unset, .unset, .unset] [(.int (((v5 - v1) + (4 : Int64)).toInt32)), (.int (p3 &&& (2147483647 : Int32))), (.long (v1 - (2 : Int64)))])) _
    exact k)
  have nz7 : (((v5 - v1) + (4 : Int64)).toInt32) ≠ 0 := nz2
  obtain ⟨v8, hv8, pre8⟩ : ∃ z : Int64, z = ((v1 - (2 : Int64)) + (((p3 &&& (2147483647 : Int32)) % (((v5 - v1) + (4 : Int64)).toInt32)).toInt64)) ∧ Go p.tables e below S0 s₁ (mkF m 62 #[vI p0, vI p1, vJ q2, .second, vI p3, vJ v1, .second, vJ v2, .second, vJ v5, .second, vJ z, .second, .unset, .unset, .unset, .unset, .unset, .unset, .unset] []) := ⟨_, rfl, fun t k => pre6 t (by
    refine iremM X0 hx rfl (hb hby at_57) rfl nz7 ?_
    show Steps p.tables e below (s₁.setTop (mkF m 58 #[vI p0, vI p1, vJ q2, .second, vI p3, vJ v1, .second, vJ v2, .second, vJ v5, .second, .unset, .unset, .unset, .unset, .unset, .unset, .unset, .unset, .unset] [(.int ((p3 &&& (2147483647 : Int32)) % (((v5 - v1) + (4 : Int64)).toInt32))), (.long (v1 - (2 : Int64)))])) _
    refine XS.i2l X0.here hx rfl (hb hby at_58) rfl ?_
    show Steps p.tables e below (s₁.setTop (mkF m 59 #[vI p0, vI p1, vJ q2, .second, vI p3, vJ v1, .second, vJ v2, .second, vJ v5, .second, .unset, .unset, .unset, .unset, .unset, .unset, .unset, .unset, .unset] [(.long (((p3 &&& (2147483647 : Int32)) % (((v5 - v1) + (4 : Int64)).toInt32)).toInt64)), (.long (v1 - (2 : Int64)))])) _
    refine XS.ladd X0.here hx rfl (hb hby at_59) rfl ?_
    show Steps p.tables e below (s₁.setTop (mkF m 60 #[vI p0, vI p1, vJ q2, .second, vI p3, vJ v1, .second, vJ v2, .second, vJ v5, .second, .unset, .unset, .unset, .unset, .unset, .unset, .unset, .unset, .unset] [(.long ((v1 - (2 : Int64)) + (((p3 &&& (2147483647 : Int32)) % (((v5 - v1) + (4 : Int64)).toInt32)).toInt64)))])) _
    refine XS.lstore X0.here hx rfl (hb hby at_60) rfl (l' := #[vI p0, vI p1, vJ q2, .second, vI p3, vJ v1, .second, vJ v2, .second, vJ v5, .second, vJ ((v1 - (2 : Int64)) + (((p3 &&& (2147483647 : Int32)) % (((v5 - v1) + (4 : Int64)).toInt32)).toInt64)), .second, .unset, .unset, .unset, .unset, .unset, .unset, .unset]) rfl ?_
    show Steps p.tables e below (s₁.setTop (mkF m 62 #[vI p0, vI p1, vJ q2, .second, vI p3, vJ v1, .second, vJ v2, .second, vJ v5, .second, vJ ((v1 - (2 : Int64)) + (((p3 &&& (2147483647 : Int32)) % (((v5 - v1) + (4 : Int64)).toInt32)).toInt64)), .second, .unset, .unset, .unset, .unset, .unset, .unset, .unset] [])) _
    exact k)⟩
  obtain ⟨T9, h9, X9, e9, E9, A9, D9, -, st9⟩ := newO X0 hx hZ hown (hw _ (List.mem_of_getElem? (i := 4) rfl)) (hw _ (List.mem_of_getElem? (i := 5) rfl)) (hw _ (List.mem_of_getElem? (i := 6) rfl)) e0 (g := (mkF m 62 #[vI p0, vI p1, vJ q2, .second, vI p3, vJ v1, .second, vJ v2, .second, vJ v5, .second, vJ v8, .second, .unset, .unset, .unset, .unset, .unset, .unset, .unset] [])) rfl (hb hby at_62) (by decide) (by decide)
  obtain ⟨b9, g9⟩ : ∃ z, z = h0.size := ⟨_, rfl⟩
  rw [← g9] at A9 D9 st9
  have pre9 : Go p.tables e below S0 T9 (mkF m 65 #[vI p0, vI p1, vJ q2, .second, vI p3, vJ v1, .second, vJ v2, .second, vJ v5, .second, vJ v8, .second, .unset, .unset, .unset, .unset, .unset, .unset, .unset] [(.ref b9)]) := fun t k => pre8 t (st9 t k)
  have bo9 : n0 ≤ b9 := Nat.le_trans Z0 (Nat.le_of_eq g9.symm)
  have zz11 : n0 ≤ h9.size := Nat.le_trans Z0 E9.1
  have fn9_fromKva : Fld Z h9 b9 "com/example/tariff_riders/tariffriders/Capacity" "fromKva" "J" (.long (0 : Int64)) := D9 (Or.inr (hw _ (List.mem_of_getElem? (i := 14) rfl))) (ty := .long) (by decide)
  have fn9_belowKva : Fld Z h9 b9 "com/example/tariff_riders/tariffriders/Capacity" "belowKva" "J" (.long (0 : Int64)) := D9 (Or.inr (hw _ (List.mem_of_getElem? (i := 16) rfl))) (ty := .long) (by decide)
  have pre12 : Go p.tables e below S0 T9 (mkF m 70 #[vI p0, vI p1, vJ q2, .second, vI p3, vJ v1, .second, vJ v2, .second, vJ v5, .second, vJ v8, .second, .unset, .unset, .unset, .unset, .unset, .unset, .unset] [(.long v5), (.long v1), (.ref b9), (.ref b9)]) := fun t k => pre9 t (by
    refine XS.dup X9.here hx rfl (hb hby at_65) rfl rfl ?_
    show Steps p.tables e below (T9.setTop (mkF m 66 #[vI p0, vI p1, vJ q2, .second, vI p3, vJ v1, .second, vJ v2, .second, vJ v5, .second, vJ v8, .second, .unset, .unset, .unset, .unset, .unset, .unset, .unset] [(.ref b9), (.ref b9)])) _
    refine XS.lload X9.here hx rfl (hb hby at_66) rfl ?_
    show Steps p.tables e below (T9.setTop (mkF m 68 #[vI p0, vI p1, vJ q2, .second, vI p3, vJ v1, .second, vJ v2, .second, vJ v5, .second, vJ v8, .second, .unset, .unset, .unset, .unset, .unset, .unset, .unset] [(.long v1), (.ref b9), (.ref b9)])) _
    refine XS.lload X9.here hx rfl (hb hby at_68) rfl ?_
    show Steps p.tables e below (T9.setTop (mkF m 70 #[vI p0, vI p1, vJ q2, .second, vI p3, vJ v1, .second, vJ v2, .second, vJ v5, .second, vJ v8, .second, .unset, .unset, .unset, .unset, .unset, .unset, .unset] [(.long v5), (.long v1), (.ref b9), (.ref b9)])) _
    exact k)
  obtain ⟨_, _, ⟨T13, L13, k13, n13⟩, -, X13, ⟨Lc13, hQ13, l13, y13, z13⟩, st13⟩ := X9.specialBack hx (y := (⟨"com/example/tariff_riders/tariffriders/Capacity", "<init>", "(JJ)V"⟩ : MethodName)) rfl hown (mvT hZ (hw _ (List.mem_of_getElem? (i := 7) rfl))) (mvT hZ (hw _ (List.mem_of_getElem? (i := 8) rfl))) (mvT hZ (hw _ (List.mem_of_getElem? (i := 9) rfl))) (by decide) (backOf (W := 1) (rm1 l Z A0 hw [] b9 v1 v5 h9 n0 zz11 A9 fn9_fromKva fn9_belowKva bo9) hZ (hw _ (List.mem_of_getElem? (i := 9) rfl)) (hw _ (List.mem_of_getElem? (i := 6) rfl)) (by decide) (by decide)) (g := (mkF m 70 #[vI p0, vI p1, vJ q2, .second, vI p3, vJ v1, .second, vJ v2, .second, vJ v5, .second, vJ v8, .second, .unset, .unset, .unset, .unset, .unset, .unset, .unset] [(.long v5), (.long v1), (.ref b9), (.ref b9)])) rfl (by rw [hml]; rfl) (Steps.refl _) (a := b9) (argsL := [(.long v1), (.long v5)]) (rest := [(.ref b9)]) (lenOf pd_0 rfl) rfl (by show 2 * 0 + _ ≤ _; exact Nat.le_of_eq rfl) (hb hby at_70) (fun _ _ => ⟨rfl, e9, (by decide : 1 + 0 ≤ _), (by decide : 2 + 0 ≤ _)⟩)
  dsimp only [Pt.U, Pt.locs, Pt.cells, Pt.slots] at X13 l13 y13 z13 st13 hQ13
  subst l13 y13 z13
  obtain ⟨rfl, Nq13, Kq13, nf13_0, nf13_1, nf13_2⟩ := hQ13
  have N13 := Fr.app N0 Nq13
  have pre13 : Go p.tables e below S0 T13 (mkF m 73 #[vI p0, vI p1, vJ q2, .second, vI p3, vJ v1, .second, vJ v2, .second, vJ v5, .second, vJ v8, .second, .unset, .unset, .unset, .unset, .unset, .unset, .unset] [(.ref b9)]) := fun t k => pre12 t (st13.trans k)
  have zz15 : n0 ≤ T13.heap.size := Nat.le_trans zz11 Kq13.1
  have pre16 : Go p.tables e below S0 T13 (mkF m 79 #[vI p0, vI p1, vJ q2, .second, vI p3, vJ v1, .second, vJ v2, .second, vJ v5, .second, vJ v8, .second, vR b9, .unset, .unset, .unset, .unset, .unset, .unset] [(.long v1), (.ref b9)]) := fun t k => pre13 t (by
    refine XS.astore X13.here hx rfl (hb hby at_73) rfl rfl (l' := #[vI p0, vI p1, vJ q2, .second, vI p3, vJ v1, .second, vJ v2, .second, vJ v5, .second, vJ v8, .second, vR b9, .unset, .unset, .unset, .unset, .unset, .unset]) rfl ?_
    show Steps p.tables e below (T13.setTop (mkF m 75 #[vI p0, vI p1, vJ q2, .second, vI p3, vJ v1, .second, vJ v2, .second, vJ v5, .second, vJ v8, .second, vR b9, .unset, .unset, .unset, .unset, .unset, .unset] [])) _
    refine XS.aload X13.here hx rfl (hb hby at_75) rfl rfl ?_
    show Steps p.tables e below (T13.setTop (mkF m 77 #[vI p0, vI p1, vJ q2, .second, vI p3, vJ v1, .second, vJ v2, .second, vJ v5, .second, vJ v8, .second, vR b9, .unset, .unset, .unset, .unset, .unset, .unset] [(.ref b9)])) _
    refine XS.lload X13.here hx rfl (hb hby at_77) rfl ?_
    show Steps p.tables e below (T13.setTop (mkF m 79 #[vI p0, vI p1, vJ q2, .second, vI p3, vJ v1, .second, vJ v2, .second, vJ v5, .second, vJ v8, .second, vR b9, .unset, .unset, .unset, .unset, .unset, .unset] [(.long v1), (.ref b9)])) _
    exact k)
  obtain ⟨cq17, kq17, qa17, qb17, qc17⟩ := isOf hZ rfl nf13_0
  obtain ⟨_, _, ⟨T17, L17, k17, n17⟩, -, X17, ⟨Lc17, hQ17, l17, y17, z17⟩, st17⟩ := X13.virtualBack hx (y := (⟨"com/example/tariff_riders/tariffriders/Capacity", "contains", "(J)Z"⟩ : MethodName)) (z := (⟨"com/example/tariff_riders/tariffriders/Capacity", "contains", "(J)Z"⟩ : MethodName)) hown (mvT hZ (hw _ (List.mem_of_getElem? (i := 17) rfl))) (mvT hZ (hw _ (List.mem_of_getElem? (i := 18) rfl))) (notFace_of_selects (args := #[]) (mvT hZ (hw _ (List.mem_of_getElem? (i := 20) rfl)))) (mvT hZ (hw _ (List.mem_of_getElem? (i := 20) rfl))) (mvT hZ (hw _ (List.mem_of_getElem? (i := 19) rfl))) (by decide) (backOf (W := 0) (rm3 l Z A0 hw [] b9 v1 v1 v5 T13.heap n0 zz15 nf13_1 nf13_2) hZ (hw _ (List.mem_of_getElem? (i := 21) rfl)) (hw _ (List.mem_of_getElem? (i := 6) rfl)) (by decide) (by decide)) qa17 qc17 (g := (mkF m 79 #[vI p0, vI p1, vJ q2, .second, vI p3, vJ v1, .second, vJ v2, .second, vJ v5, .second, vJ v8, .second, vR b9, .unset, .unset, .unset, .unset, .unset, .unset] [(.long v1), (.ref b9)])) rfl (by rw [hml]; rfl) (Steps.refl _) (argsL := [(.long v1)]) (rest := []) (lenOf pd_1 rfl) rfl (by show 2 * 0 + _ ≤ _; exact Nat.le_of_eq rfl) (hb hby at_79) (fun _ _ => ⟨rfl, rfl, (by decide : 1 + 0 ≤ _), (by decide : 2 + 0 ≤ _)⟩)
  dsimp only [Pt.U, Pt.locs, Pt.cells, Pt.slots] at X17 l17 y17 z17 st17 hQ17
  subst l17 y17 z17
  obtain ⟨rfl, Nq17, eq17⟩ := hQ17
  have N17 := Fr.app N13 Nq17
  have pre17 : Go p.tables e below S0 T17 (mkF m 82 #[vI p0, vI p1, vJ q2, .second, vI p3, vJ v1, .second, vJ v2, .second, vJ v5, .second, vJ v8, .second, vR b9, .unset, .unset, .unset, .unset, .unset, .unset] [(.int (own_cont v1 v5 v1))]) := fun t k => pre16 t (st17.trans k)
  have pre18 : Go p.tables e below S0 T17 (mkF m 90 #[vI p0, vI p1, vJ q2, .second, vI p3, vJ v1, .second, vJ v2, .second, vJ v5, .second, vJ v8, .second, vR b9, vI (own_cont v1 v5 v1), .unset, .unset, .unset, .unset, .unset] [(.long (v1 - (1 : Int64))), (.ref b9)]) := fun t k => pre17 t (by
    refine XS.istore X17.here hx rfl (hb hby at_82) rfl (l' := #[vI p0, vI p1, vJ q2, .second, vI p3, vJ v1, .second, vJ v2, .second, vJ v5, .second, vJ v8, .second, vR b9, vI (own_cont v1 v5 v1), .unset, .unset, .unset, .unset, .unset]) rfl ?_
    show Steps p.tables e below (T17.setTop (mkF m 84 #[vI p0, vI p1, vJ q2, .second, vI p3, vJ v1, .second, vJ v2, .second, vJ v5, .second, vJ v8, .second, vR b9, vI (own_cont v1 v5 v1), .unset, .unset, .unset, .unset, .unset] [])) _
    refine XS.aload X17.here hx rfl (hb hby at_84) rfl rfl ?_
    show Steps p.tables e below (T17.setTop (mkF m 86 #[vI p0, vI p1, vJ q2, .second, vI p3, vJ v1, .second, vJ v2, .second, vJ v5, .second, vJ v8, .second, vR b9, vI (own_cont v1 v5 v1), .unset, .unset, .unset, .unset, .unset] [(.ref b9)])) _
    refine XS.lload X17.here hx rfl (hb hby at_86) rfl ?_
    show Steps p.tables e below (T17.setTop (mkF m 88 #[vI p0, vI p1, vJ q2, .second, vI p3, vJ v1, .second, vJ v2, .second, vJ v5, .second, vJ v8, .second, vR b9, vI (own_cont v1 v5 v1), .unset, .unset, .unset, .unset, .unset] [(.long v1), (.ref b9)])) _
    refine XS.lconst X17.here hx rfl (hb hby at_88) ?_
    show Steps p.tables e below (T17.setTop (mkF m 89 #[vI p0, vI p1, vJ q2, .second, vI p3, vJ v1, .second, vJ v2, .second, vJ v5, .second, vJ v8, .second, vR b9, vI (own_cont v1 v5 v1), .unset, .unset, .unset, .unset, .unset] [(.long (1 : Int64)), (.long v1), (.ref b9)])) _
    refine XS.lsub X17.here hx rfl (hb hby at_89) rfl ?_
    show Steps p.tables e below (T17.setTop (mkF m 90 #[vI p0, vI p1, vJ q2, .second, vI p3, vJ v1, .second, vJ v2, .second, vJ v5, .second, vJ v8, .second, vR b9, vI (own_cont v1 v5 v1), .unset, .unset, .unset, .unset, .unset] [(.long (v1 - (1 : Int64))), (.ref b9)])) _
    exact k)
  obtain ⟨cq19, kq19, qa19, qb19, qc19⟩ := isOf hZ eq17 nf13_0
  obtain ⟨_, _, ⟨T19, L19, k19, n19⟩, -, X19, ⟨Lc19, hQ19, l19, y19, z19⟩, st19⟩ := X17.virtualBack hx (y := (⟨"com/example/tariff_riders/tariffriders/Capacity", "contains", "(J)Z"⟩ : MethodName)) (z := (⟨"com/example/tariff_riders/tariffriders/Capacity", "contains", "(J)Z"⟩ : MethodName)) hown (mvT hZ (hw _ (List.mem_of_getElem? (i := 17) rfl))) (mvT hZ (hw _ (List.mem_of_getElem? (i := 18) rfl))) (notFace_of_selects (args := #[]) (mvT hZ (hw _ (List.mem_of_getElem? (i := 20) rfl)))) (mvT hZ (hw _ (List.mem_of_getElem? (i := 20) rfl))) (mvT hZ (hw _ (List.mem_of_getElem? (i := 19) rfl))) (by decide) (backOf (W := 0) (rm3 l Z A0 hw [] b9 (v1 - (1 : Int64)) v1 v5 T13.heap n0 zz15 nf13_1 nf13_2) hZ (hw _ (List.mem_of_getElem? (i := 21) rfl)) (hw _ (List.mem_of_getElem? (i := 6) rfl)) (by decide) (by decide)) qa19 qc19 (g := (mkF m 90 #[vI p0, vI p1, vJ q2, .second, vI p3, vJ v1, .second, vJ v2, .second, vJ v5, .second, vJ v8, .second, vR b9, vI (own_cont v1 v5 v1), .unset, .unset, .unset, .unset, .unset] [(.long (v1 - (1 : Int64))), (.ref b9)])) rfl (by rw [hml]; rfl) (Steps.refl _) (argsL := [(.long (v1 - (1 : Int64)))]) (rest := []) (lenOf pd_1 rfl) rfl (by show 2 * 0 + _ ≤ _; exact Nat.le_of_eq rfl) (hb hby at_90) (fun _ _ => ⟨rfl, eq17, (by decide : 1 + 0 ≤ _), (by decide : 2 + 0 ≤ _)⟩)
  dsimp only [Pt.U, Pt.locs, Pt.cells, Pt.slots] at X19 l19 y19 z19 st19 hQ19
  subst l19 y19 z19
  obtain ⟨rfl, Nq19, eq19⟩ := hQ19
  have N19 := Fr.app N17 Nq19
  have pre19 : Go p.tables e below S0 T19 (mkF m 93 #[vI p0, vI p1, vJ q2, .second, vI p3, vJ v1, .second, vJ v2, .second, vJ v5, .second, vJ v8, .second, vR b9, vI (own_cont v1 v5 v1), .unset, .unset, .unset, .unset, .unset] [(.int (own_cont v1 v5 (v1 - (1 : Int64))))]) := fun t k => pre18 t (st19.trans k)
  have pre20 : Go p.tables e below S0 T19 (mkF m 101 #[vI p0, vI p1, vJ q2, .second, vI p3, vJ v1, .second, vJ v2, .second, vJ v5, .second, vJ v8, .second, vR b9, vI (own_cont v1 v5 v1), vI (own_cont v1 v5 (v1 - (1 : Int64))), .unset, .unset, .unset, .unset] [(.long (v5 - (1 : Int64))), (.ref b9)]) := fun t k => pre19 t (by
    refine XS.istore X19.here hx rfl (hb hby at_93) rfl (l' := #[vI p0, vI p1, vJ q2, .second, vI p3, vJ v1, .second, vJ v2, .second, vJ v5, .second, vJ v8, .second, vR b9, vI (own_cont v1 v5 v1), vI (own_cont v1 v5 (v1 - (1 : Int64))), .unset, .unset, .unset, .unset]) rfl ?_
    show Steps p.tables e below (T19.setTop (mkF m 95 #[vI p0, vI p1, vJ q2, .second, vI p3, vJ v1, .second, vJ v2, .second, vJ v5, .second, vJ v8, .second, vR b9, vI (own_cont v1 v5 v1), vI (own_cont v1 v5 (v1 - (1 : Int64))), .unset, .unset, .unset, .unset] [])) _
    refine XS.aload X19.here hx rfl (hb hby at_95) rfl rfl ?_
    show Steps p.tables e below (T19.setTop (mkF m 97 #[vI p0, vI p1, vJ q2, .second, vI p3, vJ v1, .second, vJ v2, .second, vJ v5, .second, vJ v8, .second, vR b9, vI (own_cont v1 v5 v1), vI (own_cont v1 v5 (v1 - (1 : Int64))), .unset, .unset, .unset, .unset] [(.ref b9)])) _
    refine XS.lload X19.here hx rfl (hb hby at_97) rfl ?_
    show Steps p.tables e below (T19.setTop (mkF m 99 #[vI p0, vI p1, vJ q2, .second, vI p3, vJ v1, .second, vJ v2, .second, vJ v5, .second, vJ v8, .second, vR b9, vI (own_cont v1 v5 v1), vI (own_cont v1 v5 (v1 - (1 : Int64))), .unset, .unset, .unset, .unset] [(.long v5), (.ref b9)])) _
    refine XS.lconst X19.here hx rfl (hb hby at_99) ?_
    show Steps p.tables e below (T19.setTop (mkF m 100 #[vI p0, vI p1, vJ q2, .second, vI p3, vJ v1, .second, vJ v2, .second, vJ v5, .second, vJ v8, .second, vR b9, vI (own_cont v1 v5 v1), vI (own_cont v1 v5 (v1 - (1 : Int64))), .unset, .unset, .unset, .unset] [(.long (1 : Int64)), (.long v5), (.ref b9)])) _
    refine XS.lsub X19.here hx rfl (hb hby at_100) rfl ?_
    show Steps p.tables e below (T19.setTop (mkF m 101 #[vI p0, vI p1, vJ q2, .second, vI p3, vJ v1, .second, vJ v2, .second, vJ v5, .second, vJ v8, .second, vR b9, vI (own_cont v1 v5 v1), vI (own_cont v1 v5 (v1 - (1 : Int64))), .unset, .unset, .unset, .unset] [(.long (v5 - (1 : Int64))), (.ref b9)])) _
    exact k)
  obtain ⟨cq21, kq21, qa21, qb21, qc21⟩ := isOf hZ eq19 nf13_0
  obtain ⟨_, _, ⟨T21, L21, k21, n21⟩, -, X21, ⟨Lc21, hQ21, l21, y21, z21⟩, st21⟩ := X19.virtualBack hx (y := (⟨"com/example/tariff_riders/tariffriders/Capacity", "contains", "(J)Z"⟩ : MethodName)) (z := (⟨"com/example/tariff_riders/tariffriders/Capacity", "contains", "(J)Z"⟩ : MethodName)) hown (mvT hZ (hw _ (List.mem_of_getElem? (i := 17) rfl))) (mvT hZ (hw _ (List.mem_of_getElem? (i := 18) rfl))) (notFace_of_selects (args := #[]) (mvT hZ (hw _ (List.mem_of_getElem? (i := 20) rfl)))) (mvT hZ (hw _ (List.mem_of_getElem? (i := 20) rfl))) (mvT hZ (hw _ (List.mem_of_getElem? (i := 19) rfl))) (by decide) (backOf (W := 0) (rm3 l Z A0 hw [] b9 (v5 - (1 : Int64)) v1 v5 T13.heap n0 zz15 nf13_1 nf13_2) hZ (hw _ (List.mem_of_getElem? (i := 21) rfl)) (hw _ (List.mem_of_getElem? (i := 6) rfl)) (by decide) (by decide)) qa21 qc21 (g := (mkF m 101 #[vI p0, vI p1, vJ q2, .second, vI p3, vJ v1, .second, vJ v2, .second, vJ v5, .second, vJ v8, .second, vR b9, vI (own_cont v1 v5 v1), vI (own_cont v1 v5 (v1 - (1 : Int64))), .unset, .unset, .unset, .unset] [(.long (v5 - (1 : Int64))), (.ref b9)])) rfl (by rw [hml]; rfl) (Steps.refl _) (argsL := [(.long (v5 - (1 : Int64)))]) (rest := []) (lenOf pd_1 rfl) rfl (by show 2 * 0 + _ ≤ _; exact Nat.le_of_eq rfl) (hb hby at_101) (fun _ _ => ⟨rfl, eq19, (by decide : 1 + 0 ≤ _), (by decide : 2 + 0 ≤ _)⟩)
  dsimp only [Pt.U, Pt.locs, Pt.cells, Pt.slots] at X21 l21 y21 z21 st21 hQ21
  subst l21 y21 z21
  obtain ⟨rfl, Nq21, eq21⟩ := hQ21
  have N21 := Fr.app N19 Nq21
  have pre21 : Go p.tables e below S0 T21 (mkF m 104 #[vI p0, vI p1, vJ q2, .second, vI p3, vJ v1, .second, vJ v2, .second, vJ v5, .second, vJ v8, .second, vR b9, vI (own_cont v1 v5 v1), vI (own_cont v1 v5 (v1 - (1 : Int64))), .unset, .unset, .unset, .unset] [(.int (own_cont v1 v5 (v5 - (1 : Int64))))]) := fun t k => pre20 t (st21.trans k)
  have pre22 : Go p.tables e below S0 T21 (mkF m 110 #[vI p0, vI p1, vJ q2, .second, vI p3, vJ v1, .second, vJ v2, .second, vJ v5, .second, vJ v8, .second, vR b9, vI (own_cont v1 v5 v1), vI (own_cont v1 v5 (v1 - (1 : Int64))), vI (own_cont v1 v5 (v5 - (1 : Int64))), .unset, .unset, .unset] [(.long v5), (.ref b9)]) := fun t k => pre21 t (by
    refine XS.istore X21.here hx rfl (hb hby at_104) rfl (l' := #[vI p0, vI p1, vJ q2, .second, vI p3, vJ v1, .second, vJ v2, .second, vJ v5, .second, vJ v8, .second, vR b9, vI (own_cont v1 v5 v1), vI (own_cont v1 v5 (v1 - (1 : Int64))), vI (own_cont v1 v5 (v5 - (1 : Int64))), .unset, .unset, .unset]) rfl ?_
    show Steps p.tables e below (T21.setTop (mkF m 106 #[vI p0, vI p1, vJ q2, .second, vI p3, vJ v1, .second, vJ v2, .second, vJ v5, .second, vJ v8, .second, vR b9, vI (own_cont v1 v5 v1), vI (own_cont v1 v5 (v1 - (1 : Int64))), vI (own_cont v1 v5 (v5 - (1 : Int64))), .unset, .unset, .unset] [])) _
    refine XS.aload X21.here hx rfl (hb hby at_106) rfl rfl ?_
    show Steps p.tables e below (T21.setTop (mkF m 108 #[vI p0, vI p1, vJ q2, .second, vI p3, vJ v1, .second, vJ v2, .second, vJ v5, .second, vJ v8, .second, vR b9, vI (own_cont v1 v5 v1), vI (own_cont v1 v5 (v1 - (1 : Int64))), vI (own_cont v1 v5 (v5 - (1 : Int64))), .unset, .unset, .unset] [(.ref b9)])) _
    refine XS.lload X21.here hx rfl (hb hby at_108) rfl ?_
    show Steps p.tables e below (T21.setTop (mkF m 110 #[vI p0, vI p1, vJ q2, .second, vI p3, vJ v1, .second, vJ v2, .second, vJ v5, .second, vJ v8, .second, vR b9, vI (own_cont v1 v5 v1), vI (own_cont v1 v5 (v1 - (1 : Int64))), vI (own_cont v1 v5 (v5 - (1 : Int64))), .unset, .unset, .unset] [(.long v5), (.ref b9)])) _
    exact k)
  obtain ⟨cq23, kq23, qa23, qb23, qc23⟩ := isOf hZ eq21 nf13_0
  obtain ⟨_, _, ⟨T23, L23, k23, n23⟩, -, X23, ⟨Lc23, hQ23, l23, y23, z23⟩, st23⟩ := X21.virtualBack hx (y := (⟨"com/example/tariff_riders/tariffriders/Capacity", "contains", "(J)Z"⟩ : MethodName)) (z := (⟨"com/example/tariff_riders/tariffriders/Capacity", "contains", "(J)Z"⟩ : MethodName)) hown (mvT hZ (hw _ (List.mem_of_getElem? (i := 17) rfl))) (mvT hZ (hw _ (List.mem_of_getElem? (i := 18) rfl))) (notFace_of_selects (args := #[]) (mvT hZ (hw _ (List.mem_of_getElem? (i := 20) rfl)))) (mvT hZ (hw _ (List.mem_of_getElem? (i := 20) rfl))) (mvT hZ (hw _ (List.mem_of_getElem? (i := 19) rfl))) (by decide) (backOf (W := 0) (rm3 l Z A0 hw [] b9 v5 v1 v5 T13.heap n0 zz15 nf13_1 nf13_2) hZ (hw _ (List.mem_of_getElem? (i := 21) rfl)) (hw _ (List.mem_of_getElem? (i := 6) rfl)) (by decide) (by decide)) qa23 qc23 (g := (mkF m 110 #[vI p0, vI p1, vJ q2, .second, vI p3, vJ v1, .second, vJ v2, .second, vJ v5, .second, vJ v8, .second, vR b9, vI (own_cont v1 v5 v1), vI (own_cont v1 v5 (v1 - (1 : Int64))), vI (own_cont v1 v5 (v5 - (1 : Int64))), .unset, .unset, .unset] [(.long v5), (.ref b9)])) rfl (by rw [hml]; rfl) (Steps.refl _) (argsL := [(.long v5)]) (rest := []) (lenOf pd_1 rfl) rfl (by show 2 * 0 + _ ≤ _; exact Nat.le_of_eq rfl) (hb hby at_110) (fun _ _ => ⟨rfl, eq21, (by decide : 1 + 0 ≤ _), (by decide : 2 + 0 ≤ _)⟩)
  dsimp only [Pt.U, Pt.locs, Pt.cells, Pt.slots] at X23 l23 y23 z23 st23 hQ23
  subst l23 y23 z23
  obtain ⟨rfl, Nq23, eq23⟩ := hQ23
  have N23 := Fr.app N21 Nq23
  have pre23 : Go p.tables e below S0 T23 (mkF m 113 #[vI p0, vI p1, vJ q2, .second, vI p3, vJ v1, .second, vJ v2, .second, vJ v5, .second, vJ v8, .second, vR b9, vI (own_cont v1 v5 v1), vI (own_cont v1 v5 (v1 - (1 : Int64))), vI (own_cont v1 v5 (v5 - (1 : Int64))), .unset, .unset, .unset] [(.int (own_cont v1 v5 v5))]) := fun t k => pre22 t (st23.trans k)
  have pre24 : Go p.tables e below S0 T23 (mkF m 118 #[vI p0, vI p1, vJ q2, .second, vI p3, vJ v1, .second, vJ v2, .second, vJ v5, .second, vJ v8, .second, vR b9, vI (own_cont v1 v5 v1), vI (own_cont v1 v5 (v1 - (1 : Int64))), vI (own_cont v1 v5 (v5 - (1 : Int64))), vI (own_cont v1 v5 v5), .unset, .unset] [(.long q2), (.ref b9)]) := fun t k => pre23 t (by
    refine XS.istore X23.here hx rfl (hb hby at_113) rfl (l' := #[vI p0, vI p1, vJ q2, .second, vI p3, vJ v1, .second, vJ v2, .second, vJ v5, .second, vJ v8, .second, vR b9, vI (own_cont v1 v5 v1), vI (own_cont v1 v5 (v1 - (1 : Int64))), vI (own_cont v1 v5 (v5 - (1 : Int64))), vI (own_cont v1 v5 v5), .unset, .unset]) rfl ?_
    show Steps p.tables e below (T23.setTop (mkF m 115 #[vI p0, vI p1, vJ q2, .second, vI p3, vJ v1, .second, vJ v2, .second, vJ v5, .second, vJ v8, .second, vR b9, vI (own_cont v1 v5 v1), vI (own_cont v1 v5 (v1 - (1 : Int64))), vI (own_cont v1 v5 (v5 - (1 : Int64))), vI (own_cont v1 v5 v5), .unset, .unset] [])) _
    refine XS.aload X23.here hx rfl (hb hby at_115) rfl rfl ?_
    show Steps p.tables e below (T23.setTop (mkF m 117 #[vI p0, vI p1, vJ q2, .second, vI p3, vJ v1, .second, vJ v2, .second, vJ v5, .second, vJ v8, .second, vR b9, vI (own_cont v1 v5 v1), vI (own_cont v1 v5 (v1 - (1 : Int64))), vI (own_cont v1 v5 (v5 - (1 : Int64))), vI (own_cont v1 v5 v5), .unset, .unset] [(.ref b9)])) _
    refine XS.lloadN X23.here hx rfl (hb hby at_117) rfl ?_
    show Steps p.tables e below (T23.setTop (mkF m 118 #[vI p0, vI p1, vJ q2, .second, vI p3, vJ v1, .second, vJ v2, .second, vJ v5, .second, vJ v8, .second, vR b9, vI (own_cont v1 v5 v1), vI (own_cont v1 v5 (v1 - (1 : Int64))), vI (own_cont v1 v5 (v5 - (1 : Int64))), vI (own_cont v1 v5 v5), .unset, .unset] [(.long q2), (.ref b9)])) _
    exact k)
  obtain ⟨cq25, kq25, qa25, qb25, qc25⟩ := isOf hZ eq23 nf13_0
  obtain ⟨_, _, ⟨T25, L25, k25, n25⟩, -, X25, ⟨Lc25, hQ25, l25, y25, z25⟩, st25⟩ := X23.virtualBack hx (y := (⟨"com/example/tariff_riders/tariffriders/Capacity", "contains", "(J)Z"⟩ : MethodName)) (z := (⟨"com/example/tariff_riders/tariffriders/Capacity", "contains", "(J)Z"⟩ : MethodName)) hown (mvT hZ (hw _ (List.mem_of_getElem? (i := 17) rfl))) (mvT hZ (hw _ (List.mem_of_getElem? (i := 18) rfl))) (notFace_of_selects (args := #[]) (mvT hZ (hw _ (List.mem_of_getElem? (i := 20) rfl)))) (mvT hZ (hw _ (List.mem_of_getElem? (i := 20) rfl))) (mvT hZ (hw _ (List.mem_of_getElem? (i := 19) rfl))) (by decide) (backOf (W := 0) (rm3 l Z A0 hw [] b9 q2 v1 v5 T13.heap n0 zz15 nf13_1 nf13_2) hZ (hw _ (List.mem_of_getElem? (i := 21) rfl)) (hw _ (List.mem_of_getElem? (i := 6) rfl)) (by decide) (by decide)) qa25 qc25 (g := (mkF m 118 #[vI p0, vI p1, vJ q2, .second, vI p3, vJ v1, .second, vJ v2, .second, vJ v5, .second, vJ v8, .second, vR b9, vI (own_cont v1 v5 v1), vI (own_cont v1 v5 (v1 - (1 : Int64))), vI (own_cont v1 v5 (v5 - (1 : Int64))), vI (own_cont v1 v5 v5), .unset, .unset] [(.long q2), (.ref b9)])) rfl (by rw [hml]; rfl) (Steps.refl _) (argsL := [(.long q2)]) (rest := []) (lenOf pd_1 rfl) rfl (by show 2 * 0 + _ ≤ _; exact Nat.le_of_eq rfl) (hb hby at_118) (fun _ _ => ⟨rfl, eq23, (by decide : 1 + 0 ≤ _), (by decide : 2 + 0 ≤ _)⟩)
  dsimp only [Pt.U, Pt.locs, Pt.cells, Pt.slots] at X25 l25 y25 z25 st25 hQ25
  subst l25 y25 z25
  obtain ⟨rfl, Nq25, eq25⟩ := hQ25
  have N25 := Fr.app N23 Nq25
  have pre25 : Go p.tables e below S0 T25 (mkF m 121 #[vI p0, vI p1, vJ q2, .second, vI p3, vJ v1, .second, vJ v2, .second, vJ v5, .second, vJ v8, .second, vR b9, vI (own_cont v1 v5 v1), vI (own_cont v1 v5 (v1 - (1 : Int64))), vI (own_cont v1 v5 (v5 - (1 : Int64))), vI (own_cont v1 v5 v5), .unset, .unset] [(.int (own_cont v1 v5 q2))]) := fun t k => pre24 t (st25.trans k)
  have pre26 : Go p.tables e below S0 T25 (mkF m 127 #[vI p0, vI p1, vJ q2, .second, vI p3, vJ v1, .second, vJ v2, .second, vJ v5, .second, vJ v8, .second, vR b9, vI (own_cont v1 v5 v1), vI (own_cont v1 v5 (v1 - (1 : Int64))), vI (own_cont v1 v5 (v5 - (1 : Int64))), vI (own_cont v1 v5 v5), vI (own_cont v1 v5 q2), .unset] [(.long v8), (.ref b9)]) := fun t k => pre25 t (by
    refine XS.istore X25.here hx rfl (hb hby at_121) rfl (l' := #[vI p0, vI p1, vJ q2, .second, vI p3, vJ v1, .second, vJ v2, .second, vJ v5, .second, vJ v8, .second, vR b9, vI (own_cont v1 v5 v1), vI (own_cont v1 v5 (v1 - (1 : Int64))), vI (own_cont v1 v5 (v5 - (1 : Int64))), vI (own_cont v1 v5 v5), vI (own_cont v1 v5 q2), .unset]) rfl ?_
    show Steps p.tables e below (T25.setTop (mkF m 123 #[vI p0, vI p1, vJ q2, .second, vI p3, vJ v1, .second, vJ v2, .second, vJ v5, .second, vJ v8, .second, vR b9, vI (own_cont v1 v5 v1), vI (own_cont v1 v5 (v1 - (1 : Int64))), vI (own_cont v1 v5 (v5 - (1 : Int64))), vI (own_cont v1 v5 v5), vI (own_cont v1 v5 q2), .unset] [])) _
    refine XS.aload X25.here hx rfl (hb hby at_123) rfl rfl ?_
    show Steps p.tables e below (T25.setTop (mkF m 125 #[vI p0, vI p1, vJ q2, .second, vI p3, vJ v1, .second, vJ v2, .second, vJ v5, .second, vJ v8, .second, vR b9, vI (own_cont v1 v5 v1), vI (own_cont v1 v5 (v1 - (1 : Int64))), vI (own_cont v1 v5 (v5 - (1 : Int64))), vI (own_cont v1 v5 v5), vI (own_cont v1 v5 q2), .unset] [(.ref b9)])) _
    refine XS.lload X25.here hx rfl (hb hby at_125) rfl ?_
    show Steps p.tables e below (T25.setTop (mkF m 127 #[vI p0, vI p1, vJ q2, .second, vI p3, vJ v1, .second, vJ v2, .second, vJ v5, .second, vJ v8, .second, vR b9, vI (own_cont v1 v5 v1), vI (own_cont v1 v5 (v1 - (1 : Int64))), vI (own_cont v1 v5 (v5 - (1 : Int64))), vI (own_cont v1 v5 v5), vI (own_cont v1 v5 q2), .unset] [(.long v8), (.ref b9)])) _
    exact k)
  obtain ⟨cq27, kq27, qa27, qb27, qc27⟩ := isOf hZ eq25 nf13_0
  obtain ⟨_, _, ⟨T27, L27, k27, n27⟩, -, X27, ⟨Lc27, hQ27, l27, y27, z27⟩, st27⟩ := X25.virtualBack hx (y := (⟨"com/example/tariff_riders/tariffriders/Capacity", "contains", "(J)Z"⟩ : MethodName)) (z := (⟨"com/example/tariff_riders/tariffriders/Capacity", "contains", "(J)Z"⟩ : MethodName)) hown (mvT hZ (hw _ (List.mem_of_getElem? (i := 17) rfl))) (mvT hZ (hw _ (List.mem_of_getElem? (i := 18) rfl))) (notFace_of_selects (args := #[]) (mvT hZ (hw _ (List.mem_of_getElem? (i := 20) rfl)))) (mvT hZ (hw _ (List.mem_of_getElem? (i := 20) rfl))) (mvT hZ (hw _ (List.mem_of_getElem? (i := 19) rfl))) (by decide) (backOf (W := 0) (rm3 l Z A0 hw [] b9 v8 v1 v5 T13.heap n0 zz15 nf13_1 nf13_2) hZ (hw _ (List.mem_of_getElem? (i := 21) rfl)) (hw _ (List.mem_of_getElem? (i := 6) rfl)) (by decide) (by decide)) qa27 qc27 (g := (mkF m 127 #[vI p0, vI p1, vJ q2, .second, vI p3, vJ v1, .second, vJ v2, .second, vJ v5, .second, vJ v8, .second, vR b9, vI (own_cont v1 v5 v1), vI (own_cont v1 v5 (v1 - (1 : Int64))), vI (own_cont v1 v5 (v5 - (1 : Int64))), vI (own_cont v1 v5 v5), vI (own_cont v1 v5 q2), .unset] [(.long v8), (.ref b9)])) rfl (by rw [hml]; rfl) (Steps.refl _) (argsL := [(.long v8)]) (rest := []) (lenOf pd_1 rfl) rfl (by show 2 * 0 + _ ≤ _; exact Nat.le_of_eq rfl) (hb hby at_127) (fun _ _ => ⟨rfl, eq25, (by decide : 1 + 0 ≤ _), (by decide : 2 + 0 ≤ _)⟩)
  dsimp only [Pt.U, Pt.locs, Pt.cells, Pt.slots] at X27 l27 y27 z27 st27 hQ27
  subst l27 y27 z27
  obtain ⟨rfl, Nq27, eq27⟩ := hQ27
  have N27 := Fr.app N25 Nq27
  have pre27 : Go p.tables e below S0 T27 (mkF m 130 #[vI p0, vI p1, vJ q2, .second, vI p3, vJ v1, .second, vJ v2, .second, vJ v5, .second, vJ v8, .second, vR b9, vI (own_cont v1 v5 v1), vI (own_cont v1 v5 (v1 - (1 : Int64))), vI (own_cont v1 v5 (v5 - (1 : Int64))), vI (own_cont v1 v5 v5), vI (own_cont v1 v5 q2), .unset] [(.int (own_cont v1 v5 v8))]) := fun t k => pre26 t (st27.trans k)
  have pre28 : Go p.tables e below S0 T27 (mkF m 134 #[vI p0, vI p1, vJ q2, .second, vI p3, vJ v1, .second, vJ v2, .second, vJ v5, .second, vJ v8, .second, vR b9, vI (own_cont v1 v5 v1), vI (own_cont v1 v5 (v1 - (1 : Int64))), vI (own_cont v1 v5 (v5 - (1 : Int64))), vI (own_cont v1 v5 v5), vI (own_cont v1 v5 q2), vI (own_cont v1 v5 v8)] [(.int (own_cont v1 v5 v1))]) := fun t k => pre27 t (by
    refine XS.istore X27.here hx rfl (hb hby at_130) rfl (l' := #[vI p0, vI p1, vJ q2, .second, vI p3, vJ v1, .second, vJ v2, .second, vJ v5, .second, vJ v8, .second, vR b9, vI (own_cont v1 v5 v1), vI (own_cont v1 v5 (v1 - (1 : Int64))), vI (own_cont v1 v5 (v5 - (1 : Int64))), vI (own_cont v1 v5 v5), vI (own_cont v1 v5 q2), vI (own_cont v1 v5 v8)]) rfl ?_
    show Steps p.tables e below (T27.setTop (mkF m 132 #[vI p0, vI p1, vJ q2, .second, vI p3, vJ v1, .second, vJ v2, .second, vJ v5, .second, vJ v8, .second, vR b9, vI (own_cont v1 v5 v1), vI (own_cont v1 v5 (v1 - (1 : Int64))), vI (own_cont v1 v5 (v5 - (1 : Int64))), vI (own_cont v1 v5 v5), vI (own_cont v1 v5 q2), vI (own_cont v1 v5 v8)] [])) _
    refine XS.iload X27.here hx rfl (hb hby at_132) rfl ?_
    show Steps p.tables e below (T27.setTop (mkF m 134 #[vI p0, vI p1, vJ q2, .second, vI p3, vJ v1, .second, vJ v2, .second, vJ v5, .second, vJ v8, .second, vR b9, vI (own_cont v1 v5 v1), vI (own_cont v1 v5 (v1 - (1 : Int64))), vI (own_cont v1 v5 (v5 - (1 : Int64))), vI (own_cont v1 v5 v5), vI (own_cont v1 v5 q2), vI (own_cont v1 v5 v8)] [(.int (own_cont v1 v5 v1))])) _
    exact k)
  have cc29 : ¬ ((own_cont v1 v5 v1) = (0 : Int32)) := d1
  have pre30 : Go p.tables e below S0 T27 (mkF m 139 #[vI p0, vI p1, vJ q2, .second, vI p3, vJ v1, .second, vJ v2, .second, vJ v5, .second, vJ v8, .second, vR b9, vI (own_cont v1 v5 v1), vI (own_cont v1 v5 (v1 - (1 : Int64))), vI (own_cont v1 v5 (v5 - (1 : Int64))), vI (own_cont v1 v5 v5), vI (own_cont v1 v5 q2), vI (own_cont v1 v5 v8)] [(.int (own_cont v1 v5 (v1 - (1 : Int64))))]) := fun t k => pre28 t (by
    refine XS.ifNo X27.here hx rfl (hb hby at_134) rfl ((if0 _ _).trans (feq cc29).1) ?_
    show Steps p.tables e below (T27.setTop (mkF m 137 #[vI p0, vI p1, vJ q2, .second, vI p3, vJ v1, .second, vJ v2, .second, vJ v5, .second, vJ v8, .second, vR b9, vI (own_cont v1 v5 v1), vI (own_cont v1 v5 (v1 - (1 : Int64))), vI (own_cont v1 v5 (v5 - (1 : Int64))), vI (own_cont v1 v5 v5), vI (own_cont v1 v5 q2), vI (own_cont v1 v5 v8)] [])) _
    refine XS.iload X27.here hx rfl (hb hby at_137) rfl ?_
    show Steps p.tables e below (T27.setTop (mkF m 139 #[vI p0, vI p1, vJ q2, .second, vI p3, vJ v1, .second, vJ v2, .second, vJ v5, .second, vJ v8, .second, vR b9, vI (own_cont v1 v5 v1), vI (own_cont v1 v5 (v1 - (1 : Int64))), vI (own_cont v1 v5 (v5 - (1 : Int64))), vI (own_cont v1 v5 v5), vI (own_cont v1 v5 q2), vI (own_cont v1 v5 v8)] [(.int (own_cont v1 v5 (v1 - (1 : Int64))))])) _
    exact k)
  have cc31 : (own_cont v1 v5 (v1 - (1 : Int64))) = (0 : Int32) := d2
  have pre32 : Go p.tables e below S0 T27 (mkF m 144 #[vI p0, vI p1, vJ q2, .second, vI p3, vJ v1, .second, vJ v2, .second, vJ v5, .second, vJ v8, .second, vR b9, vI (own_cont v1 v5 v1), vI (own_cont v1 v5 (v1 - (1 : Int64))), vI (own_cont v1 v5 (v5 - (1 : Int64))), vI (own_cont v1 v5 v5), vI (own_cont v1 v5 q2), vI (own_cont v1 v5 v8)] [(.int (own_cont v1 v5 (v5 - (1 : Int64))))]) := fun t k => pre30 t (by
    refine XS.ifNo X27.here hx rfl (hb hby at_139) rfl ((if0 _ _).trans (teq cc31).2) ?_
    show Steps p.tables e below (T27.setTop (mkF m 142 #[vI p0, vI p1, vJ q2, .second, vI p3, vJ v1, .second, vJ v2, .second, vJ v5, .second, vJ v8, .second, vR b9, vI (own_cont v1 v5 v1), vI (own_cont v1 v5 (v1 - (1 : Int64))), vI (own_cont v1 v5 (v5 - (1 : Int64))), vI (own_cont v1 v5 v5), vI (own_cont v1 v5 q2), vI (own_cont v1 v5 v8)] [])) _
    refine XS.iload X27.here hx rfl (hb hby at_142) rfl ?_
    show Steps p.tables e below (T27.setTop (mkF m 144 #[vI p0, vI p1, vJ q2, .second, vI p3, vJ v1, .second, vJ v2, .second, vJ v5, .second, vJ v8, .second, vR b9, vI (own_cont v1 v5 v1), vI (own_cont v1 v5 (v1 - (1 : Int64))), vI (own_cont v1 v5 (v5 - (1 : Int64))), vI (own_cont v1 v5 v5), vI (own_cont v1 v5 q2), vI (own_cont v1 v5 v8)] [(.int (own_cont v1 v5 (v5 - (1 : Int64))))])) _
    exact k)
  have cc33 : ¬ ((own_cont v1 v5 (v5 - (1 : Int64))) = (0 : Int32)) := d3
  have pre34 : Go p.tables e below S0 T27 (mkF m 149 #[vI p0, vI p1, vJ q2, .second, vI p3, vJ v1, .second, vJ v2, .second, vJ v5, .second, vJ v8, .second, vR b9, vI (own_cont v1 v5 v1), vI (own_cont v1 v5 (v1 - (1 : Int64))), vI (own_cont v1 v5 (v5 - (1 : Int64))), vI (own_cont v1 v5 v5), vI (own_cont v1 v5 q2), vI (own_cont v1 v5 v8)] [(.int (own_cont v1 v5 v5))]) := fun t k => pre32 t (by
    refine XS.ifNo X27.here hx rfl (hb hby at_144) rfl ((if0 _ _).trans (feq cc33).1) ?_
    show Steps p.tables e below (T27.setTop (mkF m 147 #[vI p0, vI p1, vJ q2, .second, vI p3, vJ v1, .second, vJ v2, .second, vJ v5, .second, vJ v8, .second, vR b9, vI (own_cont v1 v5 v1), vI (own_cont v1 v5 (v1 - (1 : Int64))), vI (own_cont v1 v5 (v5 - (1 : Int64))), vI (own_cont v1 v5 v5), vI (own_cont v1 v5 q2), vI (own_cont v1 v5 v8)] [])) _
    refine XS.iload X27.here hx rfl (hb hby at_147) rfl ?_
    show Steps p.tables e below (T27.setTop (mkF m 149 #[vI p0, vI p1, vJ q2, .second, vI p3, vJ v1, .second, vJ v2, .second, vJ v5, .second, vJ v8, .second, vR b9, vI (own_cont v1 v5 v1), vI (own_cont v1 v5 (v1 - (1 : Int64))), vI (own_cont v1 v5 (v5 - (1 : Int64))), vI (own_cont v1 v5 v5), vI (own_cont v1 v5 q2), vI (own_cont v1 v5 v8)] [(.int (own_cont v1 v5 v5))])) _
    exact k)
  have cc35 : (own_cont v1 v5 v5) = (0 : Int32) := d4
  have pre36 : Go p.tables e below S0 T27 (mkF m 159 #[vI p0, vI p1, vJ q2, .second, vI p3, vJ v1, .second, vJ v2, .second, vJ v5, .second, vJ v8, .second, vR b9, vI (own_cont v1 v5 v1), vI (own_cont v1 v5 (v1 - (1 : Int64))), vI (own_cont v1 v5 (v5 - (1 : Int64))), vI (own_cont v1 v5 v5), vI (own_cont v1 v5 q2), vI (own_cont v1 v5 v8)] [(.long q2), (.long v5), (.long v1), (.int (own_cont v1 v5 q2))]) := fun t k => pre34 t (by
    refine XS.ifNo X27.here hx rfl (hb hby at_149) rfl ((if0 _ _).trans (teq cc35).2) ?_
    show Steps p.tables e below (T27.setTop (mkF m 152 #[vI p0, vI p1, vJ q2, .second, vI p3, vJ v1, .second, vJ v2, .second, vJ v5, .second, vJ v8, .second, vR b9, vI (own_cont v1 v5 v1), vI (own_cont v1 v5 (v1 - (1 : Int64))), vI (own_cont v1 v5 (v5 - (1 : Int64))), vI (own_cont v1 v5 v5), vI (own_cont v1 v5 q2), vI (own_cont v1 v5 v8)] [])) _
    refine XS.iload X27.here hx rfl (hb hby at_152) rfl ?_
    show Steps p.tables e below (T27.setTop (mkF m 154 #[vI p0, vI p1, vJ q2, .second, vI p3, vJ v1, .second, vJ v2, .second, vJ v5, .second, vJ v8, .second, vR b9, vI (own_cont v1 v5 v1), vI (own_cont v1 v5 (v1 - (1 : Int64))), vI (own_cont v1 v5 (v5 - (1 : Int64))), vI (own_cont v1 v5 v5), vI (own_cont v1 v5 q2), vI (own_cont v1 v5 v8)] [(.int (own_cont v1 v5 q2))])) _
    refine XS.lload X27.here hx rfl (hb hby at_154) rfl ?_
    show Steps p.tables e below (T27.setTop (mkF m 156 #[vI p0, vI p1, vJ q2, .second, vI p3, vJ v1, .second, vJ v2, .second, vJ v5, .second, vJ v8, .second, vR b9, vI (own_cont v1 v5 v1), vI (own_cont v1 v5 (v1 - (1 : Int64))), vI (own_cont v1 v5 (v5 - (1 : Int64))), vI (own_cont v1 v5 v5), vI (own_cont v1 v5 q2), vI (own_cont v1 v5 v8)] [(.long v1), (.int (own_cont v1 v5 q2))])) _
    refine XS.lload X27.here hx rfl (hb hby at_156) rfl ?_
    show Steps p.tables e below (T27.setTop (mkF m 158 #[vI p0, vI p1, vJ q2, .second, vI p3, vJ v1, .second, vJ v2, .second, vJ v5, .second, vJ v8, .second, vR b9, vI (own_cont v1 v5 v1), vI (own_cont v1 v5 (v1 - (1 : Int64))), vI (own_cont v1 v5 (v5 - (1 : Int64))), vI (own_cont v1 v5 v5), vI (own_cont v1 v5 q2), vI (own_cont v1 v5 v8)] [(.long v5), (.long v1), (.int (own_cont v1 v5 q2))])) _
    refine XS.lloadN X27.here hx rfl (hb hby at_158) rfl ?_
    show Steps p.tables e below (T27.setTop (mkF m 159 #[vI p0, vI p1, vJ q2, .second, vI p3, vJ v1, .second, vJ v2, .second, vJ v5, .second, vJ v8, .second, vR b9, vI (own_cont v1 v5 v1), vI (own_cont v1 v5 (v1 - (1 : Int64))), vI (own_cont v1 v5 (v5 - (1 : Int64))), vI (own_cont v1 v5 v5), vI (own_cont v1 v5 q2), vI (own_cont v1 v5 v8)] [(.long q2), (.long v5), (.long v1), (.int (own_cont v1 v5 q2))])) _
    exact k)
  obtain ⟨_, _, ⟨T37, L37, k37, n37⟩, -, X37, ⟨Lc37, hQ37, l37, y37, z37⟩, st37⟩ := Jvm.LawKit.callS X27 hx (y := (⟨"com/example/tariff_riders/tariffriders/CapacityContainsPinLaw", "expected", "(JJJ)Z"⟩ : MethodName)) hown (mvT hZ (hw _ (List.mem_of_getElem? (i := 22) rfl))) (mvT hZ (hw _ (List.mem_of_getElem? (i := 23) rfl))) (mvT hZ (hw _ (List.mem_of_getElem? (i := 24) rfl))) (mvT hZ (hw _ (List.mem_of_getElem? (i := 25) rfl))) (by decide) (backOf (W := 1) (rm4 l Z A0 hw [] v1 v5 q2 T13.heap n0 zz15) hZ (hw _ (List.mem_of_getElem? (i := 25) rfl)) (hw _ (List.mem_of_getElem? (i := 24) rfl)) (by decide) (by decide)) (g := (mkF m 159 #[vI p0, vI p1, vJ q2, .second, vI p3, vJ v1, .second, vJ v2, .second, vJ v5, .second, vJ v8, .second, vR b9, vI (own_cont v1 v5 v1), vI (own_cont v1 v5 (v1 - (1 : Int64))), vI (own_cont v1 v5 (v5 - (1 : Int64))), vI (own_cont v1 v5 v5), vI (own_cont v1 v5 q2), vI (own_cont v1 v5 v8)] [(.long q2), (.long v5), (.long v1), (.int (own_cont v1 v5 q2))])) rfl (by rw [hml]; rfl) (argsL := [(.long v1), (.long v5), (.long q2)]) (rest := [(.int (own_cont v1 v5 q2))]) (lenOf pd_2 rfl) rfl (by show 2 * 0 + _ ≤ _; exact Nat.le_of_eq rfl) (hb hby at_159) (fun _ _ => ⟨rfl, eq27, (by decide : 1 + 0 ≤ _), (by decide : 2 + 0 ≤ _)⟩)
  dsimp only [Pt.U, Pt.locs, Pt.cells, Pt.slots] at X37 l37 y37 z37 st37 hQ37
  subst l37 y37 z37
  obtain ⟨rfl, Nq37, eq37⟩ := hQ37
  have N37 := Fr.app N27 Nq37
  have pre37 : Go p.tables e below S0 T37 (mkF m 162 #[vI p0, vI p1, vJ q2, .second, vI p3, vJ v1, .second, vJ v2, .second, vJ v5, .second, vJ v8, .second, vR b9, vI (own_cont v1 v5 v1), vI (own_cont v1 v5 (v1 - (1 : Int64))), vI (own_cont v1 v5 (v5 - (1 : Int64))), vI (own_cont v1 v5 v5), vI (own_cont v1 v5 q2), vI (own_cont v1 v5 v8)] [(.int (own_exp v1 v5 q2)), (.int (own_cont v1 v5 q2))]) := fun t k => pre36 t (st37 t k)
  have cc38 : (own_cont v1 v5 q2) = (own_exp v1 v5 q2) := own_same _ _ _
  have pre39 : Go p.tables e below S0 T37 (mkF m 173 #[vI p0, vI p1, vJ q2, .second, vI p3, vJ v1, .second, vJ v2, .second, vJ v5, .second, vJ v8, .second, vR b9, vI (own_cont v1 v5 v1), vI (own_cont v1 v5 (v1 - (1 : Int64))), vI (own_cont v1 v5 (v5 - (1 : Int64))), vI (own_cont v1 v5 v5), vI (own_cont v1 v5 q2), vI (own_cont v1 v5 v8)] [(.long v8), (.long v5), (.long v1), (.int (own_cont v1 v5 v8))]) := fun t k => pre37 t (by
    refine XS.icmpNo X37.here hx rfl (hb hby at_162) rfl (teq cc38).2 ?_
    show Steps p.tables e below (T37.setTop (mkF m 165 #[vI p0, vI p1, vJ q2, .second, vI p3, vJ v1, .second, vJ v2, .second, vJ v5, .second, vJ v8, .second, vR b9, vI (own_cont v1 v5 v1), vI (own_cont v1 v5 (v1 - (1 : Int64))), vI (own_cont v1 v5 (v5 - (1 : Int64))), vI (own_cont v1 v5 v5), vI (own_cont v1 v5 q2), vI (own_cont v1 v5 v8)] [])) _
    refine XS.iload X37.here hx rfl (hb hby at_165) rfl ?_
    show Steps p.tables e below (T37.setTop (mkF m 167 #[vI p0, vI p1, vJ q2, .second, vI p3, vJ v1, .second, vJ v2, .second, vJ v5, .second, vJ v8, .second, vR b9, vI (own_cont v1 v5 v1), vI (own_cont v1 v5 (v1 - (1 : Int64))), vI (own_cont v1 v5 (v5 - (1 : Int64))), vI (own_cont v1 v5 v5), vI (own_cont v1 v5 q2), vI (own_cont v1 v5 v8)] [(.int (own_cont v1 v5 v8))])) _
    refine XS.lload X37.here hx rfl (hb hby at_167) rfl ?_
    show Steps p.tables e below (T37.setTop (mkF m 169 #[vI p0, vI p1, vJ q2, .second, vI p3, vJ v1, .second, vJ v2, .second, vJ v5, .second, vJ v8, .second, vR b9, vI (own_cont v1 v5 v1), vI (own_cont v1 v5 (v1 - (1 : Int64))), vI (own_cont v1 v5 (v5 - (1 : Int64))), vI (own_cont v1 v5 v5), vI (own_cont v1 v5 q2), vI (own_cont v1 v5 v8)] [(.long v1), (.int (own_cont v1 v5 v8))])) _
    refine XS.lload X37.here hx rfl (hb hby at_169) rfl ?_
    show Steps p.tables e below (T37.setTop (mkF m 171 #[vI p0, vI p1, vJ q2, .second, vI p3, vJ v1, .second, vJ v2, .second, vJ v5, .second, vJ v8, .second, vR b9, vI (own_cont v1 v5 v1), vI (own_cont v1 v5 (v1 - (1 : Int64))), vI (own_cont v1 v5 (v5 - (1 : Int64))), vI (own_cont v1 v5 v5), vI (own_cont v1 v5 q2), vI (own_cont v1 v5 v8)] [(.long v5), (.long v1), (.int (own_cont v1 v5 v8))])) _
    refine XS.lload X37.here hx rfl (hb hby at_171) rfl ?_
    show Steps p.tables e below (T37.setTop (mkF m 173 #[vI p0, vI p1, vJ q2, .second, vI p3, vJ v1, .second, vJ v2, .second, vJ v5, .second, vJ v8, .second, vR b9, vI (own_cont v1 v5 v1), vI (own_cont v1 v5 (v1 - (1 : Int64))), vI (own_cont v1 v5 (v5 - (1 : Int64))), vI (own_cont v1 v5 v5), vI (own_cont v1 v5 q2), vI (own_cont v1 v5 v8)] [(.long v8), (.long v5), (.long v1), (.int (own_cont v1 v5 v8))])) _
    exact k)
  obtain ⟨_, _, ⟨T40, L40, k40, n40⟩, -, X40, ⟨Lc40, hQ40, l40, y40, z40⟩, st40⟩ := Jvm.LawKit.callS X37 hx (y := (⟨"com/example/tariff_riders/tariffriders/CapacityContainsPinLaw", "expected", "(JJJ)Z"⟩ : MethodName)) hown (mvT hZ (hw _ (List.mem_of_getElem? (i := 22) rfl))) (mvT hZ (hw _ (List.mem_of_getElem? (i := 23) rfl))) (mvT hZ (hw _ (List.mem_of_getElem? (i := 24) rfl))) (mvT hZ (hw _ (List.mem_of_getElem? (i := 25) rfl))) (by decide) (backOf (W := 1) (rm4 l Z A0 hw [] v1 v5 v8 T13.heap n0 zz15) hZ (hw _ (List.mem_of_getElem? (i := 25) rfl)) (hw _ (List.mem_of_getElem? (i := 24) rfl)) (by decide) (by decide)) (g := (mkF m 173 #[vI p0, vI p1, vJ q2, .second, vI p3, vJ v1, .second, vJ v2, .second, vJ v5, .second, vJ v8, .second, vR b9, vI (own_cont v1 v5 v1), vI (own_cont v1 v5 (v1 - (1 : Int64))), vI (own_cont v1 v5 (v5 - (1 : Int64))), vI (own_cont v1 v5 v5), vI (own_cont v1 v5 q2), vI (own_cont v1 v5 v8)] [(.long v8), (.long v5), (.long v1), (.int (own_cont v1 v5 v8))])) rfl (by rw [hml]; rfl) (argsL := [(.long v1), (.long v5), (.long v8)]) (rest := [(.int (own_cont v1 v5 v8))]) (lenOf pd_2 rfl) rfl (by show 2 * 0 + _ ≤ _; exact Nat.le_of_eq rfl) (hb hby at_173) (fun _ _ => ⟨rfl, eq37, (by decide : 1 + 0 ≤ _), (by decide : 2 + 0 ≤ _)⟩)
  dsimp only [Pt.U, Pt.locs, Pt.cells, Pt.slots] at X40 l40 y40 z40 st40 hQ40
  subst l40 y40 z40
  obtain ⟨rfl, Nq40, eq40⟩ := hQ40
  have N40 := Fr.app N37 Nq40
  have pre40 : Go p.tables e below S0 T40 (mkF m 176 #[vI p0, vI p1, vJ q2, .second, vI p3, vJ v1, .second, vJ v2, .second, vJ v5, .second, vJ v8, .second, vR b9, vI (own_cont v1 v5 v1), vI (own_cont v1 v5 (v1 - (1 : Int64))), vI (own_cont v1 v5 (v5 - (1 : Int64))), vI (own_cont v1 v5 v5), vI (own_cont v1 v5 q2), vI (own_cont v1 v5 v8)] [(.int (own_exp v1 v5 v8)), (.int (own_cont v1 v5 v8))]) := fun t k => pre39 t (st40 t k)
  have cc41 : (own_cont v1 v5 v8) = (own_exp v1 v5 v8) := own_same _ _ _
  have pre42 : Go p.tables e below S0 T40 (mkF m 184 #[vI p0, vI p1, vJ q2, .second, vI p3, vJ v1, .second, vJ v2, .second, vJ v5, .second, vJ v8, .second, vR b9, vI (own_cont v1 v5 v1), vI (own_cont v1 v5 (v1 - (1 : Int64))), vI (own_cont v1 v5 (v5 - (1 : Int64))), vI (own_cont v1 v5 v5), vI (own_cont v1 v5 q2), vI (own_cont v1 v5 v8)] [(.int (1 : Int32))]) := fun t k => pre40 t (by
    refine XS.icmpNo X40.here hx rfl (hb hby at_176) rfl (teq cc41).2 ?_
    show Steps p.tables e below (T40.setTop (mkF m 179 #[vI p0, vI p1, vJ q2, .second, vI p3, vJ v1, .second, vJ v2, .second, vJ v5, .second, vJ v8, .second, vR b9, vI (own_cont v1 v5 v1), vI (own_cont v1 v5 (v1 - (1 : Int64))), vI (own_cont v1 v5 (v5 - (1 : Int64))), vI (own_cont v1 v5 v5), vI (own_cont v1 v5 q2), vI (own_cont v1 v5 v8)] [])) _
    refine XS.iconst X40.here hx rfl (hb hby at_179) ?_
    show Steps p.tables e below (T40.setTop (mkF m 180 #[vI p0, vI p1, vJ q2, .second, vI p3, vJ v1, .second, vJ v2, .second, vJ v5, .second, vJ v8, .second, vR b9, vI (own_cont v1 v5 v1), vI (own_cont v1 v5 (v1 - (1 : Int64))), vI (own_cont v1 v5 (v5 - (1 : Int64))), vI (own_cont v1 v5 v5), vI (own_cont v1 v5 q2), vI (own_cont v1 v5 v8)] [(.int (1 : Int32))])) _
    refine XS.goto X40.here hx rfl (pc0 := 180) (pc' := 184) rfl (hb hby at_180) (by decide) (by decide) ?_
    show Steps p.tables e below (T40.setTop (mkF m 184 #[vI p0, vI p1, vJ q2, .second, vI p3, vJ v1, .second, vJ v2, .second, vJ v5, .second, vJ v8, .second, vR b9, vI (own_cont v1 v5 v1), vI (own_cont v1 v5 (v1 - (1 : Int64))), vI (own_cont v1 v5 (v5 - (1 : Int64))), vI (own_cont v1 v5 v5), vI (own_cont v1 v5 q2), vI (own_cont v1 v5 v8)] [(.int (1 : Int32))])) _
    exact k)
  obtain ⟨fs, hr, hrun, hended, hW, hsame⟩ := X40.leave (v := some (.int (1 : Int32))) (fun h => by rw [Bd.returns] at h; cases h)
  exact ⟨_, _, pre42.fin hS0 (retN X40 hx (t := .boolean) Bd.returns (by simp) (hb hby at_184) hr), hrun, hended, _, _, rfl, (by
    show Q0 Z p0 p1 q2 p3 h0 n0 _ T40.heap _
    rw [eq40]
    exact ⟨rfl, N40⟩), ⟨_, rfl⟩, hW, hsame.mono (by decide) (by decide)⟩
set_option maxRecDepth 65536 in
set_option maxHeartbeats 40000000 in
theorem comes_1 {Post : Tables → Env → Array Value → State → Outcome → State → Prop} (hpost : ∀ tb e args s v u, (limb_1_1.after args s (.returned v) u = true ∧ limb_1_2.after args s (.returned v) u = true ∧ True) → FrameEnd s (.returned v) u (Jvm.fieldLocs frame_1_writes args s ++ Jvm.arrayLocs frame_1_arrays args s ++ Jvm.staticLocs frame_1_statics s) 16 128 → Post tb e args s (.returned v) u) :
    ArmFor flags0 classFile x code maxLocals ret World_1 tables_1 room_1 Calls_1 rest_1 Pre_1 Post := by
  intro l hfl _ _ p e ha hc hk s m args below hf hA hF happ hP
  obtain ⟨hcalls, hrest, hpre⟩ := hP
  obtain ⟨-, -, -, hnamed, -, -, -, hat⟩ := (Spec.applies_iff hf).mp happ
  obtain ⟨hg, hn⟩ := and_e (Cond.before_iff.mp (show (Jvm.Cond.and given_1 narrow_1).before args s = true from hpre))
  obtain ⟨g0, r0⟩ := and_e hg
  obtain ⟨g1, r1⟩ := and_e r0
  obtain ⟨g2, r2⟩ := and_e r1
  obtain ⟨g3, r3⟩ := and_e r2
  obtain ⟨w0, w1, w2, w3, rfl⟩ : ∃ w0 w1 w2 w3 : Value, args = #[w0, w1, w2, w3] := by
    have hs : args.size = 4 := by simpa [Cond.value, given_1] using g0
    obtain ⟨L⟩ := args
    match L, hs with
    | [w0, w1, w2, w3], _ => exact ⟨w0, w1, w2, w3, rfl⟩
  have hw := fun d (hd : d ∈ tables_1) => atoms_spec (ws := Jvm.Cond.code x code maxLocals ret :: tables_1) hat d (List.mem_cons_of_mem _ hd)
  obtain ⟨i0, ei0⟩ := is_v g1
  obtain rfl : w0 = (.int i0) := Option.some.inj ei0
  obtain ⟨i1, ei1⟩ := is_v g2
  obtain rfl : w1 = (.int i1) := Option.some.inj ei1
  obtain ⟨i2, ei2⟩ := isL_v g3
  obtain rfl : w2 = (.long i2) := Option.some.inj ei2
  obtain ⟨i3, ei3⟩ := is_v r3
  obtain rfl : w3 = (.int i3) := Option.some.inj ei3
  obtain ⟨n, o, h1, h2, h3, _, L, rfl, ⟨rfl, N⟩, hq⟩ := rm0 l s _ hw tables_1 i0 i1 i2 i3  s.heap s.heap.size (Nat.le_refl _) p e ha hc hk s m _ below hf ((Spec.applies_iff_loose hf).mp happ).1 ⟨rfl, State.Warmed39.refl s, rfl⟩ trivial
  refine ⟨n, _, h1, h2, h3, hpost _ _ _ _ _ _ ⟨Cond.after_iff.mpr rfl, Cond.after_iff.mpr (eq_i res_at (Term.int_eval (1)) rfl), trivial⟩ ⟨hq.1, hq.2.1, (hq.2.2.sift fun y hy => Or.inr (N y hy)).mono (by decide) (by decide)⟩⟩
theorem main_1_1 : Claimed_1_1 := comes_1 fun _ _ _ _ _ _ h hF => ⟨h.1, hF⟩
theorem main_1_2 : Claimed_1_2 := comes_1 fun _ _ _ _ _ _ h hF => ⟨h.2.1, hF⟩
end Jvm.Pilot.@@N@@
namespace Jvm.Pilot.@@N@@
open Jvm Jvm.ClassFile Sem Op Lib Jvm.Free Jvm.Stand Jvm.Pilot.@@N@@.Jvm.D
/-! MADE BY PROGRAM (witnessworld.py) out of the Statement's table words and the real class files: 9 classes; the members and pool entries that the words name. The judged class is class 1, her method 2. -/
namespace start1
open Jvm.ClassFile
def u (s : String) : CpInfo := .utf8 (stringToUtf16 s)
/-- a pool by its gaps: so many unusable entries, then the entry; so many at the end -/
def gap : Nat → List CpInfo → List CpInfo
  | 0, r => r
  | n + 1, r => .unusable :: gap n r
def poolList (es : List (Nat × CpInfo)) (last : Nat) : List CpInfo := es.foldr (fun e r => gap e.1 (e.2 :: r)) (gap last [])
def pool (es : List (Nat × CpInfo)) (last : Nat) : Array CpInfo := ⟨poolList es last⟩
def fileOf (pool : Array CpInfo) (this : Nat) (attrs : Array Attribute := #[]) (ms : Array MethodInfo := #[]) (fl : Nat := 33) (sup : Nat := 0) (ifs : Array Nat := #[]) (fds : Array FieldInfo := #[]) : ClassFile where
  minorVersion := 0
  majorVersion := 65
  constantPool := pool
  accessFlags := fl
  thisClass := this
  superClass := sup
  interfaces := ifs
  fields := fds
  methods := ms
  attributes := attrs
def plain (name : String) (sup : Option ClassId) : Class where
  name := name
  kind := .ordinary
  loader := none
  accessFlags := 33
  super := sup
  interfaces := #[]
  cf := none
  fields := #[]
  methods := #[]
  instanceTypes := #[]
  staticTypes := #[]
  resolved := #[]
  callSites := []
  init := .initialized
  statics := none
  mirror := none

def pool0 : Array CpInfo := pool [(5, u "<init>"), (0, u "()V"), (1, .class_ 10), (1, u "java/lang/Object")] 113

def k0c0 : Code := { maxStack := 0, maxLocals := 1, code := object_method_1_code, exceptionTable := #[], attributes := #[] }
def k0m0 : Method := { name := "<init>", desc := "()V", sig := { parameters := [], returnType := none }, accessFlags := 1, code := some k0c0 }
/-- java/lang/Object -/
def k0 : Class := { plain "java/lang/Object" none with
  accessFlags := 33
  interfaces := #[]
  cf := some (fileOf pool0 8 #[] #[{ accessFlags := 1, nameIndex := 5, descriptorIndex := 6, attributes := #[] }] 33 0 #[] #[])
  fields := #[]
  methods := #[k0m0]
  instanceTypes := #[]
  staticTypes := #[]
  resolved := Array.replicate 124 none
  statics := none }

def pool1 : Array CpInfo := pool [(2, .class_ 4), (1, u "java/lang/Object"), (0, u "<init>"), (0, u "()V"), (0, .integer 2147483647), (0, .long 50), (1, .long 2), (1, .long 4), (1, .class_ 15), (0, u "com/example/tariff_riders/tariffriders/Capacity"), (0, .methodref 14 17), (0, .nameAndType 5 18), (0, u "(JJ)V"), (0, .methodref 14 20), (0, .nameAndType 21 22), (0, u "contains"), (0, u "(J)Z"), (0, .methodref 24 25), (0, .class_ 26), (0, .nameAndType 27 28), (0, u "com/example/tariff_riders/tariffriders/CapacityContainsPinLaw"), (0, u "expected"), (0, u "(JJJ)Z"), (3, u "law"), (0, u "(IIJI)Z")] 2

def k1m0 : Method := { name := "<init>", desc := "()V", sig := { parameters := [], returnType := none }, accessFlags := 2, code := none }
def k1c1 : Code := { maxStack := 4, maxLocals := 6, code := method_2_code, exceptionTable := #[], attributes := #[] }
def k1m1 : Method := { name := "expected", desc := "(JJJ)Z", sig := { parameters := [.long, .long, .long], returnType := some .boolean }, accessFlags := 10, code := some k1c1 }
def k1c2 : Code := { maxStack := 7, maxLocals := 20, code := code, exceptionTable := #[], attributes := #[] }
def k1m2 : Method := { name := "law", desc := "(IIJI)Z", sig := { parameters := [.int, .int, .long, .int], returnType := some .boolean }, accessFlags := 9, code := some k1c2 }
/-- com/example/tariff_riders/tariffriders/CapacityContainsPinLaw -/
def k1 : Class := { plain "com/example/tariff_riders/tariffriders/CapacityContainsPinLaw" (some 0) with
  accessFlags := 49
  interfaces := #[]
  cf := some (fileOf pool1 24 #[] #[{ accessFlags := 2, nameIndex := 5, descriptorIndex := 6, attributes := #[] }, { accessFlags := 10, nameIndex := 27, descriptorIndex := 28, attributes := #[] }, { accessFlags := 9, nameIndex := 32, descriptorIndex := 33, attributes := #[] }] 49 2 #[] #[])
  fields := #[]
  methods := #[k1m0, k1m1, k1m2]
  instanceTypes := #[]
  staticTypes := #[]
  resolved := Array.replicate 36 none
  statics := none }

def pool2 : Array CpInfo := pool [(1, .methodref 2 3), (0, .class_ 4), (0, .nameAndType 5 6), (0, u "java/lang/Object"), (0, u "<init>"), (0, u "()V"), (0, .fieldref 8 9), (0, .class_ 10), (0, .nameAndType 11 12), (0, u "com/example/tariff_riders/tariffriders/Capacity"), (0, u "fromKva"), (0, u "J"), (0, .fieldref 8 14), (0, .nameAndType 15 12), (0, u "belowKva"), (13, u "(JJ)V"), (2, u "LOW_VOLTAGE"), (0, u "Lcom/example/tariff_riders/tariffriders/Capacity;"), (2, u "contains"), (0, u "(J)Z")] 25

def k2c0 : Code := { maxStack := 3, maxLocals := 5, code := prog_6_method_1_code, exceptionTable := #[], attributes := #[] }
def k2m0 : Method := { name := "<init>", desc := "(JJ)V", sig := { parameters := [.long, .long], returnType := none }, accessFlags := 0, code := some k2c0 }
def k2c1 : Code := { maxStack := 4, maxLocals := 3, code := prog_6_method_2_code, exceptionTable := #[], attributes := #[] }
def k2m1 : Method := { name := "contains", desc := "(J)Z", sig := { parameters := [.long], returnType := some .boolean }, accessFlags := 0, code := some k2c1 }
/-- com/example/tariff_riders/tariffriders/Capacity -/
def k2 : Class := { plain "com/example/tariff_riders/tariffriders/Capacity" (some 0) with
  accessFlags := 48
  interfaces := #[]
  cf := some (fileOf pool2 8 #[] #[{ accessFlags := 0, nameIndex := 5, descriptorIndex := 29, attributes := #[] }, { accessFlags := 0, nameIndex := 36, descriptorIndex := 37, attributes := #[] }] 48 2 #[] #[{ accessFlags := 24, nameIndex := 32, descriptorIndex := 33, attributes := #[] }, { accessFlags := 18, nameIndex := 11, descriptorIndex := 12, attributes := #[] }, { accessFlags := 18, nameIndex := 15, descriptorIndex := 12, attributes := #[] }])
  fields := #[{ name := "LOW_VOLTAGE", type := (.object "com/example/tariff_riders/tariffriders/Capacity"), accessFlags := 24, slot := 0, constantValue := 0 }, { name := "fromKva", type := .long, accessFlags := 18, slot := 0, constantValue := 0 }, { name := "belowKva", type := .long, accessFlags := 18, slot := 1, constantValue := 0 }]
  methods := #[k2m0, k2m1]
  instanceTypes := #[.long, .long]
  staticTypes := #[(.object "com/example/tariff_riders/tariffriders/Capacity")]
  resolved := Array.replicate 63 none
  statics := none }

def pool3 : Array CpInfo := pool [(1, u "java/lang/Cloneable"), (0, .class_ 1), (0, u "java/lang/Object"), (0, .class_ 3)] 3

/-- java/lang/Cloneable -/
def k3 : Class := { plain "java/lang/Cloneable" (some 0) with
  accessFlags := 1537
  interfaces := #[]
  cf := some (fileOf pool3 2 #[] #[] 1537 4 #[] #[])
  fields := #[]
  methods := #[]
  instanceTypes := #[]
  staticTypes := #[]
  resolved := Array.replicate 8 none
  statics := none }

def pool4 : Array CpInfo := pool [(1, u "java/io/Serializable"), (0, .class_ 1), (0, u "java/lang/Object"), (0, .class_ 3)] 3

/-- java/io/Serializable -/
def k4 : Class := { plain "java/io/Serializable" (some 0) with
  accessFlags := 1537
  interfaces := #[]
  cf := some (fileOf pool4 2 #[] #[] 1537 4 #[] #[])
  fields := #[]
  methods := #[]
  instanceTypes := #[]
  staticTypes := #[]
  resolved := Array.replicate 8 none
  statics := none }

/-- the primitive byte -/
def k5 : Class := { plain "byte" none with kind := .primitive 'B', accessFlags := 0x411 }
/-- [B -/
def k6 : Class := { plain "[B" (some 0) with kind := .array 5 .byte, interfaces := #[3, 4], accessFlags := 1041 }

/-- the primitive int -/
def k7 : Class := { plain "int" none with kind := .primitive 'I', accessFlags := 0x411 }
/-- [I -/
def k8 : Class := { plain "[I" (some 0) with kind := .array 7 .int, interfaces := #[3, 4], accessFlags := 1041 }

def heap : Heap := #[]
def classes : Array Class := #[k0, k1, k2, k3, k4, k5, k6, k7, k8]
def interned : List (Array UInt16 × Addr) := []
def slotsUsed : Nat := 0
def theMethod : MethodId := ⟨1, 2⟩
def args0 : Array Value := #[.int 5, .int 6, .long 7, .int 8]
def aboutOver (below : List Frame) : State where
  vm := { classes := classes, interned := interned.toArray }
  heap := heap
  slotsUsed := slotsUsed
  threads := #[{ frames := .invoking theMethod args0 :: below }]
def below0 : List Frame := [.native { method := ⟨0, 0⟩, args := #[] }]
def about1 : State := aboutOver below0
def p0 : Program := .bare "" "" ""
def e0 : Env := launch0.env 0 0 0
theorem w_frames : about1.frames = Frame.invoking theMethod args0 :: below0 := rfl
set_option maxRecDepth 65536 in
theorem w_args : argsFit about1.vm theMethod args0 = true := by decide +kernel
set_option maxRecDepth 65536 in
theorem w_heap : heapFits about1 = true := by decide +kernel
set_option maxRecDepth 65536 in
theorem w_runnable : about1.curStatus? = some .runnable := by decide +kernel
set_option maxRecDepth 65536 in
theorem w_alone : about1.alone = true := by decide +kernel
set_option maxRecDepth 65536 in
theorem w_named : about1.methodNamed? x = some theMethod := by decide +kernel
set_option maxRecDepth 65536 in
theorem w_hears : about1.hears theMethod below0 = true := by decide +kernel
set_option maxRecDepth 65536 in
theorem w_ripe : about1.ripe theMethod args0 below0 = true := by decide +kernel
theorem w_running : about1.status = .running := rfl
set_option maxRecDepth 65536 in
theorem w_room : about1.hasRoom e0.platform room_1 = true :=
  launch0.hasRoom_least _ room_1 (by decide +kernel) (by decide +kernel) (by decide +kernel) (by decide +kernel) (by decide +kernel) (by decide +kernel)
theorem allAtoms_all (ts : List Jvm.Cond) (a : Array Jvm.Value) (st : Jvm.State) : (allAtoms ts).before a st = ts.all (fun c => c.before a st) := by
  induction ts with
  | nil => rfl
  | cons c t ih =>
    show (Jvm.Cond.and c (allAtoms t)).before a st = _
    rw [Jvm.Cond.before_and, ih, List.all_cons]
def words1 : List Jvm.Cond := Jvm.Cond.code x code maxLocals ret :: tables_1
/-- a 'code' word, met by the world's own term for the bytes: nothing is compared byte by byte -/
theorem code_word {y : MethodName} {bytes : ByteArray} {mx : Nat} {rt : Option FieldType} {a : Array Value} {s : State} {m : MethodId} {meth : Method} {c : Code} (h1 : s.methodNamed? y = some m) (h2 : s.vm.method? m = some meth) (h3 : meth.code = some c) (h4 : c.code = bytes)
    (h5 : (c.maxLocals == mx && c.exceptionTable.isEmpty && decide (c.maxStack ≤ mostOperands) && decide (meth.sig.returnType = rt) && !meth.locks && decide (parseMethodDescriptor y.desc = some meth.sig)) = true) : (Jvm.Cond.code y bytes mx rt).before a s = true := by
  simp only [Bool.and_eq_true, beq_iff_eq, Bool.not_eq_true', decide_eq_true_eq] at h5
  obtain ⟨⟨⟨⟨⟨g1, g2⟩, g3⟩, g4⟩, g5⟩, g6⟩ := h5
  simp [Cond.before, Cond.holds, Cond.value, h1, h2, h3, h4, g1, g2, g3, g4, g5, g6]
def isCode : Jvm.Cond → Bool
  | .code _ _ _ _ => true
  | _ => false
theorem all_split {L : List Jvm.Cond} {P : Jvm.Cond → Bool} (h1 : L.all (fun c => isCode c || P c) = true) (h2 : ∀ c ∈ L.filter isCode, P c = true) : L.all P = true := by
  refine List.all_eq_true.mpr fun c hc => ?_
  have h := List.all_eq_true.mp h1 c hc
  rcases Bool.eq_false_or_eq_true (isCode c) with hi | hi
  · exact h2 c (List.mem_filter.mpr ⟨hc, hi⟩)
  · simpa [hi] using h
set_option maxRecDepth 65536 in
theorem w_c0 : (Jvm.Cond.code x code maxLocals ret).before args0 about1 = true := code_word (m := ⟨1, 2⟩) (meth := k1m2) (c := k1c2) (by decide +kernel) rfl rfl rfl (by decide +kernel)
set_option maxRecDepth 65536 in
theorem w_c1 : (Jvm.Cond.code ({ cls := "com/example/tariff_riders/tariffriders/Capacity", name := "<init>", desc := "(JJ)V" } : Jvm.MethodName) prog_6_method_1_code (5 : Nat) (Option.none : Option Jvm.ClassFile.FieldType)).before args0 about1 = true := code_word (m := ⟨2, 0⟩) (meth := k2m0) (c := k2c0) (by decide +kernel) rfl rfl rfl (by decide +kernel)
set_option maxRecDepth 65536 in
theorem w_c2 : (Jvm.Cond.code ({ cls := "java/lang/Object", name := "<init>", desc := "()V" } : Jvm.MethodName) object_method_1_code (1 : Nat) (Option.none : Option Jvm.ClassFile.FieldType)).before args0 about1 = true := code_word (m := ⟨0, 0⟩) (meth := k0m0) (c := k0c0) (by decide +kernel) rfl rfl rfl (by decide +kernel)
set_option maxRecDepth 65536 in
theorem w_c3 : (Jvm.Cond.code ({ cls := "com/example/tariff_riders/tariffriders/Capacity", name := "contains", desc := "(J)Z" } : Jvm.MethodName) prog_6_method_2_code (3 : Nat) (Option.some Jvm.ClassFile.FieldType.boolean)).before args0 about1 = true := code_word (m := ⟨2, 1⟩) (meth := k2m1) (c := k2c1) (by decide +kernel) rfl rfl rfl (by decide +kernel)
set_option maxRecDepth 65536 in
theorem w_c4 : (Jvm.Cond.code ({ cls := "com/example/tariff_riders/tariffriders/CapacityContainsPinLaw", name := "expected", desc := "(JJJ)Z" } : Jvm.MethodName) method_2_code (6 : Nat) (Option.some Jvm.ClassFile.FieldType.boolean)).before args0 about1 = true := code_word (m := ⟨1, 1⟩) (meth := k1m1) (c := k1c1) (by decide +kernel) rfl rfl rfl (by decide +kernel)
def codes1 : List Jvm.Cond := [Jvm.Cond.code x code maxLocals ret, Jvm.Cond.code ({ cls := "com/example/tariff_riders/tariffriders/Capacity", name := "<init>", desc := "(JJ)V" } : Jvm.MethodName) prog_6_method_1_code (5 : Nat) (Option.none : Option Jvm.ClassFile.FieldType), Jvm.Cond.code ({ cls := "java/lang/Object", name := "<init>", desc := "()V" } : Jvm.MethodName) object_method_1_code (1 : Nat) (Option.none : Option Jvm.ClassFile.FieldType), Jvm.Cond.code ({ cls := "com/example/tariff_riders/tariffriders/Capacity", name := "contains", desc := "(J)Z" } : Jvm.MethodName) prog_6_method_2_code (3 : Nat) (Option.some Jvm.ClassFile.FieldType.boolean), Jvm.Cond.code ({ cls := "com/example/tariff_riders/tariffriders/CapacityContainsPinLaw", name := "expected", desc := "(JJJ)Z" } : Jvm.MethodName) method_2_code (6 : Nat) (Option.some Jvm.ClassFile.FieldType.boolean)]
set_option maxRecDepth 65536 in
theorem codes_eq : words1.filter isCode = codes1 := rfl
theorem w_codes : ∀ c ∈ words1.filter isCode, c.before args0 about1 = true := by
  rw [codes_eq]
  intro c hc
  simp only [codes1, List.mem_cons, List.not_mem_nil, or_false] at hc
  rcases hc with rfl | rfl | rfl | rfl | rfl
  · exact w_c0
  · exact w_c1
  · exact w_c2
  · exact w_c3
  · exact w_c4
set_option maxRecDepth 65536 in
theorem w_t1 : (words1.take 24).all (fun c => isCode c || c.before args0 about1) = true := by decide +kernel
set_option maxRecDepth 65536 in
theorem w_t2 : (words1.drop 24).all (fun c => isCode c || c.before args0 about1) = true := by decide +kernel
theorem w_tables : (allAtoms (Jvm.Cond.code x code maxLocals ret :: tables_1)).before args0 about1 = true := by
  rw [allAtoms_all]
  show words1.all (fun c => c.before args0 about1) = true
  refine all_split ?_ w_codes
  rw [← List.take_append_drop 24 words1, List.all_append, w_t1, w_t2]
  rfl
set_option maxRecDepth 65536 in
theorem w_case : (Jvm.Cond.and given_1 narrow_1).before args0 about1 = true := by decide +kernel
theorem w_applies : (headSpec (Jvm.Cond.code x code maxLocals ret :: tables_1) room_1).applies x e0.platform about1 = true :=
  (Spec.applies_iff w_frames).mpr ⟨w_running, w_runnable, w_alone, w_named, w_hears, w_ripe, w_room, w_tables⟩
theorem atStart : AtStart classFile x code maxLocals ret World_1 tables_1 room_1 Calls_1 rest_1 Pre_1 launch0 p0 e0 about1 theMethod args0 below0 :=
  ⟨lists_1, trivial, launch0.admits_env _ _ _, launch0.least_env, fairChoices_fair.cas, fairChoices_fair.clock, w_frames, w_args, w_heap, w_applies, trivial, trivial, w_case⟩
end start1
theorem witness_1 : WitnessClaimed_1 := ⟨start1.p0, start1.e0, start1.about1, start1.theMethod, start1.args0, start1.below0, start1.atStart⟩
end Jvm.Pilot.@@N@@
