import JvmDerived
import JvmDerived.Pilot.@@N@@Statement
import JvmDerived.Pilot.@@N@@Code
set_option linter.unusedVariables false
set_option linter.unusedSimpArgs false
namespace Jvm.RoadKit
open Sem ClassFile Op Lib Jvm.Stand Jvm.Free Jvm.LawKit
abbrev vI (x : Int32) : Slot := .val (.int x)
abbrev vJ (x : Int64) : Slot := .val (.long x)
abbrev vR (a : Addr) : Slot := .val (.ref a)
/-- from S0 the run comes to T with g on top -/
def Go (tb : Tables) (e : Env) (below : List Frame) (S0 T : State) (g : JFrame) : Prop := ∀ t, Steps tb e below (T.setTop g) t → Steps tb e below S0 t
theorem Go.fin {tb : Tables} {e : Env} {below : List Frame} {S0 S T t : State} {g : JFrame} (h : Go tb e below S0 T g) (q : S0 = S) (k : Steps tb e below (T.setTop g) t) : Steps tb e below S t := q ▸ h t k
section New
variable {p : Program} {l : Launch} {e : Env} {R : Room} {s : State} {m : MethodId} {args : Array Value} {below : List Frame} {meth : Method} {c : Code} {T : State} {locs : List Loc} {cells slots : Nat}
theorem retJ (X : Stand p l e R s m args below meth c T locs cells slots) (hx : p.tables.exec = Jvm.exec) {pc : Nat} {Ls : Array Slot} {z : Int64} {rest : List Value} (hret : meth.sig.returnType = some .long) (hd : decode c.code pc = .ok (.lreturn, 1)) {fs : List Frame}
    (hl : ∀ (f : JFrame) (acts : List Action), f.method = m → f.locked = none → f.entered = [] → (doReturn e (T.setTop f) acts (some (.long z))).1 = T.setFrames fs) : Steps p.tables e below (T.setTop (mkF m pc Ls (.long z :: rest))) (T.setFrames fs) := by
  have hm' : T.vm.method? m = some meth := X.method'
  have hn : narrow .long (.long z) = .long z := rfl
  show Steps p.tables e below (T.setTop { method := m, pc := pc, locals := Ls, stack := _ :: rest, locked := none }) _
  jvm_step X.here [X.here.top, hx, hd, hm', hret, hn]
  first | (intro acts; rw [hl _ acts rfl rfl rfl]) | rw [hl _ _ rfl rfl rfl]
  exact Steps.refl _
end New
end Jvm.RoadKit
namespace Jvm.Pilot.@@N@@
open Jvm Jvm.ClassFile Sem Op Lib Jvm.Free Jvm.Stand Jvm.LawKit Jvm.RoadKit Bundle Jvm.Pilot.@@N@@.Jvm.D
theorem ef_2 (m : MethodId) (x0 : Addr) : entryFrame m #[(.ref x0)] 1 = mkF m 0 #[.val (.ref x0)] [] := by first | (simp [entryFrame, mkF, argsToLocals, Value.category]; done) | rfl
theorem pn_0 : plainName "java/lang/Record" = true := by first | (simp [plainName, overriddenIn]; done) | decide +kernel
theorem d2_0 : decode jdk_30_method_1_code 0 = .ok (.aload_n 0, 1) := by decide +kernel
theorem d2_1 : decode jdk_30_method_1_code 1 = .ok (.invokespecial 1, 3) := by decide +kernel
theorem d2_4 : decode jdk_30_method_1_code 4 = .ok (.return_, 1) := by decide +kernel
def Q2 (Z : State) (a0 : Addr) (h0 : Heap) (n0 : Nat) (v : Option Value) (h : Heap) (L : List Loc) : Prop := v = none ∧ Fr n0 L ∧ h = h0
set_option maxRecDepth 65536 in
set_option maxHeartbeats 40000000 in
theorem rm2 (l : Launch) (Z : State) (A0 : Array Value) (hw : ∀ d ∈ tables_1, d.before A0 Z = true) (ws : List Jvm.Cond) (a0 : Addr)  (h0 : Heap) (n0 : Nat) (Z0 : n0 ≤ h0.size)  :
    MetFree l (⟨"java/lang/Record", "<init>", "()V"⟩ : MethodName) (head1 (Jvm.Cond.code (⟨"java/lang/Record", "<init>", "()V"⟩ : MethodName) jdk_30_method_1_code 1 none :: ws) ({ frames := 1, cells := 0, slots := 0, locals := 12 } : Room)) (fun a U => a = #[(.ref a0)] ∧ Z.Warmed39 U.vm ∧ U.heap = h0) (fun _ _ _ _ _ => True) (fun _ U o U' => ∃ v L, o = .returned v ∧ Q2 Z a0 h0 n0 v U'.heap L ∧ FrameEnd U o U' L ({ frames := 1, cells := 0, slots := 0, locals := 12 } : Room).cells ({ frames := 1, cells := 0, slots := 0, locals := 12 } : Room).slots) := by
  refine MetFree.of_bodySF (plainFor_of_name pn_0) hisR ?_
  intro p e s m args below meth c s₁ Bd hml0 hP hK
  obtain ⟨rfl, hZ, hh⟩ := hP
  have hx := Bd.exec
  have hby := Bd.bytes
  have hml : c.maxLocals = 1 := hml0
  have hown : s.vm.findClass "java/lang/Record" = some m.cls := findClass_of_methodNamed Bd.named
  have hnm := (name_of_methodNamed Bd.named Bd.method).1
  have X0 : Stand p l e ({ frames := 1, cells := 0, slots := 0, locals := 12 } : Room) s m #[(.ref a0)] below meth c s₁ [] 0 0 := Stand.of_body Bd
  have e0 : s₁.heap = h0 := by rw [← hh, Bd.state]; rfl
  have N0 := Fr.nil n0
  obtain ⟨S0, hS0⟩ : ∃ z, z = s₁.setTop (entryFrame m #[(.ref a0)] 1) := ⟨_, rfl⟩
  have pre0 : Go p.tables e below S0 s₁ (mkF m 0 #[vR a0] []) := fun t k => by rw [hS0]; exact castTop (ef_2 m a0) k
  have pre1 : Go p.tables e below S0 s₁ (mkF m 1 #[vR a0] [(.ref a0)]) := fun t k => pre0 t (by
    refine XS.aloadN X0.here hx rfl (hb hby d2_0) rfl rfl ?_
    show Steps p.tables e below (s₁.setTop (mkF m 1 #[vR a0] [(.ref a0)])) _
    exact k)
  obtain ⟨T2, X2, e2, st2⟩ := initO X0 hx hZ hown (hw _ (List.mem_of_getElem? (i := 12) rfl)) (hw _ (List.mem_of_getElem? (i := 13) rfl)) (hw _ (List.mem_of_getElem? (i := 14) rfl)) e0 (g := (mkF m 1 #[vR a0] [(.ref a0)])) rfl (by rw [hml]; rfl) rfl (hb hby d2_1) (by decide) (W := 0) (by show 2 * 0 + _ ≤ _; exact Nat.le_of_eq rfl) (by decide)
  have pre2 : Go p.tables e below S0 T2 (mkF m 4 #[vR a0] []) := fun t k => pre1 t (st2 t k)
  obtain ⟨fs, hr, hrun, hended, hW, hsame⟩ := X2.leave (v := none) (fun _ => rfl)
  exact ⟨_, _, pre2.fin hS0 (X2.returnOut hx Bd.returns (hb hby d2_4) hr), hrun, hended, _, _, rfl, (by
    show Q2 Z a0 h0 n0 _ T2.heap _
    rw [e2]
    exact ⟨rfl, N0, rfl⟩), ⟨_, rfl⟩, hW, hsame.mono (by decide) (by decide)⟩
theorem ef_1 (m : MethodId) (x0 : Addr) (x1 : Int64) (x2 : Int64) (x3 : Int64) : entryFrame m #[(.ref x0), (.long x1), (.long x2), (.long x3)] 7 = mkF m 0 #[.val (.ref x0), .val (.long x1), .second, .val (.long x2), .second, .val (.long x3), .second] [] := by first | (simp [entryFrame, mkF, argsToLocals, Value.category]; done) | rfl
theorem pn_1 : plainName "com/example/scalecast/scalecast/SchedulerCosts" = true := by first | (simp [plainName, overriddenIn]; done) | decide +kernel
theorem pd_0 : parseMethodDescriptor "()V" = some ⟨[], none⟩ := by decide +kernel
theorem d1_0 : decode prog_33_method_1_code 0 = .ok (.aload_n 0, 1) := by decide +kernel
theorem d1_1 : decode prog_33_method_1_code 1 = .ok (.invokespecial 1, 3) := by decide +kernel
theorem d1_4 : decode prog_33_method_1_code 4 = .ok (.lload_n 1, 1) := by decide +kernel
theorem d1_5 : decode prog_33_method_1_code 5 = .ok (.lconst 0, 1) := by decide +kernel
theorem d1_6 : decode prog_33_method_1_code 6 = .ok (.lcmp, 1) := by decide +kernel
theorem d1_7 : decode prog_33_method_1_code 7 = .ok (.ifCond .lt 16, 3) := by decide +kernel
theorem d1_10 : decode prog_33_method_1_code 10 = .ok (.lload_n 3, 1) := by decide +kernel
theorem d1_11 : decode prog_33_method_1_code 11 = .ok (.lconst 0, 1) := by decide +kernel
theorem d1_12 : decode prog_33_method_1_code 12 = .ok (.lcmp, 1) := by decide +kernel
theorem d1_13 : decode prog_33_method_1_code 13 = .ok (.ifCond .lt 10, 3) := by decide +kernel
theorem d1_16 : decode prog_33_method_1_code 16 = .ok (.lload 5, 2) := by decide +kernel
theorem d1_18 : decode prog_33_method_1_code 18 = .ok (.lconst 0, 1) := by decide +kernel
theorem d1_19 : decode prog_33_method_1_code 19 = .ok (.lcmp, 1) := by decide +kernel
theorem d1_20 : decode prog_33_method_1_code 20 = .ok (.ifCond .ge 20, 3) := by decide +kernel
theorem d1_40 : decode prog_33_method_1_code 40 = .ok (.aload_n 0, 1) := by decide +kernel
theorem d1_41 : decode prog_33_method_1_code 41 = .ok (.lload_n 1, 1) := by decide +kernel
theorem d1_42 : decode prog_33_method_1_code 42 = .ok (.putfield 16, 3) := by decide +kernel
theorem d1_45 : decode prog_33_method_1_code 45 = .ok (.aload_n 0, 1) := by decide +kernel
theorem d1_46 : decode prog_33_method_1_code 46 = .ok (.lload_n 3, 1) := by decide +kernel
theorem d1_47 : decode prog_33_method_1_code 47 = .ok (.putfield 22, 3) := by decide +kernel
theorem d1_50 : decode prog_33_method_1_code 50 = .ok (.aload_n 0, 1) := by decide +kernel
theorem d1_51 : decode prog_33_method_1_code 51 = .ok (.lload 5, 2) := by decide +kernel
theorem d1_53 : decode prog_33_method_1_code 53 = .ok (.putfield 25, 3) := by decide +kernel
theorem d1_56 : decode prog_33_method_1_code 56 = .ok (.return_, 1) := by decide +kernel
def Q1 (Z : State) (a0 : Addr) (q1 : Int64) (q2 : Int64) (q3 : Int64) (h0 : Heap) (n0 : Nat) (v : Option Value) (h : Heap) (L : List Loc) : Prop := v = none ∧ Fr n0 L ∧ Keep h0 h [a0] ∧ (Exa Z h a0 "com/example/scalecast/scalecast/SchedulerCosts") ∧ (Fld Z h a0 "com/example/scalecast/scalecast/SchedulerCosts" "heartbeatUs" "J" (.long q1)) ∧ (Fld Z h a0 "com/example/scalecast/scalecast/SchedulerCosts" "visitUs" "J" (.long q2)) ∧ (Fld Z h a0 "com/example/scalecast/scalecast/SchedulerCosts" "allocationUs" "J" (.long q3))
set_option maxRecDepth 65536 in
set_option maxHeartbeats 40000000 in
theorem rm1 (l : Launch) (Z : State) (A0 : Array Value) (hw : ∀ d ∈ tables_1, d.before A0 Z = true) (ws : List Jvm.Cond) (a0 : Addr) (q1 : Int64) (q2 : Int64) (q3 : Int64)  (h0 : Heap) (n0 : Nat) (Z0 : n0 ≤ h0.size) (E0 : Exa Z h0 a0 "com/example/scalecast/scalecast/SchedulerCosts") (F_heartbeatUs : Fld Z h0 a0 "com/example/scalecast/scalecast/SchedulerCosts" "heartbeatUs" "J" (.long (0 : Int64))) (F_visitUs : Fld Z h0 a0 "com/example/scalecast/scalecast/SchedulerCosts" "visitUs" "J" (.long (0 : Int64))) (F_allocationUs : Fld Z h0 a0 "com/example/scalecast/scalecast/SchedulerCosts" "allocationUs" "J" (.long (0 : Int64))) (g0 : n0 ≤ a0) (n1 : ¬ (q1 < (0 : Int64))) (n2 : ¬ (q2 < (0 : Int64))) (n3 : ¬ (q3 < (0 : Int64))) :
    MetFree l (⟨"com/example/scalecast/scalecast/SchedulerCosts", "<init>", "(JJJ)V"⟩ : MethodName) (head1 (Jvm.Cond.code (⟨"com/example/scalecast/scalecast/SchedulerCosts", "<init>", "(JJJ)V"⟩ : MethodName) prog_33_method_1_code 7 none :: ws) ({ frames := 2, cells := 0, slots := 0, locals := 24 } : Room)) (fun a U => a = #[(.ref a0), (.long q1), (.long q2), (.long q3)] ∧ Z.Warmed39 U.vm ∧ U.heap = h0) (fun _ _ _ _ _ => True) (fun _ U o U' => ∃ v L, o = .returned v ∧ Q1 Z a0 q1 q2 q3 h0 n0 v U'.heap L ∧ FrameEnd U o U' L ({ frames := 2, cells := 0, slots := 0, locals := 24 } : Room).cells ({ frames := 2, cells := 0, slots := 0, locals := 24 } : Room).slots) := by
  refine MetFree.of_bodySF (plainFor_of_name pn_1) hisR ?_
  intro p e s m args below meth c s₁ Bd hml0 hP hK
  obtain ⟨rfl, hZ, hh⟩ := hP
  have hx := Bd.exec
  have hby := Bd.bytes
  have hml : c.maxLocals = 7 := hml0
  have hown : s.vm.findClass "com/example/scalecast/scalecast/SchedulerCosts" = some m.cls := findClass_of_methodNamed Bd.named
  have hnm := (name_of_methodNamed Bd.named Bd.method).1
  have X0 : Stand p l e ({ frames := 2, cells := 0, slots := 0, locals := 24 } : Room) s m #[(.ref a0), (.long q1), (.long q2), (.long q3)] below meth c s₁ [] 0 0 := Stand.of_body Bd
  have e0 : s₁.heap = h0 := by rw [← hh, Bd.state]; rfl
  have N0 := Fr.nil n0
  have kp0 : Keep h0 h0 [a0] := Keep.refl _ _
  obtain ⟨S0, hS0⟩ : ∃ z, z = s₁.setTop (entryFrame m #[(.ref a0), (.long q1), (.long q2), (.long q3)] 7) := ⟨_, rfl⟩
  have pre0 : Go p.tables e below S0 s₁ (mkF m 0 #[vR a0, vJ q1, .second, vJ q2, .second, vJ q3, .second] []) := fun t k => by rw [hS0]; exact castTop (ef_1 m a0 q1 q2 q3) k
  have pre1 : Go p.tables e below S0 s₁ (mkF m 1 #[vR a0, vJ q1, .second, vJ q2, .second, vJ q3, .second] [(.ref a0)]) := fun t k => pre0 t (by
    refine XS.aloadN X0.here hx rfl (hb hby d1_0) rfl rfl ?_
    show Steps p.tables e below (s₁.setTop (mkF m 1 #[vR a0, vJ q1, .second, vJ q2, .second, vJ q3, .second] [(.ref a0)])) _
    exact k)
  obtain ⟨_, _, ⟨T2, L2, k2, n2⟩, -, X2, ⟨Lc2, hQ2, l2, y2, z2⟩, st2⟩ := X0.specialBack hx (y := (⟨"java/lang/Record", "<init>", "()V"⟩ : MethodName)) rfl hown (mvT hZ (hw _ (List.mem_of_getElem? (i := 7) rfl))) (mvT hZ (hw _ (List.mem_of_getElem? (i := 8) rfl))) (mvT hZ (hw _ (List.mem_of_getElem? (i := 11) rfl))) (by decide) (backOf (W := 0) (rm2 l Z A0 hw [] a0 h0 n0 Z0) hZ (hw _ (List.mem_of_getElem? (i := 11) rfl)) (hw _ (List.mem_of_getElem? (i := 10) rfl)) (by decide) (by decide)) (g := (mkF m 1 #[vR a0, vJ q1, .second, vJ q2, .second, vJ q3, .second] [(.ref a0)])) rfl (by rw [hml]; rfl) (Steps.refl _) (a := a0) (argsL := []) (rest := []) (lenOf pd_0 rfl) rfl (by show 2 * 0 + _ ≤ _; exact Nat.le_of_eq rfl) (hb hby d1_1) (fun _ _ => ⟨rfl, e0, (by decide : 0 + 0 ≤ _), (by decide : 0 + 0 ≤ _)⟩)
  dsimp only [Pt.U, Pt.locs, Pt.cells, Pt.slots] at X2 l2 y2 z2 st2 hQ2
  subst l2 y2 z2
  obtain ⟨rfl, Nq2, eq2⟩ := hQ2
  have N2 := Fr.app N0 Nq2
  have pre2 : Go p.tables e below S0 T2 (mkF m 4 #[vR a0, vJ q1, .second, vJ q2, .second, vJ q3, .second] []) := fun t k => pre1 t (st2.trans k)
  have pre3 : Go p.tables e below S0 T2 (mkF m 7 #[vR a0, vJ q1, .second, vJ q2, .second, vJ q3, .second] [(.int (lcmpW q1 (0 : Int64)))]) := fun t k => pre2 t (by
    refine XS.lloadN X2.here hx rfl (hb hby d1_4) rfl ?_
    show Steps p.tables e below (T2.setTop (mkF m 5 #[vR a0, vJ q1, .second, vJ q2, .second, vJ q3, .second] [(.long q1)])) _
    refine XS.lconst X2.here hx rfl (hb hby d1_5) ?_
    show Steps p.tables e below (T2.setTop (mkF m 6 #[vR a0, vJ q1, .second, vJ q2, .second, vJ q3, .second] [(.long (0 : Int64)), (.long q1)])) _
    refine XS.lcmp X2.here hx rfl (hb hby d1_6) rfl ?_
    show Steps p.tables e below (T2.setTop (mkF m 7 #[vR a0, vJ q1, .second, vJ q2, .second, vJ q3, .second] [(.int (lcmpW q1 (0 : Int64)))])) _
    exact k)
  have cc4 : ¬ (q1 < (0 : Int64)) := n1
  have pre5 : Go p.tables e below S0 T2 (mkF m 13 #[vR a0, vJ q1, .second, vJ q2, .second, vJ q3, .second] [(.int (lcmpW q2 (0 : Int64)))]) := fun t k => pre3 t (by
    refine XS.ifNo X2.here hx rfl (hb hby d1_7) rfl ((if0 _ _).trans (flt (fun q => cc4 ((lw_lt _ _).mp q))).1) ?_
    show Steps p.tables e below (T2.setTop (mkF m 10 #[vR a0, vJ q1, .second, vJ q2, .second, vJ q3, .second] [])) _
    refine XS.lloadN X2.here hx rfl (hb hby d1_10) rfl ?_
    show Steps p.tables e below (T2.setTop (mkF m 11 #[vR a0, vJ q1, .second, vJ q2, .second, vJ q3, .second] [(.long q2)])) _
    refine XS.lconst X2.here hx rfl (hb hby d1_11) ?_
    show Steps p.tables e below (T2.setTop (mkF m 12 #[vR a0, vJ q1, .second, vJ q2, .second, vJ q3, .second] [(.long (0 : Int64)), (.long q2)])) _
    refine XS.lcmp X2.here hx rfl (hb hby d1_12) rfl ?_
    show Steps p.tables e below (T2.setTop (mkF m 13 #[vR a0, vJ q1, .second, vJ q2, .second, vJ q3, .second] [(.int (lcmpW q2 (0 : Int64)))])) _
    exact k)
  have cc6 : ¬ (q2 < (0 : Int64)) := n2
  have pre7 : Go p.tables e below S0 T2 (mkF m 20 #[vR a0, vJ q1, .second, vJ q2, .second, vJ q3, .second] [(.int (lcmpW q3 (0 : Int64)))]) := fun t k => pre5 t (by
    refine XS.ifNo X2.here hx rfl (hb hby d1_13) rfl ((if0 _ _).trans (flt (fun q => cc6 ((lw_lt _ _).mp q))).1) ?_
    show Steps p.tables e below (T2.setTop (mkF m 16 #[vR a0, vJ q1, .second, vJ q2, .second, vJ q3, .second] [])) _
    refine XS.lload X2.here hx rfl (hb hby d1_16) rfl ?_
    show Steps p.tables e below (T2.setTop (mkF m 18 #[vR a0, vJ q1, .second, vJ q2, .second, vJ q3, .second] [(.long q3)])) _
    refine XS.lconst X2.here hx rfl (hb hby d1_18) ?_
    show Steps p.tables e below (T2.setTop (mkF m 19 #[vR a0, vJ q1, .second, vJ q2, .second, vJ q3, .second] [(.long (0 : Int64)), (.long q3)])) _
    refine XS.lcmp X2.here hx rfl (hb hby d1_19) rfl ?_
    show Steps p.tables e below (T2.setTop (mkF m 20 #[vR a0, vJ q1, .second, vJ q2, .second, vJ q3, .second] [(.int (lcmpW q3 (0 : Int64)))])) _
    exact k)
  have cc8 : ¬ (q3 < (0 : Int64)) := n3
  have pre9 : Go p.tables e below S0 T2 (mkF m 42 #[vR a0, vJ q1, .second, vJ q2, .second, vJ q3, .second] [(.long q1), (.ref a0)]) := fun t k => pre7 t (by
    refine XS.ifYes X2.here hx rfl (pc0 := 20) (pc' := 40) rfl (hb hby d1_20) rfl ((if0 _ _).trans (flt (fun q => cc8 ((lw_lt _ _).mp q))).2.1) (by decide) (by decide) ?_
    show Steps p.tables e below (T2.setTop (mkF m 40 #[vR a0, vJ q1, .second, vJ q2, .second, vJ q3, .second] [])) _
    refine XS.aloadN X2.here hx rfl (hb hby d1_40) rfl rfl ?_
    show Steps p.tables e below (T2.setTop (mkF m 41 #[vR a0, vJ q1, .second, vJ q2, .second, vJ q3, .second] [(.ref a0)])) _
    refine XS.lloadN X2.here hx rfl (hb hby d1_41) rfl ?_
    show Steps p.tables e below (T2.setTop (mkF m 42 #[vR a0, vJ q1, .second, vJ q2, .second, vJ q3, .second] [(.long q1), (.ref a0)])) _
    exact k)
  obtain ⟨T10, h10, X10, e10, W10, st10⟩ := putF X2 hx hZ hown (host := "") (Or.inl (hw _ (List.mem_of_getElem? (i := 15) rfl))) Via.refl eq2 F_heartbeatUs E0 (Or.inr ⟨(hw _ (List.mem_of_getElem? (i := 16) rfl)), rfl, hnm⟩) (hw _ (List.mem_of_getElem? (i := 2) rfl)) (ty := .long) (by decide) rfl rfl (g := (mkF m 42 #[vR a0, vJ q1, .second, vJ q2, .second, vJ q3, .second] [(.long q1), (.ref a0)])) rfl rfl (hb hby d1_42)
  have pre10 : Go p.tables e below S0 T10 (mkF m 45 #[vR a0, vJ q1, .second, vJ q2, .second, vJ q3, .second] []) := fun t k => pre9 t (st10 t k)
  have N10 := Fr.snoc X10 N2 g0
  have fw10 : Fld Z h10 a0 "com/example/scalecast/scalecast/SchedulerCosts" "heartbeatUs" "J" (.long q1) := Fld.same W10 F_heartbeatUs
  have f11_1 := Exa.wr W10 E0
  have f11_2 := Fld.other W10 F_visitUs (Or.inr (slot_ne (Or.inr (hw _ (List.mem_of_getElem? (i := 18) rfl))) (Or.inr (hw _ (List.mem_of_getElem? (i := 16) rfl))) (by decide) (t := .long) (t' := .long) (by decide) (by decide)))
  have f11_3 := Fld.other W10 F_allocationUs (Or.inr (slot_ne (Or.inr (hw _ (List.mem_of_getElem? (i := 20) rfl))) (Or.inr (hw _ (List.mem_of_getElem? (i := 16) rfl))) (by decide) (t := .long) (t' := .long) (by decide) (by decide)))
  have zz12 : n0 ≤ h10.size := Nat.le_trans Z0 (Keep.of_wr W10).1
  have kp13 : Keep h0 h10 [a0] := kp0.wr W10 (Or.inl (List.mem_of_getElem? (i := 0) rfl))
  have pre14 : Go p.tables e below S0 T10 (mkF m 47 #[vR a0, vJ q1, .second, vJ q2, .second, vJ q3, .second] [(.long q2), (.ref a0)]) := fun t k => pre10 t (by
    refine XS.aloadN X10.here hx rfl (hb hby d1_45) rfl rfl ?_
    show Steps p.tables e below (T10.setTop (mkF m 46 #[vR a0, vJ q1, .second, vJ q2, .second, vJ q3, .second] [(.ref a0)])) _
    refine XS.lloadN X10.here hx rfl (hb hby d1_46) rfl ?_
    show Steps p.tables e below (T10.setTop (mkF m 47 #[vR a0, vJ q1, .second, vJ q2, .second, vJ q3, .second] [(.long q2), (.ref a0)])) _
    exact k)
  obtain ⟨T15, h15, X15, e15, W15, st15⟩ := putF X10 hx hZ hown (host := "") (Or.inl (hw _ (List.mem_of_getElem? (i := 17) rfl))) Via.refl e10 f11_2 f11_1 (Or.inr ⟨(hw _ (List.mem_of_getElem? (i := 18) rfl)), rfl, hnm⟩) (hw _ (List.mem_of_getElem? (i := 2) rfl)) (ty := .long) (by decide) rfl rfl (g := (mkF m 47 #[vR a0, vJ q1, .second, vJ q2, .second, vJ q3, .second] [(.long q2), (.ref a0)])) rfl rfl (hb hby d1_47)
  have pre15 : Go p.tables e below S0 T15 (mkF m 50 #[vR a0, vJ q1, .second, vJ q2, .second, vJ q3, .second] []) := fun t k => pre14 t (st15 t k)
  have N15 := Fr.snoc X15 N10 g0
  have fw15 : Fld Z h15 a0 "com/example/scalecast/scalecast/SchedulerCosts" "visitUs" "J" (.long q2) := Fld.same W15 f11_2
  have f16_1 := Exa.wr W15 f11_1
  have f16_2 := Fld.other W15 fw10 (Or.inr (slot_ne (Or.inr (hw _ (List.mem_of_getElem? (i := 16) rfl))) (Or.inr (hw _ (List.mem_of_getElem? (i := 18) rfl))) (by decide) (t := .long) (t' := .long) (by decide) (by decide)))
  have f16_3 := Fld.other W15 f11_3 (Or.inr (slot_ne (Or.inr (hw _ (List.mem_of_getElem? (i := 20) rfl))) (Or.inr (hw _ (List.mem_of_getElem? (i := 18) rfl))) (by decide) (t := .long) (t' := .long) (by decide) (by decide)))
  have zz17 : n0 ≤ h15.size := Nat.le_trans zz12 (Keep.of_wr W15).1
  have kp18 : Keep h0 h15 [a0] := kp13.wr W15 (Or.inl (List.mem_of_getElem? (i := 0) rfl))
  have pre19 : Go p.tables e below S0 T15 (mkF m 53 #[vR a0, vJ q1, .second, vJ q2, .second, vJ q3, .second] [(.long q3), (.ref a0)]) := fun t k => pre15 t (by
    refine XS.aloadN X15.here hx rfl (hb hby d1_50) rfl rfl ?_
    show Steps p.tables e below (T15.setTop (mkF m 51 #[vR a0, vJ q1, .second, vJ q2, .second, vJ q3, .second] [(.ref a0)])) _
    refine XS.lload X15.here hx rfl (hb hby d1_51) rfl ?_
    show Steps p.tables e below (T15.setTop (mkF m 53 #[vR a0, vJ q1, .second, vJ q2, .second, vJ q3, .second] [(.long q3), (.ref a0)])) _
    exact k)
  obtain ⟨T20, h20, X20, e20, W20, st20⟩ := putF X15 hx hZ hown (host := "") (Or.inl (hw _ (List.mem_of_getElem? (i := 19) rfl))) Via.refl e15 f16_3 f16_1 (Or.inr ⟨(hw _ (List.mem_of_getElem? (i := 20) rfl)), rfl, hnm⟩) (hw _ (List.mem_of_getElem? (i := 2) rfl)) (ty := .long) (by decide) rfl rfl (g := (mkF m 53 #[vR a0, vJ q1, .second, vJ q2, .second, vJ q3, .second] [(.long q3), (.ref a0)])) rfl rfl (hb hby d1_53)
  have pre20 : Go p.tables e below S0 T20 (mkF m 56 #[vR a0, vJ q1, .second, vJ q2, .second, vJ q3, .second] []) := fun t k => pre19 t (st20 t k)
  have N20 := Fr.snoc X20 N15 g0
  have fw20 : Fld Z h20 a0 "com/example/scalecast/scalecast/SchedulerCosts" "allocationUs" "J" (.long q3) := Fld.same W20 f16_3
  have f21_1 := Exa.wr W20 f16_1
  have f21_2 := Fld.other W20 f16_2 (Or.inr (slot_ne (Or.inr (hw _ (List.mem_of_getElem? (i := 16) rfl))) (Or.inr (hw _ (List.mem_of_getElem? (i := 20) rfl))) (by decide) (t := .long) (t' := .long) (by decide) (by decide)))
  have f21_3 := Fld.other W20 fw15 (Or.inr (slot_ne (Or.inr (hw _ (List.mem_of_getElem? (i := 18) rfl))) (Or.inr (hw _ (List.mem_of_getElem? (i := 20) rfl))) (by decide) (t := .long) (t' := .long) (by decide) (by decide)))
  have zz22 : n0 ≤ h20.size := Nat.le_trans zz17 (Keep.of_wr W20).1
  have kp23 : Keep h0 h20 [a0] := kp18.wr W20 (Or.inl (List.mem_of_getElem? (i := 0) rfl))
  obtain ⟨fs, hr, hrun, hended, hW, hsame⟩ := X20.leave (v := none) (fun _ => rfl)
  exact ⟨_, _, pre20.fin hS0 (X20.returnOut hx Bd.returns (hb hby d1_56) hr), hrun, hended, _, _, rfl, (by
    show Q1 Z a0 q1 q2 q3 h0 n0 _ T20.heap _
    rw [e20]
    exact ⟨rfl, N20, kp23, f21_1, f21_2, f21_3, fw20⟩), ⟨_, rfl⟩, hW, hsame.mono (by decide) (by decide)⟩
def own_abs (q0 : Int64) : Int64 := if q0 < (0 : Int64) then ((-q0)) else (q0)
theorem ef_8 (m : MethodId) (x0 : Int64) : entryFrame m #[(.long x0)] 2 = mkF m 0 #[.val (.long x0), .second] [] := by first | (simp [entryFrame, mkF, argsToLocals, Value.category]; done) | rfl
theorem d8_0 : decode jdk_29_method_61_code 0 = .ok (.lload_n 0, 1) := by decide +kernel
theorem d8_1 : decode jdk_29_method_61_code 1 = .ok (.lconst 0, 1) := by decide +kernel
theorem d8_2 : decode jdk_29_method_61_code 2 = .ok (.lcmp, 1) := by decide +kernel
theorem d8_3 : decode jdk_29_method_61_code 3 = .ok (.ifCond .ge 8, 3) := by decide +kernel
theorem d8_6 : decode jdk_29_method_61_code 6 = .ok (.lload_n 0, 1) := by decide +kernel
theorem d8_7 : decode jdk_29_method_61_code 7 = .ok (.lneg, 1) := by decide +kernel
theorem d8_8 : decode jdk_29_method_61_code 8 = .ok (.goto 4, 3) := by decide +kernel
theorem d8_11 : decode jdk_29_method_61_code 11 = .ok (.lload_n 0, 1) := by decide +kernel
theorem d8_12 : decode jdk_29_method_61_code 12 = .ok (.lreturn, 1) := by decide +kernel
def Q8 (Z : State) (q0 : Int64) (h0 : Heap) (n0 : Nat) (v : Option Value) (h : Heap) (L : List Loc) : Prop := v = some (.long (own_abs q0)) ∧ Fr n0 L ∧ h = h0
set_option maxRecDepth 65536 in
set_option maxHeartbeats 40000000 in
theorem rm8 (l : Launch) (Z : State) (A0 : Array Value) (hw : ∀ d ∈ tables_1, d.before A0 Z = true) (ws : List Jvm.Cond) (q0 : Int64)  (h0 : Heap) (n0 : Nat) (Z0 : n0 ≤ h0.size)  :
    MetFree l (⟨"java/lang/Math", "abs", "(J)J"⟩ : MethodName) (head1 (Jvm.Cond.code (⟨"java/lang/Math", "abs", "(J)J"⟩ : MethodName) jdk_29_method_61_code 2 (some .long) :: ws) ({ frames := 0, cells := 0, slots := 0, locals := 0 } : Room)) (fun a U => a = #[(.long q0)] ∧ Z.Warmed39 U.vm ∧ U.heap = h0) (fun _ _ _ _ _ => True) (fun _ U o U' => ∃ v L, o = .returned v ∧ Q8 Z q0 h0 n0 v U'.heap L ∧ FrameEnd U o U' L ({ frames := 0, cells := 0, slots := 0, locals := 0 } : Room).cells ({ frames := 0, cells := 0, slots := 0, locals := 0 } : Room).slots) := by
  refine MetFree.of_bodySF (Jvm.Free.JP.mathPlain rfl (by decide +kernel)) hisR ?_
  intro p e s m args below meth c s₁ Bd hml0 hP hK
  obtain ⟨rfl, hZ, hh⟩ := hP
  have hx := Bd.exec
  have hby := Bd.bytes
  have hml : c.maxLocals = 2 := hml0
  have hown : s.vm.findClass "java/lang/Math" = some m.cls := findClass_of_methodNamed Bd.named
  have hnm := (name_of_methodNamed Bd.named Bd.method).1
  have X0 : Stand p l e ({ frames := 0, cells := 0, slots := 0, locals := 0 } : Room) s m #[(.long q0)] below meth c s₁ [] 0 0 := Stand.of_body Bd
  have e0 : s₁.heap = h0 := by rw [← hh, Bd.state]; rfl
  have N0 := Fr.nil n0
  obtain ⟨S0, hS0⟩ : ∃ z, z = s₁.setTop (entryFrame m #[(.long q0)] 2) := ⟨_, rfl⟩
  have pre0 : Go p.tables e below S0 s₁ (mkF m 0 #[vJ q0, .second] []) := fun t k => by rw [hS0]; exact castTop (ef_8 m q0) k
  have pre1 : Go p.tables e below S0 s₁ (mkF m 3 #[vJ q0, .second] [(.int (lcmpW q0 (0 : Int64)))]) := fun t k => pre0 t (by
    refine XS.lloadN X0.here hx rfl (hb hby d8_0) rfl ?_
    show Steps p.tables e below (s₁.setTop (mkF m 1 #[vJ q0, .second] [(.long q0)])) _
    refine XS.lconst X0.here hx rfl (hb hby d8_1) ?_
    show Steps p.tables e below (s₁.setTop (mkF m 2 #[vJ q0, .second] [(.long (0 : Int64)), (.long q0)])) _
    refine XS.lcmp X0.here hx rfl (hb hby d8_2) rfl ?_
    show Steps p.tables e below (s₁.setTop (mkF m 3 #[vJ q0, .second] [(.int (lcmpW q0 (0 : Int64)))])) _
    exact k)
  by_cases c3_2 : q0 < (0 : Int64)
  · skip
    have pre3 : Go p.tables e below S0 s₁ (mkF m 12 #[vJ q0, .second] [(.long (-q0))]) := fun t k => pre1 t (by
      refine XS.ifNo X0.here hx rfl (hb hby d8_3) rfl ((if0 _ _).trans (tlt ((lw_lt _ _).mpr c3_2)).2.1) ?_
      show Steps p.tables e below (s₁.setTop (mkF m 6 #[vJ q0, .second] [])) _
      refine XS.lloadN X0.here hx rfl (hb hby d8_6) rfl ?_
      show Steps p.tables e below (s₁.setTop (mkF m 7 #[vJ q0, .second] [(.long q0)])) _
      refine XS.lneg X0.here hx rfl (hb hby d8_7) rfl ?_
      show Steps p.tables e below (s₁.setTop (mkF m 8 #[vJ q0, .second] [(.long (-q0))])) _
      refine XS.goto X0.here hx rfl (pc0 := 8) (pc' := 12) rfl (hb hby d8_8) (by decide) (by decide) ?_
      show Steps p.tables e below (s₁.setTop (mkF m 12 #[vJ q0, .second] [(.long (-q0))])) _
      exact k)
    obtain ⟨fs, hr, hrun, hended, hW, hsame⟩ := X0.leave (v := some (.long (-q0))) (fun h => by rw [Bd.returns] at h; cases h)
    exact ⟨_, _, pre3.fin hS0 (retJ X0 hx Bd.returns (hb hby d8_12) hr), hrun, hended, _, _, rfl, (by
      show Q8 Z q0 h0 n0 _ s₁.heap _
      rw [e0]
      exact ⟨congrArg (fun z => some (Value.long z)) (by simp [own_abs, c3_2]), N0, rfl⟩), ⟨_, rfl⟩, hW, hsame.mono (by decide) (by decide)⟩
  · skip
    have pre4 : Go p.tables e below S0 s₁ (mkF m 12 #[vJ q0, .second] [(.long q0)]) := fun t k => pre1 t (by
      refine XS.ifYes X0.here hx rfl (pc0 := 3) (pc' := 11) rfl (hb hby d8_3) rfl ((if0 _ _).trans (flt (fun q => c3_2 ((lw_lt _ _).mp q))).2.1) (by decide) (by decide) ?_
      show Steps p.tables e below (s₁.setTop (mkF m 11 #[vJ q0, .second] [])) _
      refine XS.lloadN X0.here hx rfl (hb hby d8_11) rfl ?_
      show Steps p.tables e below (s₁.setTop (mkF m 12 #[vJ q0, .second] [(.long q0)])) _
      exact k)
    obtain ⟨fs, hr, hrun, hended, hW, hsame⟩ := X0.leave (v := some (.long q0)) (fun h => by rw [Bd.returns] at h; cases h)
    exact ⟨_, _, pre4.fin hS0 (retJ X0 hx Bd.returns (hb hby d8_12) hr), hrun, hended, _, _, rfl, (by
      show Q8 Z q0 h0 n0 _ s₁.heap _
      rw [e0]
      exact ⟨congrArg (fun z => some (Value.long z)) (by simp [own_abs, c3_2]), N0, rfl⟩), ⟨_, rfl⟩, hW, hsame.mono (by decide) (by decide)⟩
def own_mul (x y : Int64) : Int64 := x * y
def own_muli (x : Int64) (y : Int32) : Int64 := x * y.toInt64
def own_sum (x y : Int64) : Int64 := x + y
theorem ef_7 (m : MethodId) (x0 : Int64) (x1 : Int64) : entryFrame m #[(.long x0), (.long x1)] 10 = mkF m 0 #[.val (.long x0), .second, .val (.long x1), .second, .unset, .unset, .unset, .unset, .unset, .unset] [] := by first | (simp [entryFrame, mkF, argsToLocals, Value.category]; done) | rfl
theorem pd_1 : parseMethodDescriptor "(J)J" = some ⟨[.long], some .long⟩ := by decide +kernel
theorem d7_0 : decode jdk_29_method_30_code 0 = .ok (.lload_n 0, 1) := by decide +kernel
theorem d7_1 : decode jdk_29_method_30_code 1 = .ok (.lload_n 2, 1) := by decide +kernel
theorem d7_2 : decode jdk_29_method_30_code 2 = .ok (.lmul, 1) := by decide +kernel
theorem d7_3 : decode jdk_29_method_30_code 3 = .ok (.lstore 4, 2) := by decide +kernel
theorem d7_5 : decode jdk_29_method_30_code 5 = .ok (.lload_n 0, 1) := by decide +kernel
theorem d7_6 : decode jdk_29_method_30_code 6 = .ok (.invokestatic 122, 3) := by decide +kernel
theorem d7_9 : decode jdk_29_method_30_code 9 = .ok (.lstore 6, 2) := by decide +kernel
theorem d7_11 : decode jdk_29_method_30_code 11 = .ok (.lload_n 2, 1) := by decide +kernel
theorem d7_12 : decode jdk_29_method_30_code 12 = .ok (.invokestatic 122, 3) := by decide +kernel
theorem d7_15 : decode jdk_29_method_30_code 15 = .ok (.lstore 8, 2) := by decide +kernel
theorem d7_17 : decode jdk_29_method_30_code 17 = .ok (.lload 6, 2) := by decide +kernel
theorem d7_19 : decode jdk_29_method_30_code 19 = .ok (.lload 8, 2) := by decide +kernel
theorem d7_21 : decode jdk_29_method_30_code 21 = .ok (.lor, 1) := by decide +kernel
theorem d7_22 : decode jdk_29_method_30_code 22 = .ok (.bipush 31, 2) := by decide +kernel
theorem d7_24 : decode jdk_29_method_30_code 24 = .ok (.lushr, 1) := by decide +kernel
theorem d7_25 : decode jdk_29_method_30_code 25 = .ok (.lconst 0, 1) := by decide +kernel
theorem d7_26 : decode jdk_29_method_30_code 26 = .ok (.lcmp, 1) := by decide +kernel
theorem d7_27 : decode jdk_29_method_30_code 27 = .ok (.ifCond .eq 44, 3) := by decide +kernel
theorem d7_30 : decode jdk_29_method_30_code 30 = .ok (.lload_n 2, 1) := by decide +kernel
theorem d7_31 : decode jdk_29_method_30_code 31 = .ok (.lconst 0, 1) := by decide +kernel
theorem d7_32 : decode jdk_29_method_30_code 32 = .ok (.lcmp, 1) := by decide +kernel
theorem d7_33 : decode jdk_29_method_30_code 33 = .ok (.ifCond .eq 12, 3) := by decide +kernel
theorem d7_36 : decode jdk_29_method_30_code 36 = .ok (.lload 4, 2) := by decide +kernel
theorem d7_38 : decode jdk_29_method_30_code 38 = .ok (.lload_n 2, 1) := by decide +kernel
theorem d7_39 : decode jdk_29_method_30_code 39 = .ok (.ldiv, 1) := by decide +kernel
theorem d7_40 : decode jdk_29_method_30_code 40 = .ok (.lload_n 0, 1) := by decide +kernel
theorem d7_41 : decode jdk_29_method_30_code 41 = .ok (.lcmp, 1) := by decide +kernel
theorem d7_42 : decode jdk_29_method_30_code 42 = .ok (.ifCond .ne 19, 3) := by decide +kernel
theorem d7_45 : decode jdk_29_method_30_code 45 = .ok (.lload_n 0, 1) := by decide +kernel
theorem d7_46 : decode jdk_29_method_30_code 46 = .ok (.ldc2_w 128, 3) := by decide +kernel
theorem d7_49 : decode jdk_29_method_30_code 49 = .ok (.lcmp, 1) := by decide +kernel
theorem d7_50 : decode jdk_29_method_30_code 50 = .ok (.ifCond .ne 21, 3) := by decide +kernel
theorem d7_71 : decode jdk_29_method_30_code 71 = .ok (.lload 4, 2) := by decide +kernel
theorem d7_73 : decode jdk_29_method_30_code 73 = .ok (.lreturn, 1) := by decide +kernel
def Q7 (Z : State) (q0 : Int64) (q1 : Int64) (h0 : Heap) (n0 : Nat) (v : Option Value) (h : Heap) (L : List Loc) : Prop := v = some (.long (own_mul q0 q1)) ∧ Fr n0 L ∧ h = h0
set_option maxRecDepth 65536 in
set_option maxHeartbeats 40000000 in
theorem rm7 (l : Launch) (Z : State) (A0 : Array Value) (hw : ∀ d ∈ tables_1, d.before A0 Z = true) (ws : List Jvm.Cond) (q0 : Int64) (q1 : Int64)  (h0 : Heap) (n0 : Nat) (Z0 : n0 ≤ h0.size) (hd : ¬ (q1 = (0 : Int64)) → (q0 * q1) / q1 = q0) (hm : ¬ (q0 = (-9223372036854775808 : Int64))) :
    MetFree l (⟨"java/lang/Math", "multiplyExact", "(JJ)J"⟩ : MethodName) (head1 (Jvm.Cond.code (⟨"java/lang/Math", "multiplyExact", "(JJ)J"⟩ : MethodName) jdk_29_method_30_code 10 (some .long) :: ws) ({ frames := 1, cells := 0, slots := 0, locals := 15 } : Room)) (fun a U => a = #[(.long q0), (.long q1)] ∧ Z.Warmed39 U.vm ∧ U.heap = h0) (fun _ _ _ _ _ => True) (fun _ U o U' => ∃ v L, o = .returned v ∧ Q7 Z q0 q1 h0 n0 v U'.heap L ∧ FrameEnd U o U' L ({ frames := 1, cells := 0, slots := 0, locals := 15 } : Room).cells ({ frames := 1, cells := 0, slots := 0, locals := 15 } : Room).slots) := by
  refine MetFree.of_bodySF (Jvm.Free.JP.mathPlain rfl (by decide +kernel)) hisR ?_
  intro p e s m args below meth c s₁ Bd hml0 hP hK
  obtain ⟨rfl, hZ, hh⟩ := hP
  have hx := Bd.exec
  have hby := Bd.bytes
  have hml : c.maxLocals = 10 := hml0
  have hown : s.vm.findClass "java/lang/Math" = some m.cls := findClass_of_methodNamed Bd.named
  have hnm := (name_of_methodNamed Bd.named Bd.method).1
  have X0 : Stand p l e ({ frames := 1, cells := 0, slots := 0, locals := 15 } : Room) s m #[(.long q0), (.long q1)] below meth c s₁ [] 0 0 := Stand.of_body Bd
  have e0 : s₁.heap = h0 := by rw [← hh, Bd.state]; rfl
  have N0 := Fr.nil n0
  obtain ⟨S0, hS0⟩ : ∃ z, z = s₁.setTop (entryFrame m #[(.long q0), (.long q1)] 10) := ⟨_, rfl⟩
  have pre0 : Go p.tables e below S0 s₁ (mkF m 0 #[vJ q0, .second, vJ q1, .second, .unset, .unset, .unset, .unset, .unset, .unset] []) := fun t k => by rw [hS0]; exact castTop (ef_7 m q0 q1) k
  have pre1 : Go p.tables e below S0 s₁ (mkF m 6 #[vJ q0, .second, vJ q1, .second, vJ (q0 * q1), .second, .unset, .unset, .unset, .unset] [(.long q0)]) := fun t k => pre0 t (by
    refine XS.lloadN X0.here hx rfl (hb hby d7_0) rfl ?_
    show Steps p.tables e below (s₁.setTop (mkF m 1 #[vJ q0, .second, vJ q1, .second, .unset, .unset, .unset, .unset, .unset, .unset] [(.long q0)])) _
    refine XS.lloadN X0.here hx rfl (hb hby d7_1) rfl ?_
    show Steps p.tables e below (s₁.setTop (mkF m 2 #[vJ q0, .second, vJ q1, .second, .unset, .unset, .unset, .unset, .unset, .unset] [(.long q1), (.long q0)])) _
    refine XS.lmul X0.here hx rfl (hb hby d7_2) rfl ?_
    show Steps p.tables e below (s₁.setTop (mkF m 3 #[vJ q0, .second, vJ q1, .second, .unset, .unset, .unset, .unset, .unset, .unset] [(.long (q0 * q1))])) _
    refine XS.lstore X0.here hx rfl (hb hby d7_3) rfl (l' := #[vJ q0, .second, vJ q1, .second, vJ (q0 * q1), .second, .unset, .unset, .unset, .unset]) rfl ?_
    show Steps p.tables e below (s₁.setTop (mkF m 5 #[vJ q0, .second, vJ q1, .second, vJ (q0 * q1), .second, .unset, .unset, .unset, .unset] [])) _
    refine XS.lloadN X0.here hx rfl (hb hby d7_5) rfl ?_
    show Steps p.tables e below (s₁.setTop (mkF m 6 #[vJ q0, .second, vJ q1, .second, vJ (q0 * q1), .second, .unset, .unset, .unset, .unset] [(.long q0)])) _
    exact k)
  obtain ⟨_, _, ⟨T2, L2, k2, n2⟩, -, X2, ⟨Lc2, hQ2, l2, y2, z2⟩, st2⟩ := Jvm.LawKit.callS X0 hx (y := (⟨"java/lang/Math", "abs", "(J)J"⟩ : MethodName)) hown (mvT hZ (hw _ (List.mem_of_getElem? (i := 38) rfl))) (mvT hZ (hw _ (List.mem_of_getElem? (i := 39) rfl))) (mvT hZ (hw _ (List.mem_of_getElem? (i := 33) rfl))) (mvT hZ (hw _ (List.mem_of_getElem? (i := 40) rfl))) (by decide) (backOf (W := 0) (rm8 l Z A0 hw [] q0 h0 n0 Z0) hZ (hw _ (List.mem_of_getElem? (i := 40) rfl)) (hw _ (List.mem_of_getElem? (i := 33) rfl)) (by decide) (by decide)) (g := (mkF m 6 #[vJ q0, .second, vJ q1, .second, vJ (q0 * q1), .second, .unset, .unset, .unset, .unset] [(.long q0)])) rfl (by rw [hml]; rfl) (argsL := [(.long q0)]) (rest := []) (lenOf pd_1 rfl) rfl (by show 2 * 0 + _ ≤ _; exact Nat.le_of_eq rfl) (hb hby d7_6) (fun _ _ => ⟨rfl, e0, (by decide : 0 + 0 ≤ _), (by decide : 0 + 0 ≤ _)⟩)
  dsimp only [Pt.U, Pt.locs, Pt.cells, Pt.slots] at X2 l2 y2 z2 st2 hQ2
  subst l2 y2 z2
  obtain ⟨rfl, Nq2, eq2⟩ := hQ2
  have N2 := Fr.app N0 Nq2
  have pre2 : Go p.tables e below S0 T2 (mkF m 9 #[vJ q0, .second, vJ q1, .second, vJ (q0 * q1), .second, .unset, .unset, .unset, .unset] [(.long (own_abs q0))]) := fun t k => pre1 t (st2 t k)
  have pre3 : Go p.tables e below S0 T2 (mkF m 12 #[vJ q0, .second, vJ q1, .second, vJ (q0 * q1), .second, vJ (own_abs q0), .second, .unset, .unset] [(.long q1)]) := fun t k => pre2 t (by
    refine XS.lstore X2.here hx rfl (hb hby d7_9) rfl (l' := #[vJ q0, .second, vJ q1, .second, vJ (q0 * q1), .second, vJ (own_abs q0), .second, .unset, .unset]) rfl ?_
    show Steps p.tables e below (T2.setTop (mkF m 11 #[vJ q0, .second, vJ q1, .second, vJ (q0 * q1), .second, vJ (own_abs q0), .second, .unset, .unset] [])) _
    refine XS.lloadN X2.here hx rfl (hb hby d7_11) rfl ?_
    show Steps p.tables e below (T2.setTop (mkF m 12 #[vJ q0, .second, vJ q1, .second, vJ (q0 * q1), .second, vJ (own_abs q0), .second, .unset, .unset] [(.long q1)])) _
    exact k)
  obtain ⟨_, _, ⟨T4, L4, k4, n4⟩, -, X4, ⟨Lc4, hQ4, l4, y4, z4⟩, st4⟩ := Jvm.LawKit.callS X2 hx (y := (⟨"java/lang/Math", "abs", "(J)J"⟩ : MethodName)) hown (mvT hZ (hw _ (List.mem_of_getElem? (i := 38) rfl))) (mvT hZ (hw _ (List.mem_of_getElem? (i := 39) rfl))) (mvT hZ (hw _ (List.mem_of_getElem? (i := 33) rfl))) (mvT hZ (hw _ (List.mem_of_getElem? (i := 40) rfl))) (by decide) (backOf (W := 0) (rm8 l Z A0 hw [] q1 h0 n0 Z0) hZ (hw _ (List.mem_of_getElem? (i := 40) rfl)) (hw _ (List.mem_of_getElem? (i := 33) rfl)) (by decide) (by decide)) (g := (mkF m 12 #[vJ q0, .second, vJ q1, .second, vJ (q0 * q1), .second, vJ (own_abs q0), .second, .unset, .unset] [(.long q1)])) rfl (by rw [hml]; rfl) (argsL := [(.long q1)]) (rest := []) (lenOf pd_1 rfl) rfl (by show 2 * 0 + _ ≤ _; exact Nat.le_of_eq rfl) (hb hby d7_12) (fun _ _ => ⟨rfl, eq2, (by decide : 0 + 0 ≤ _), (by decide : 0 + 0 ≤ _)⟩)
  dsimp only [Pt.U, Pt.locs, Pt.cells, Pt.slots] at X4 l4 y4 z4 st4 hQ4
  subst l4 y4 z4
  obtain ⟨rfl, Nq4, eq4⟩ := hQ4
  have N4 := Fr.app N2 Nq4
  have pre4 : Go p.tables e below S0 T4 (mkF m 15 #[vJ q0, .second, vJ q1, .second, vJ (q0 * q1), .second, vJ (own_abs q0), .second, .unset, .unset] [(.long (own_abs q1))]) := fun t k => pre3 t (st4 t k)
  have pre5 : Go p.tables e below S0 T4 (mkF m 27 #[vJ q0, .second, vJ q1, .second, vJ (q0 * q1), .second, vJ (own_abs q0), .second, vJ (own_abs q1), .second] [(.int (lcmpW ((((own_abs q0) ||| (own_abs q1)).toUInt64 >>> ((31 : Int32) &&& 0x3f).toInt64.toUInt64).toInt64) (0 : Int64)))]) := fun t k => pre4 t (by
    refine XS.lstore X4.here hx rfl (hb hby d7_15) rfl (l' := #[vJ q0, .second, vJ q1, .second, vJ (q0 * q1), .second, vJ (own_abs q0), .second, vJ (own_abs q1), .second]) rfl ?_
    show Steps p.tables e below (T4.setTop (mkF m 17 #[vJ q0, .second, vJ q1, .second, vJ (q0 * q1), .second, vJ (own_abs q0), .second, vJ (own_abs q1), .second] [])) _
    refine XS.lload X4.here hx rfl (hb hby d7_17) rfl ?_
    show Steps p.tables e below (T4.setTop (mkF m 19 #[vJ q0, .second, vJ q1, .second, vJ (q0 * q1), .second, vJ (own_abs q0), .second, vJ (own_abs q1), .second] [(.long (own_abs q0))])) _
    refine XS.lload X4.here hx rfl (hb hby d7_19) rfl ?_
    show Steps p.tables e below (T4.setTop (mkF m 21 #[vJ q0, .second, vJ q1, .second, vJ (q0 * q1), .second, vJ (own_abs q0), .second, vJ (own_abs q1), .second] [(.long (own_abs q1)), (.long (own_abs q0))])) _
    refine XS.lor X4.here hx rfl (hb hby d7_21) rfl ?_
    show Steps p.tables e below (T4.setTop (mkF m 22 #[vJ q0, .second, vJ q1, .second, vJ (q0 * q1), .second, vJ (own_abs q0), .second, vJ (own_abs q1), .second] [(.long ((own_abs q0) ||| (own_abs q1)))])) _
    refine XS.bipush X4.here hx rfl (hb hby d7_22) ?_
    show Steps p.tables e below (T4.setTop (mkF m 24 #[vJ q0, .second, vJ q1, .second, vJ (q0 * q1), .second, vJ (own_abs q0), .second, vJ (own_abs q1), .second] [(.int (31 : Int32)), (.long ((own_abs q0) ||| (own_abs q1)))])) _
    refine XS.lushr X4.here hx rfl (hb hby d7_24) rfl ?_
    show Steps p.tables e below (T4.setTop (mkF m 25 #[vJ q0, .second, vJ q1, .second, vJ (q0 * q1), .second, vJ (own_abs q0), .second, vJ (own_abs q1), .second] [(.long ((((own_abs q0) ||| (own_abs q1)).toUInt64 >>> ((31 : Int32) &&& 0x3f).toInt64.toUInt64).toInt64))])) _
    refine XS.lconst X4.here hx rfl (hb hby d7_25) ?_
    show Steps p.tables e below (T4.setTop (mkF m 26 #[vJ q0, .second, vJ q1, .second, vJ (q0 * q1), .second, vJ (own_abs q0), .second, vJ (own_abs q1), .second] [(.long (0 : Int64)), (.long ((((own_abs q0) ||| (own_abs q1)).toUInt64 >>> ((31 : Int32) &&& 0x3f).toInt64.toUInt64).toInt64))])) _
    refine XS.lcmp X4.here hx rfl (hb hby d7_26) rfl ?_
    show Steps p.tables e below (T4.setTop (mkF m 27 #[vJ q0, .second, vJ q1, .second, vJ (q0 * q1), .second, vJ (own_abs q0), .second, vJ (own_abs q1), .second] [(.int (lcmpW ((((own_abs q0) ||| (own_abs q1)).toUInt64 >>> ((31 : Int32) &&& 0x3f).toInt64.toUInt64).toInt64) (0 : Int64)))])) _
    exact k)
  refine cps (A := (Go p.tables e below S0 T4 (mkF m 71 #[vJ q0, .second, vJ q1, .second, vJ (q0 * q1), .second, vJ (own_abs q0), .second, vJ (own_abs q1), .second] []))) (fun tail23 => ?_) ?_
  · skip
    by_cases c27_6 : ((((own_abs q0) ||| (own_abs q1)).toUInt64 >>> ((31 : Int32) &&& 0x3f).toInt64.toUInt64).toInt64) = (0 : Int64)
    · skip
      have pre7 : Go p.tables e below S0 T4 (mkF m 71 #[vJ q0, .second, vJ q1, .second, vJ (q0 * q1), .second, vJ (own_abs q0), .second, vJ (own_abs q1), .second] []) := fun t k => pre5 t (by
        refine XS.ifYes X4.here hx rfl (pc0 := 27) (pc' := 71) rfl (hb hby d7_27) rfl ((if0 _ _).trans (teq ((lw_eq _ _).mpr c27_6)).1) (by decide) (by decide) ?_
        show Steps p.tables e below (T4.setTop (mkF m 71 #[vJ q0, .second, vJ q1, .second, vJ (q0 * q1), .second, vJ (own_abs q0), .second, vJ (own_abs q1), .second] [])) _
        exact k)
      exact tail23 pre7
    · skip
      have pre8 : Go p.tables e below S0 T4 (mkF m 33 #[vJ q0, .second, vJ q1, .second, vJ (q0 * q1), .second, vJ (own_abs q0), .second, vJ (own_abs q1), .second] [(.int (lcmpW q1 (0 : Int64)))]) := fun t k => pre5 t (by
        refine XS.ifNo X4.here hx rfl (hb hby d7_27) rfl ((if0 _ _).trans (feq (fun q => c27_6 ((lw_eq _ _).mp q))).1) ?_
        show Steps p.tables e below (T4.setTop (mkF m 30 #[vJ q0, .second, vJ q1, .second, vJ (q0 * q1), .second, vJ (own_abs q0), .second, vJ (own_abs q1), .second] [])) _
        refine XS.lloadN X4.here hx rfl (hb hby d7_30) rfl ?_
        show Steps p.tables e below (T4.setTop (mkF m 31 #[vJ q0, .second, vJ q1, .second, vJ (q0 * q1), .second, vJ (own_abs q0), .second, vJ (own_abs q1), .second] [(.long q1)])) _
        refine XS.lconst X4.here hx rfl (hb hby d7_31) ?_
        show Steps p.tables e below (T4.setTop (mkF m 32 #[vJ q0, .second, vJ q1, .second, vJ (q0 * q1), .second, vJ (own_abs q0), .second, vJ (own_abs q1), .second] [(.long (0 : Int64)), (.long q1)])) _
        refine XS.lcmp X4.here hx rfl (hb hby d7_32) rfl ?_
        show Steps p.tables e below (T4.setTop (mkF m 33 #[vJ q0, .second, vJ q1, .second, vJ (q0 * q1), .second, vJ (own_abs q0), .second, vJ (own_abs q1), .second] [(.int (lcmpW q1 (0 : Int64)))])) _
        exact k)
      refine cps (A := (((q1 = (0 : Int64))) ∨ ((¬ (q1 = (0 : Int64))))) ∧ (Go p.tables e below S0 T4 (mkF m 45 #[vJ q0, .second, vJ q1, .second, vJ (q0 * q1), .second, vJ (own_abs q0), .second, vJ (own_abs q1), .second] []))) (fun tail18 => ?_) ?_
      · skip
        by_cases c33_9 : q1 = (0 : Int64)
        · skip
          have pre10 : Go p.tables e below S0 T4 (mkF m 45 #[vJ q0, .second, vJ q1, .second, vJ (q0 * q1), .second, vJ (own_abs q0), .second, vJ (own_abs q1), .second] []) := fun t k => pre8 t (by
            refine XS.ifYes X4.here hx rfl (pc0 := 33) (pc' := 45) rfl (hb hby d7_33) rfl ((if0 _ _).trans (teq ((lw_eq _ _).mpr c33_9)).1) (by decide) (by decide) ?_
            show Steps p.tables e below (T4.setTop (mkF m 45 #[vJ q0, .second, vJ q1, .second, vJ (q0 * q1), .second, vJ (own_abs q0), .second, vJ (own_abs q1), .second] [])) _
            exact k)
          exact tail18 ⟨(Or.inl c33_9), pre10⟩
        · skip
          have pre11 : Go p.tables e below S0 T4 (mkF m 39 #[vJ q0, .second, vJ q1, .second, vJ (q0 * q1), .second, vJ (own_abs q0), .second, vJ (own_abs q1), .second] [(.long q1), (.long (q0 * q1))]) := fun t k => pre8 t (by
            refine XS.ifNo X4.here hx rfl (hb hby d7_33) rfl ((if0 _ _).trans (feq (fun q => c33_9 ((lw_eq _ _).mp q))).1) ?_
            show Steps p.tables e below (T4.setTop (mkF m 36 #[vJ q0, .second, vJ q1, .second, vJ (q0 * q1), .second, vJ (own_abs q0), .second, vJ (own_abs q1), .second] [])) _
            refine XS.lload X4.here hx rfl (hb hby d7_36) rfl ?_
            show Steps p.tables e below (T4.setTop (mkF m 38 #[vJ q0, .second, vJ q1, .second, vJ (q0 * q1), .second, vJ (own_abs q0), .second, vJ (own_abs q1), .second] [(.long (q0 * q1))])) _
            refine XS.lloadN X4.here hx rfl (hb hby d7_38) rfl ?_
            show Steps p.tables e below (T4.setTop (mkF m 39 #[vJ q0, .second, vJ q1, .second, vJ (q0 * q1), .second, vJ (own_abs q0), .second, vJ (own_abs q1), .second] [(.long q1), (.long (q0 * q1))])) _
            exact k)
          have nz12 : q1 ≠ 0 := c33_9
          have pre13 : Go p.tables e below S0 T4 (mkF m 42 #[vJ q0, .second, vJ q1, .second, vJ (q0 * q1), .second, vJ (own_abs q0), .second, vJ (own_abs q1), .second] [(.int (lcmpW ((q0 * q1) / q1) q0))]) := fun t k => pre11 t (by
            refine XS.ldiv X4.here hx rfl (hb hby d7_39) rfl nz12 ?_
            show Steps p.tables e below (T4.setTop (mkF m 40 #[vJ q0, .second, vJ q1, .second, vJ (q0 * q1), .second, vJ (own_abs q0), .second, vJ (own_abs q1), .second] [(.long ((q0 * q1) / q1))])) _
            refine XS.lloadN X4.here hx rfl (hb hby d7_40) rfl ?_
            show Steps p.tables e below (T4.setTop (mkF m 41 #[vJ q0, .second, vJ q1, .second, vJ (q0 * q1), .second, vJ (own_abs q0), .second, vJ (own_abs q1), .second] [(.long q0), (.long ((q0 * q1) / q1))])) _
            refine XS.lcmp X4.here hx rfl (hb hby d7_41) rfl ?_
            show Steps p.tables e below (T4.setTop (mkF m 42 #[vJ q0, .second, vJ q1, .second, vJ (q0 * q1), .second, vJ (own_abs q0), .second, vJ (own_abs q1), .second] [(.int (lcmpW ((q0 * q1) / q1) q0))])) _
            exact k)
          have cc14 : ((q0 * q1) / q1) = q0 := hd c33_9
          have pre15 : Go p.tables e below S0 T4 (mkF m 45 #[vJ q0, .second, vJ q1, .second, vJ (q0 * q1), .second, vJ (own_abs q0), .second, vJ (own_abs q1), .second] []) := fun t k => pre13 t (by
            refine XS.ifNo X4.here hx rfl (hb hby d7_42) rfl ((if0 _ _).trans (teq ((lw_eq _ _).mpr cc14)).2) ?_
            show Steps p.tables e below (T4.setTop (mkF m 45 #[vJ q0, .second, vJ q1, .second, vJ (q0 * q1), .second, vJ (own_abs q0), .second, vJ (own_abs q1), .second] [])) _
            exact k)
          exact tail18 ⟨(Or.inr c33_9), pre15⟩
      rintro ⟨hj45_16, pre17⟩
      have pre19 : Go p.tables e below S0 T4 (mkF m 50 #[vJ q0, .second, vJ q1, .second, vJ (q0 * q1), .second, vJ (own_abs q0), .second, vJ (own_abs q1), .second] [(.int (lcmpW q0 (-9223372036854775808 : Int64)))]) := fun t k => pre17 t (by
        refine XS.lloadN X4.here hx rfl (hb hby d7_45) rfl ?_
        show Steps p.tables e below (T4.setTop (mkF m 46 #[vJ q0, .second, vJ q1, .second, vJ (q0 * q1), .second, vJ (own_abs q0), .second, vJ (own_abs q1), .second] [(.long q0)])) _
        refine X4.ldc2Long hx hown (mvT hZ (hw _ (List.mem_of_getElem? (i := 41) rfl))) (g := (mkF m 46 #[vJ q0, .second, vJ q1, .second, vJ (q0 * q1), .second, vJ (own_abs q0), .second, vJ (own_abs q1), .second] [(.long q0)])) rfl (hb hby d7_46) _ ?_
        show Steps p.tables e below (T4.setTop (mkF m 49 #[vJ q0, .second, vJ q1, .second, vJ (q0 * q1), .second, vJ (own_abs q0), .second, vJ (own_abs q1), .second] [(.long (-9223372036854775808 : Int64)), (.long q0)])) _
        refine XS.lcmp X4.here hx rfl (hb hby d7_49) rfl ?_
        show Steps p.tables e below (T4.setTop (mkF m 50 #[vJ q0, .second, vJ q1, .second, vJ (q0 * q1), .second, vJ (own_abs q0), .second, vJ (own_abs q1), .second] [(.int (lcmpW q0 (-9223372036854775808 : Int64)))])) _
        exact k)
      have cc20 : ¬ (q0 = (-9223372036854775808 : Int64)) := hm
      have pre21 : Go p.tables e below S0 T4 (mkF m 71 #[vJ q0, .second, vJ q1, .second, vJ (q0 * q1), .second, vJ (own_abs q0), .second, vJ (own_abs q1), .second] []) := fun t k => pre19 t (by
        refine XS.ifYes X4.here hx rfl (pc0 := 50) (pc' := 71) rfl (hb hby d7_50) rfl ((if0 _ _).trans (feq (fun q => cc20 ((lw_eq _ _).mp q))).2) (by decide) (by decide) ?_
        show Steps p.tables e below (T4.setTop (mkF m 71 #[vJ q0, .second, vJ q1, .second, vJ (q0 * q1), .second, vJ (own_abs q0), .second, vJ (own_abs q1), .second] [])) _
        exact k)
      exact tail23 pre21
  rintro pre22
  have pre24 : Go p.tables e below S0 T4 (mkF m 73 #[vJ q0, .second, vJ q1, .second, vJ (q0 * q1), .second, vJ (own_abs q0), .second, vJ (own_abs q1), .second] [(.long (q0 * q1))]) := fun t k => pre22 t (by
    refine XS.lload X4.here hx rfl (hb hby d7_71) rfl ?_
    show Steps p.tables e below (T4.setTop (mkF m 73 #[vJ q0, .second, vJ q1, .second, vJ (q0 * q1), .second, vJ (own_abs q0), .second, vJ (own_abs q1), .second] [(.long (q0 * q1))])) _
    exact k)
  obtain ⟨fs, hr, hrun, hended, hW, hsame⟩ := X4.leave (v := some (.long (q0 * q1))) (fun h => by rw [Bd.returns] at h; cases h)
  exact ⟨_, _, pre24.fin hS0 (retJ X4 hx Bd.returns (hb hby d7_73) hr), hrun, hended, _, _, rfl, (by
    show Q7 Z q0 q1 h0 n0 _ T4.heap _
    rw [eq4]
    exact ⟨rfl, N4, rfl⟩), ⟨_, rfl⟩, hW, hsame.mono (by decide) (by decide)⟩
theorem ef_6 (m : MethodId) (x0 : Int64) (x1 : Int32) : entryFrame m #[(.long x0), (.int x1)] 3 = mkF m 0 #[.val (.long x0), .second, .val (.int x1)] [] := by first | (simp [entryFrame, mkF, argsToLocals, Value.category]; done) | rfl
theorem pd_2 : parseMethodDescriptor "(JJ)J" = some ⟨[.long, .long], some .long⟩ := by decide +kernel
theorem d6_0 : decode jdk_29_method_29_code 0 = .ok (.lload_n 0, 1) := by decide +kernel
theorem d6_1 : decode jdk_29_method_29_code 1 = .ok (.iload_n 2, 1) := by decide +kernel
theorem d6_2 : decode jdk_29_method_29_code 2 = .ok (.i2l, 1) := by decide +kernel
theorem d6_3 : decode jdk_29_method_29_code 3 = .ok (.invokestatic 118, 3) := by decide +kernel
theorem d6_6 : decode jdk_29_method_29_code 6 = .ok (.lreturn, 1) := by decide +kernel
def Q6 (Z : State) (q0 : Int64) (p1 : Int32) (h0 : Heap) (n0 : Nat) (v : Option Value) (h : Heap) (L : List Loc) : Prop := v = some (.long (own_muli q0 p1)) ∧ Fr n0 L ∧ h = h0
set_option maxRecDepth 65536 in
set_option maxHeartbeats 40000000 in
theorem rm6 (l : Launch) (Z : State) (A0 : Array Value) (hw : ∀ d ∈ tables_1, d.before A0 Z = true) (ws : List Jvm.Cond) (q0 : Int64) (p1 : Int32)  (h0 : Heap) (n0 : Nat) (Z0 : n0 ≤ h0.size) (hd : ¬ (p1.toInt64 = (0 : Int64)) → (q0 * p1.toInt64) / p1.toInt64 = q0) (hm : ¬ (q0 = (-9223372036854775808 : Int64))) :
    MetFree l (⟨"java/lang/Math", "multiplyExact", "(JI)J"⟩ : MethodName) (head1 (Jvm.Cond.code (⟨"java/lang/Math", "multiplyExact", "(JI)J"⟩ : MethodName) jdk_29_method_29_code 3 (some .long) :: ws) ({ frames := 2, cells := 0, slots := 0, locals := 36 } : Room)) (fun a U => a = #[(.long q0), (.int p1)] ∧ Z.Warmed39 U.vm ∧ U.heap = h0) (fun _ _ _ _ _ => True) (fun _ U o U' => ∃ v L, o = .returned v ∧ Q6 Z q0 p1 h0 n0 v U'.heap L ∧ FrameEnd U o U' L ({ frames := 2, cells := 0, slots := 0, locals := 36 } : Room).cells ({ frames := 2, cells := 0, slots := 0, locals := 36 } : Room).slots) := by
  refine MetFree.of_bodySF (Jvm.Free.JP.mathPlain rfl (by decide +kernel)) hisR ?_
  intro p e s m args below meth c s₁ Bd hml0 hP hK
  obtain ⟨rfl, hZ, hh⟩ := hP
  have hx := Bd.exec
  have hby := Bd.bytes
  have hml : c.maxLocals = 3 := hml0
  have hown : s.vm.findClass "java/lang/Math" = some m.cls := findClass_of_methodNamed Bd.named
  have hnm := (name_of_methodNamed Bd.named Bd.method).1
  have X0 : Stand p l e ({ frames := 2, cells := 0, slots := 0, locals := 36 } : Room) s m #[(.long q0), (.int p1)] below meth c s₁ [] 0 0 := Stand.of_body Bd
  have e0 : s₁.heap = h0 := by rw [← hh, Bd.state]; rfl
  have N0 := Fr.nil n0
  obtain ⟨S0, hS0⟩ : ∃ z, z = s₁.setTop (entryFrame m #[(.long q0), (.int p1)] 3) := ⟨_, rfl⟩
  have pre0 : Go p.tables e below S0 s₁ (mkF m 0 #[vJ q0, .second, vI p1] []) := fun t k => by rw [hS0]; exact castTop (ef_6 m q0 p1) k
  have pre1 : Go p.tables e below S0 s₁ (mkF m 3 #[vJ q0, .second, vI p1] [(.long (p1.toInt64)), (.long q0)]) := fun t k => pre0 t (by
    refine XS.lloadN X0.here hx rfl (hb hby d6_0) rfl ?_
    show Steps p.tables e below (s₁.setTop (mkF m 1 #[vJ q0, .second, vI p1] [(.long q0)])) _
    refine XS.iloadN X0.here hx rfl (hb hby d6_1) rfl ?_
    show Steps p.tables e below (s₁.setTop (mkF m 2 #[vJ q0, .second, vI p1] [(.int p1), (.long q0)])) _
    refine XS.i2l X0.here hx rfl (hb hby d6_2) rfl ?_
    show Steps p.tables e below (s₁.setTop (mkF m 3 #[vJ q0, .second, vI p1] [(.long (p1.toInt64)), (.long q0)])) _
    exact k)
  obtain ⟨_, _, ⟨T2, L2, k2, n2⟩, -, X2, ⟨Lc2, hQ2, l2, y2, z2⟩, st2⟩ := Jvm.LawKit.callS X0 hx (y := (⟨"java/lang/Math", "multiplyExact", "(JJ)J"⟩ : MethodName)) hown (mvT hZ (hw _ (List.mem_of_getElem? (i := 35) rfl))) (mvT hZ (hw _ (List.mem_of_getElem? (i := 36) rfl))) (mvT hZ (hw _ (List.mem_of_getElem? (i := 33) rfl))) (mvT hZ (hw _ (List.mem_of_getElem? (i := 37) rfl))) (by decide) (backOf (W := 0) (rm7 l Z A0 hw [] q0 (p1.toInt64) h0 n0 Z0 hd hm) hZ (hw _ (List.mem_of_getElem? (i := 37) rfl)) (hw _ (List.mem_of_getElem? (i := 33) rfl)) (by decide) (by decide)) (g := (mkF m 3 #[vJ q0, .second, vI p1] [(.long (p1.toInt64)), (.long q0)])) rfl (by rw [hml]; rfl) (argsL := [(.long q0), (.long (p1.toInt64))]) (rest := []) (lenOf pd_2 rfl) rfl (by show 2 * 0 + _ ≤ _; exact Nat.le_of_eq rfl) (hb hby d6_3) (fun _ _ => ⟨rfl, e0, (by decide : 0 + 0 ≤ _), (by decide : 0 + 0 ≤ _)⟩)
  dsimp only [Pt.U, Pt.locs, Pt.cells, Pt.slots] at X2 l2 y2 z2 st2 hQ2
  subst l2 y2 z2
  obtain ⟨rfl, Nq2, eq2⟩ := hQ2
  have N2 := Fr.app N0 Nq2
  have pre2 : Go p.tables e below S0 T2 (mkF m 6 #[vJ q0, .second, vI p1] [(.long (own_mul q0 (p1.toInt64)))]) := fun t k => pre1 t (st2 t k)
  obtain ⟨fs, hr, hrun, hended, hW, hsame⟩ := X2.leave (v := some (.long (own_mul q0 (p1.toInt64)))) (fun h => by rw [Bd.returns] at h; cases h)
  exact ⟨_, _, pre2.fin hS0 (retJ X2 hx Bd.returns (hb hby d6_6) hr), hrun, hended, _, _, rfl, (by
    show Q6 Z q0 p1 h0 n0 _ T2.heap _
    rw [eq2]
    exact ⟨rfl, N2, rfl⟩), ⟨_, rfl⟩, hW, hsame.mono (by decide) (by decide)⟩
theorem ef_9 (m : MethodId) (x0 : Int64) (x1 : Int64) : entryFrame m #[(.long x0), (.long x1)] 6 = mkF m 0 #[.val (.long x0), .second, .val (.long x1), .second, .unset, .unset] [] := by first | (simp [entryFrame, mkF, argsToLocals, Value.category]; done) | rfl
theorem d9_0 : decode jdk_29_method_25_code 0 = .ok (.lload_n 0, 1) := by decide +kernel
theorem d9_1 : decode jdk_29_method_25_code 1 = .ok (.lload_n 2, 1) := by decide +kernel
theorem d9_2 : decode jdk_29_method_25_code 2 = .ok (.ladd, 1) := by decide +kernel
theorem d9_3 : decode jdk_29_method_25_code 3 = .ok (.lstore 4, 2) := by decide +kernel
theorem d9_5 : decode jdk_29_method_25_code 5 = .ok (.lload_n 0, 1) := by decide +kernel
theorem d9_6 : decode jdk_29_method_25_code 6 = .ok (.lload 4, 2) := by decide +kernel
theorem d9_8 : decode jdk_29_method_25_code 8 = .ok (.lxor, 1) := by decide +kernel
theorem d9_9 : decode jdk_29_method_25_code 9 = .ok (.lload_n 2, 1) := by decide +kernel
theorem d9_10 : decode jdk_29_method_25_code 10 = .ok (.lload 4, 2) := by decide +kernel
theorem d9_12 : decode jdk_29_method_25_code 12 = .ok (.lxor, 1) := by decide +kernel
theorem d9_13 : decode jdk_29_method_25_code 13 = .ok (.land, 1) := by decide +kernel
theorem d9_14 : decode jdk_29_method_25_code 14 = .ok (.lconst 0, 1) := by decide +kernel
theorem d9_15 : decode jdk_29_method_25_code 15 = .ok (.lcmp, 1) := by decide +kernel
theorem d9_16 : decode jdk_29_method_25_code 16 = .ok (.ifCond .ge 13, 3) := by decide +kernel
theorem d9_29 : decode jdk_29_method_25_code 29 = .ok (.lload 4, 2) := by decide +kernel
theorem d9_31 : decode jdk_29_method_25_code 31 = .ok (.lreturn, 1) := by decide +kernel
def Q9 (Z : State) (q0 : Int64) (q1 : Int64) (h0 : Heap) (n0 : Nat) (v : Option Value) (h : Heap) (L : List Loc) : Prop := v = some (.long (own_sum q0 q1)) ∧ Fr n0 L ∧ h = h0
set_option maxRecDepth 65536 in
set_option maxHeartbeats 40000000 in
theorem rm9 (l : Launch) (Z : State) (A0 : Array Value) (hw : ∀ d ∈ tables_1, d.before A0 Z = true) (ws : List Jvm.Cond) (q0 : Int64) (q1 : Int64)  (h0 : Heap) (n0 : Nat) (Z0 : n0 ≤ h0.size) (ha : ¬ (((q0 ^^^ (q0 + q1)) &&& (q1 ^^^ (q0 + q1))) < (0 : Int64))) :
    MetFree l (⟨"java/lang/Math", "addExact", "(JJ)J"⟩ : MethodName) (head1 (Jvm.Cond.code (⟨"java/lang/Math", "addExact", "(JJ)J"⟩ : MethodName) jdk_29_method_25_code 6 (some .long) :: ws) ({ frames := 0, cells := 0, slots := 0, locals := 0 } : Room)) (fun a U => a = #[(.long q0), (.long q1)] ∧ Z.Warmed39 U.vm ∧ U.heap = h0) (fun _ _ _ _ _ => True) (fun _ U o U' => ∃ v L, o = .returned v ∧ Q9 Z q0 q1 h0 n0 v U'.heap L ∧ FrameEnd U o U' L ({ frames := 0, cells := 0, slots := 0, locals := 0 } : Room).cells ({ frames := 0, cells := 0, slots := 0, locals := 0 } : Room).slots) := by
  refine MetFree.of_bodySF (Jvm.Free.JP.mathPlain rfl (by decide +kernel)) hisR ?_
  intro p e s m args below meth c s₁ Bd hml0 hP hK
  obtain ⟨rfl, hZ, hh⟩ := hP
  have hx := Bd.exec
  have hby := Bd.bytes
  have hml : c.maxLocals = 6 := hml0
  have hown : s.vm.findClass "java/lang/Math" = some m.cls := findClass_of_methodNamed Bd.named
  have hnm := (name_of_methodNamed Bd.named Bd.method).1
  have X0 : Stand p l e ({ frames := 0, cells := 0, slots := 0, locals := 0 } : Room) s m #[(.long q0), (.long q1)] below meth c s₁ [] 0 0 := Stand.of_body Bd
  have e0 : s₁.heap = h0 := by rw [← hh, Bd.state]; rfl
  have N0 := Fr.nil n0
  obtain ⟨S0, hS0⟩ : ∃ z, z = s₁.setTop (entryFrame m #[(.long q0), (.long q1)] 6) := ⟨_, rfl⟩
  have pre0 : Go p.tables e below S0 s₁ (mkF m 0 #[vJ q0, .second, vJ q1, .second, .unset, .unset] []) := fun t k => by rw [hS0]; exact castTop (ef_9 m q0 q1) k
  have pre1 : Go p.tables e below S0 s₁ (mkF m 16 #[vJ q0, .second, vJ q1, .second, vJ (q0 + q1), .second] [(.int (lcmpW ((q0 ^^^ (q0 + q1)) &&& (q1 ^^^ (q0 + q1))) (0 : Int64)))]) := fun t k => pre0 t (by
    refine XS.lloadN X0.here hx rfl (hb hby d9_0) rfl ?_
    show Steps p.tables e below (s₁.setTop (mkF m 1 #[vJ q0, .second, vJ q1, .second, .unset, .unset] [(.long q0)])) _
    refine XS.lloadN X0.here hx rfl (hb hby d9_1) rfl ?_
    show Steps p.tables e below (s₁.setTop (mkF m 2 #[vJ q0, .second, vJ q1, .second, .unset, .unset] [(.long q1), (.long q0)])) _
    refine XS.ladd X0.here hx rfl (hb hby d9_2) rfl ?_
    show Steps p.tables e below (s₁.setTop (mkF m 3 #[vJ q0, .second, vJ q1, .second, .unset, .unset] [(.long (q0 + q1))])) _
    refine XS.lstore X0.here hx rfl (hb hby d9_3) rfl (l' := #[vJ q0, .second, vJ q1, .second, vJ (q0 + q1), .second]) rfl ?_
    show Steps p.tables e below (s₁.setTop (mkF m 5 #[vJ q0, .second, vJ q1, .second, vJ (q0 + q1), .second] [])) _
    refine XS.lloadN X0.here hx rfl (hb hby d9_5) rfl ?_
    show Steps p.tables e below (s₁.setTop (mkF m 6 #[vJ q0, .second, vJ q1, .second, vJ (q0 + q1), .second] [(.long q0)])) _
    refine XS.lload X0.here hx rfl (hb hby d9_6) rfl ?_
    show Steps p.tables e below (s₁.setTop (mkF m 8 #[vJ q0, .second, vJ q1, .second, vJ (q0 + q1), .second] [(.long (q0 + q1)), (.long q0)])) _
    refine XS.lxor X0.here hx rfl (hb hby d9_8) rfl ?_
    show Steps p.tables e below (s₁.setTop (mkF m 9 #[vJ q0, .second, vJ q1, .second, vJ (q0 + q1), .second] [(.long (q0 ^^^ (q0 + q1)))])) _
    refine XS.lloadN X0.here hx rfl (hb hby d9_9) rfl ?_
    show Steps p.tables e below (s₁.setTop (mkF m 10 #[vJ q0, .second, vJ q1, .second, vJ (q0 + q1), .second] [(.long q1), (.long (q0 ^^^ (q0 + q1)))])) _
    refine XS.lload X0.here hx rfl (hb hby d9_10) rfl ?_
    show Steps p.tables e below (s₁.setTop (mkF m 12 #[vJ q0, .second, vJ q1, .second, vJ (q0 + q1), .second] [(.long (q0 + q1)), (.long q1), (.long (q0 ^^^ (q0 + q1)))])) _
    refine XS.lxor X0.here hx rfl (hb hby d9_12) rfl ?_
    show Steps p.tables e below (s₁.setTop (mkF m 13 #[vJ q0, .second, vJ q1, .second, vJ (q0 + q1), .second] [(.long (q1 ^^^ (q0 + q1))), (.long (q0 ^^^ (q0 + q1)))])) _
    refine XS.land X0.here hx rfl (hb hby d9_13) rfl ?_
    show Steps p.tables e below (s₁.setTop (mkF m 14 #[vJ q0, .second, vJ q1, .second, vJ (q0 + q1), .second] [(.long ((q0 ^^^ (q0 + q1)) &&& (q1 ^^^ (q0 + q1))))])) _
    refine XS.lconst X0.here hx rfl (hb hby d9_14) ?_
    show Steps p.tables e below (s₁.setTop (mkF m 15 #[vJ q0, .second, vJ q1, .second, vJ (q0 + q1), .second] [(.long (0 : Int64)), (.long ((q0 ^^^ (q0 + q1)) &&& (q1 ^^^ (q0 + q1))))])) _
    refine XS.lcmp X0.here hx rfl (hb hby d9_15) rfl ?_
    show Steps p.tables e below (s₁.setTop (mkF m 16 #[vJ q0, .second, vJ q1, .second, vJ (q0 + q1), .second] [(.int (lcmpW ((q0 ^^^ (q0 + q1)) &&& (q1 ^^^ (q0 + q1))) (0 : Int64)))])) _
    exact k)
  have cc2 : ¬ (((q0 ^^^ (q0 + q1)) &&& (q1 ^^^ (q0 + q1))) < (0 : Int64)) := ha
  have pre3 : Go p.tables e below S0 s₁ (mkF m 31 #[vJ q0, .second, vJ q1, .second, vJ (q0 + q1), .second] [(.long (q0 + q1))]) := fun t k => pre1 t (by
    refine XS.ifYes X0.here hx rfl (pc0 := 16) (pc' := 29) rfl (hb hby d9_16) rfl ((if0 _ _).trans (flt (fun q => cc2 ((lw_lt _ _).mp q))).2.1) (by decide) (by decide) ?_
    show Steps p.tables e below (s₁.setTop (mkF m 29 #[vJ q0, .second, vJ q1, .second, vJ (q0 + q1), .second] [])) _
    refine XS.lload X0.here hx rfl (hb hby d9_29) rfl ?_
    show Steps p.tables e below (s₁.setTop (mkF m 31 #[vJ q0, .second, vJ q1, .second, vJ (q0 + q1), .second] [(.long (q0 + q1))])) _
    exact k)
  obtain ⟨fs, hr, hrun, hended, hW, hsame⟩ := X0.leave (v := some (.long (q0 + q1))) (fun h => by rw [Bd.returns] at h; cases h)
  exact ⟨_, _, pre3.fin hS0 (retJ X0 hx Bd.returns (hb hby d9_31) hr), hrun, hended, _, _, rfl, (by
    show Q9 Z q0 q1 h0 n0 _ s₁.heap _
    rw [e0]
    exact ⟨rfl, N0, rfl⟩), ⟨_, rfl⟩, hW, hsame.mono (by decide) (by decide)⟩
def own_pass (h v a : Int64) (x y : Int32) : Int64 := own_sum h (own_sum (own_muli v x) (own_muli a y))
theorem ef_5 (m : MethodId) (x0 : Addr) (x1 : Int32) (x2 : Int32) : entryFrame m #[(.ref x0), (.int x1), (.int x2)] 3 = mkF m 0 #[.val (.ref x0), .val (.int x1), .val (.int x2)] [] := by first | (simp [entryFrame, mkF, argsToLocals, Value.category]; done) | rfl
theorem pd_3 : parseMethodDescriptor "(JI)J" = some ⟨[.long, .int], some .long⟩ := by decide +kernel
theorem d5_0 : decode prog_33_method_2_code 0 = .ok (.aload_n 0, 1) := by decide +kernel
theorem d5_1 : decode prog_33_method_2_code 1 = .ok (.getfield 16, 3) := by decide +kernel
theorem d5_4 : decode prog_33_method_2_code 4 = .ok (.aload_n 0, 1) := by decide +kernel
theorem d5_5 : decode prog_33_method_2_code 5 = .ok (.getfield 22, 3) := by decide +kernel
theorem d5_8 : decode prog_33_method_2_code 8 = .ok (.iload_n 1, 1) := by decide +kernel
theorem d5_9 : decode prog_33_method_2_code 9 = .ok (.invokestatic 28, 3) := by decide +kernel
theorem d5_12 : decode prog_33_method_2_code 12 = .ok (.aload_n 0, 1) := by decide +kernel
theorem d5_13 : decode prog_33_method_2_code 13 = .ok (.getfield 25, 3) := by decide +kernel
theorem d5_16 : decode prog_33_method_2_code 16 = .ok (.iload_n 2, 1) := by decide +kernel
theorem d5_17 : decode prog_33_method_2_code 17 = .ok (.invokestatic 28, 3) := by decide +kernel
theorem d5_20 : decode prog_33_method_2_code 20 = .ok (.invokestatic 34, 3) := by decide +kernel
theorem d5_23 : decode prog_33_method_2_code 23 = .ok (.invokestatic 34, 3) := by decide +kernel
theorem d5_26 : decode prog_33_method_2_code 26 = .ok (.lreturn, 1) := by decide +kernel
def Q5 (Z : State) (a0 : Addr) (p1 : Int32) (p2 : Int32) (w_heartbeatUs : Int64) (w_visitUs : Int64) (w_allocationUs : Int64) (h0 : Heap) (n0 : Nat) (v : Option Value) (h : Heap) (L : List Loc) : Prop := v = some (.long (own_pass w_heartbeatUs w_visitUs w_allocationUs p1 p2)) ∧ Fr n0 L ∧ h = h0
set_option maxRecDepth 65536 in
set_option maxHeartbeats 40000000 in
theorem rm5 (l : Launch) (Z : State) (A0 : Array Value) (hw : ∀ d ∈ tables_1, d.before A0 Z = true) (ws : List Jvm.Cond) (a0 : Addr) (p1 : Int32) (p2 : Int32) (w_heartbeatUs : Int64) (w_visitUs : Int64) (w_allocationUs : Int64) (h0 : Heap) (n0 : Nat) (Z0 : n0 ≤ h0.size) (F_heartbeatUs : Fld Z h0 a0 "com/example/scalecast/scalecast/SchedulerCosts" "heartbeatUs" "J" (.long w_heartbeatUs)) (F_visitUs : Fld Z h0 a0 "com/example/scalecast/scalecast/SchedulerCosts" "visitUs" "J" (.long w_visitUs)) (F_allocationUs : Fld Z h0 a0 "com/example/scalecast/scalecast/SchedulerCosts" "allocationUs" "J" (.long w_allocationUs)) (hd1 : ¬ (p1.toInt64 = (0 : Int64)) → (w_visitUs * p1.toInt64) / p1.toInt64 = w_visitUs) (hm1 : ¬ (w_visitUs = (-9223372036854775808 : Int64))) (hd2 : ¬ (p2.toInt64 = (0 : Int64)) → (w_allocationUs * p2.toInt64) / p2.toInt64 = w_allocationUs) (hm2 : ¬ (w_allocationUs = (-9223372036854775808 : Int64))) (ha1 : ¬ (((own_muli w_visitUs p1 ^^^ (own_muli w_visitUs p1 + own_muli w_allocationUs p2)) &&& (own_muli w_allocationUs p2 ^^^ (own_muli w_visitUs p1 + own_muli w_allocationUs p2))) < (0 : Int64))) (ha2 : ¬ (((w_heartbeatUs ^^^ (w_heartbeatUs + own_sum (own_muli w_visitUs p1) (own_muli w_allocationUs p2))) &&& (own_sum (own_muli w_visitUs p1) (own_muli w_allocationUs p2) ^^^ (w_heartbeatUs + own_sum (own_muli w_visitUs p1) (own_muli w_allocationUs p2)))) < (0 : Int64))) :
    MetFree l (⟨"com/example/scalecast/scalecast/SchedulerCosts", "passUs", "(II)J"⟩ : MethodName) (head1 (Jvm.Cond.code (⟨"com/example/scalecast/scalecast/SchedulerCosts", "passUs", "(II)J"⟩ : MethodName) prog_33_method_2_code 3 (some .long) :: ws) ({ frames := 3, cells := 0, slots := 0, locals := 56 } : Room)) (fun a U => a = #[(.ref a0), (.int p1), (.int p2)] ∧ Z.Warmed39 U.vm ∧ U.heap = h0) (fun _ _ _ _ _ => True) (fun _ U o U' => ∃ v L, o = .returned v ∧ Q5 Z a0 p1 p2 w_heartbeatUs w_visitUs w_allocationUs h0 n0 v U'.heap L ∧ FrameEnd U o U' L ({ frames := 3, cells := 0, slots := 0, locals := 56 } : Room).cells ({ frames := 3, cells := 0, slots := 0, locals := 56 } : Room).slots) := by
  refine MetFree.of_bodySF (plainFor_of_name pn_1) hisR ?_
  intro p e s m args below meth c s₁ Bd hml0 hP hK
  obtain ⟨rfl, hZ, hh⟩ := hP
  have hx := Bd.exec
  have hby := Bd.bytes
  have hml : c.maxLocals = 3 := hml0
  have hown : s.vm.findClass "com/example/scalecast/scalecast/SchedulerCosts" = some m.cls := findClass_of_methodNamed Bd.named
  have hnm := (name_of_methodNamed Bd.named Bd.method).1
  have X0 : Stand p l e ({ frames := 3, cells := 0, slots := 0, locals := 56 } : Room) s m #[(.ref a0), (.int p1), (.int p2)] below meth c s₁ [] 0 0 := Stand.of_body Bd
  have e0 : s₁.heap = h0 := by rw [← hh, Bd.state]; rfl
  have N0 := Fr.nil n0
  obtain ⟨S0, hS0⟩ : ∃ z, z = s₁.setTop (entryFrame m #[(.ref a0), (.int p1), (.int p2)] 3) := ⟨_, rfl⟩
  have pre0 : Go p.tables e below S0 s₁ (mkF m 0 #[vR a0, vI p1, vI p2] []) := fun t k => by rw [hS0]; exact castTop (ef_5 m a0 p1 p2) k
  have pre1 : Go p.tables e below S0 s₁ (mkF m 1 #[vR a0, vI p1, vI p2] [(.ref a0)]) := fun t k => pre0 t (by
    refine XS.aloadN X0.here hx rfl (hb hby d5_0) rfl rfl ?_
    show Steps p.tables e below (s₁.setTop (mkF m 1 #[vR a0, vI p1, vI p2] [(.ref a0)])) _
    exact k)
  obtain ⟨T2, X2, e2, st2⟩ := getF X0 hx hZ hown (host := "") (Or.inl (hw _ (List.mem_of_getElem? (i := 15) rfl))) Via.refl e0 F_heartbeatUs (g := (mkF m 1 #[vR a0, vI p1, vI p2] [(.ref a0)])) rfl rfl (hb hby d5_1)
  have pre2 : Go p.tables e below S0 T2 (mkF m 4 #[vR a0, vI p1, vI p2] [(.long w_heartbeatUs)]) := fun t k => pre1 t (st2 t k)
  have pre3 : Go p.tables e below S0 T2 (mkF m 5 #[vR a0, vI p1, vI p2] [(.ref a0), (.long w_heartbeatUs)]) := fun t k => pre2 t (by
    refine XS.aloadN X2.here hx rfl (hb hby d5_4) rfl rfl ?_
    show Steps p.tables e below (T2.setTop (mkF m 5 #[vR a0, vI p1, vI p2] [(.ref a0), (.long w_heartbeatUs)])) _
    exact k)
  obtain ⟨T4, X4, e4, st4⟩ := getF X2 hx hZ hown (host := "") (Or.inl (hw _ (List.mem_of_getElem? (i := 17) rfl))) Via.refl e2 F_visitUs (g := (mkF m 5 #[vR a0, vI p1, vI p2] [(.ref a0), (.long w_heartbeatUs)])) rfl rfl (hb hby d5_5)
  have pre4 : Go p.tables e below S0 T4 (mkF m 8 #[vR a0, vI p1, vI p2] [(.long w_visitUs), (.long w_heartbeatUs)]) := fun t k => pre3 t (st4 t k)
  have pre5 : Go p.tables e below S0 T4 (mkF m 9 #[vR a0, vI p1, vI p2] [(.int p1), (.long w_visitUs), (.long w_heartbeatUs)]) := fun t k => pre4 t (by
    refine XS.iloadN X4.here hx rfl (hb hby d5_8) rfl ?_
    show Steps p.tables e below (T4.setTop (mkF m 9 #[vR a0, vI p1, vI p2] [(.int p1), (.long w_visitUs), (.long w_heartbeatUs)])) _
    exact k)
  obtain ⟨_, _, ⟨T6, L6, k6, n6⟩, -, X6, ⟨Lc6, hQ6, l6, y6, z6⟩, st6⟩ := Jvm.LawKit.callS X4 hx (y := (⟨"java/lang/Math", "multiplyExact", "(JI)J"⟩ : MethodName)) hown (mvT hZ (hw _ (List.mem_of_getElem? (i := 31) rfl))) (mvT hZ (hw _ (List.mem_of_getElem? (i := 32) rfl))) (mvT hZ (hw _ (List.mem_of_getElem? (i := 33) rfl))) (mvT hZ (hw _ (List.mem_of_getElem? (i := 34) rfl))) (by decide) (backOf (W := 2) (rm6 l Z A0 hw [] w_visitUs p1 h0 n0 Z0 hd1 hm1) hZ (hw _ (List.mem_of_getElem? (i := 34) rfl)) (hw _ (List.mem_of_getElem? (i := 33) rfl)) (by decide) (by decide)) (g := (mkF m 9 #[vR a0, vI p1, vI p2] [(.int p1), (.long w_visitUs), (.long w_heartbeatUs)])) rfl (by rw [hml]; rfl) (argsL := [(.long w_visitUs), (.int p1)]) (rest := [(.long w_heartbeatUs)]) (lenOf pd_3 rfl) rfl (by show 2 * 0 + _ ≤ _; exact Nat.le_of_eq rfl) (hb hby d5_9) (fun _ _ => ⟨rfl, e4, (by decide : 0 + 0 ≤ _), (by decide : 0 + 0 ≤ _)⟩)
  dsimp only [Pt.U, Pt.locs, Pt.cells, Pt.slots] at X6 l6 y6 z6 st6 hQ6
  subst l6 y6 z6
  obtain ⟨rfl, Nq6, eq6⟩ := hQ6
  have N6 := Fr.app N0 Nq6
  have pre6 : Go p.tables e below S0 T6 (mkF m 12 #[vR a0, vI p1, vI p2] [(.long (own_muli w_visitUs p1)), (.long w_heartbeatUs)]) := fun t k => pre5 t (st6 t k)
  have pre7 : Go p.tables e below S0 T6 (mkF m 13 #[vR a0, vI p1, vI p2] [(.ref a0), (.long (own_muli w_visitUs p1)), (.long w_heartbeatUs)]) := fun t k => pre6 t (by
    refine XS.aloadN X6.here hx rfl (hb hby d5_12) rfl rfl ?_
    show Steps p.tables e below (T6.setTop (mkF m 13 #[vR a0, vI p1, vI p2] [(.ref a0), (.long (own_muli w_visitUs p1)), (.long w_heartbeatUs)])) _
    exact k)
  obtain ⟨T8, X8, e8, st8⟩ := getF X6 hx hZ hown (host := "") (Or.inl (hw _ (List.mem_of_getElem? (i := 19) rfl))) Via.refl eq6 F_allocationUs (g := (mkF m 13 #[vR a0, vI p1, vI p2] [(.ref a0), (.long (own_muli w_visitUs p1)), (.long w_heartbeatUs)])) rfl rfl (hb hby d5_13)
  have pre8 : Go p.tables e below S0 T8 (mkF m 16 #[vR a0, vI p1, vI p2] [(.long w_allocationUs), (.long (own_muli w_visitUs p1)), (.long w_heartbeatUs)]) := fun t k => pre7 t (st8 t k)
  have pre9 : Go p.tables e below S0 T8 (mkF m 17 #[vR a0, vI p1, vI p2] [(.int p2), (.long w_allocationUs), (.long (own_muli w_visitUs p1)), (.long w_heartbeatUs)]) := fun t k => pre8 t (by
    refine XS.iloadN X8.here hx rfl (hb hby d5_16) rfl ?_
    show Steps p.tables e below (T8.setTop (mkF m 17 #[vR a0, vI p1, vI p2] [(.int p2), (.long w_allocationUs), (.long (own_muli w_visitUs p1)), (.long w_heartbeatUs)])) _
    exact k)
  obtain ⟨_, _, ⟨T10, L10, k10, n10⟩, -, X10, ⟨Lc10, hQ10, l10, y10, z10⟩, st10⟩ := Jvm.LawKit.callS X8 hx (y := (⟨"java/lang/Math", "multiplyExact", "(JI)J"⟩ : MethodName)) hown (mvT hZ (hw _ (List.mem_of_getElem? (i := 31) rfl))) (mvT hZ (hw _ (List.mem_of_getElem? (i := 32) rfl))) (mvT hZ (hw _ (List.mem_of_getElem? (i := 33) rfl))) (mvT hZ (hw _ (List.mem_of_getElem? (i := 34) rfl))) (by decide) (backOf (W := 4) (rm6 l Z A0 hw [] w_allocationUs p2 h0 n0 Z0 hd2 hm2) hZ (hw _ (List.mem_of_getElem? (i := 34) rfl)) (hw _ (List.mem_of_getElem? (i := 33) rfl)) (by decide) (by decide)) (g := (mkF m 17 #[vR a0, vI p1, vI p2] [(.int p2), (.long w_allocationUs), (.long (own_muli w_visitUs p1)), (.long w_heartbeatUs)])) rfl (by rw [hml]; rfl) (argsL := [(.long w_allocationUs), (.int p2)]) (rest := [(.long (own_muli w_visitUs p1)), (.long w_heartbeatUs)]) (lenOf pd_3 rfl) rfl (by show 2 * 0 + _ ≤ _; exact Nat.le_of_eq rfl) (hb hby d5_17) (fun _ _ => ⟨rfl, e8, (by decide : 0 + 0 ≤ _), (by decide : 0 + 0 ≤ _)⟩)
  dsimp only [Pt.U, Pt.locs, Pt.cells, Pt.slots] at X10 l10 y10 z10 st10 hQ10
  subst l10 y10 z10
  obtain ⟨rfl, Nq10, eq10⟩ := hQ10
  have N10 := Fr.app N6 Nq10
  have pre10 : Go p.tables e below S0 T10 (mkF m 20 #[vR a0, vI p1, vI p2] [(.long (own_muli w_allocationUs p2)), (.long (own_muli w_visitUs p1)), (.long w_heartbeatUs)]) := fun t k => pre9 t (st10 t k)
  obtain ⟨_, _, ⟨T11, L11, k11, n11⟩, -, X11, ⟨Lc11, hQ11, l11, y11, z11⟩, st11⟩ := Jvm.LawKit.callS X10 hx (y := (⟨"java/lang/Math", "addExact", "(JJ)J"⟩ : MethodName)) hown (mvT hZ (hw _ (List.mem_of_getElem? (i := 42) rfl))) (mvT hZ (hw _ (List.mem_of_getElem? (i := 43) rfl))) (mvT hZ (hw _ (List.mem_of_getElem? (i := 33) rfl))) (mvT hZ (hw _ (List.mem_of_getElem? (i := 44) rfl))) (by decide) (backOf (W := 2) (rm9 l Z A0 hw [] (own_muli w_visitUs p1) (own_muli w_allocationUs p2) h0 n0 Z0 ha1) hZ (hw _ (List.mem_of_getElem? (i := 44) rfl)) (hw _ (List.mem_of_getElem? (i := 33) rfl)) (by decide) (by decide)) (g := (mkF m 20 #[vR a0, vI p1, vI p2] [(.long (own_muli w_allocationUs p2)), (.long (own_muli w_visitUs p1)), (.long w_heartbeatUs)])) rfl (by rw [hml]; rfl) (argsL := [(.long (own_muli w_visitUs p1)), (.long (own_muli w_allocationUs p2))]) (rest := [(.long w_heartbeatUs)]) (lenOf pd_2 rfl) rfl (by show 2 * 0 + _ ≤ _; exact Nat.le_of_eq rfl) (hb hby d5_20) (fun _ _ => ⟨rfl, eq10, (by decide : 0 + 0 ≤ _), (by decide : 0 + 0 ≤ _)⟩)
  dsimp only [Pt.U, Pt.locs, Pt.cells, Pt.slots] at X11 l11 y11 z11 st11 hQ11
  subst l11 y11 z11
  obtain ⟨rfl, Nq11, eq11⟩ := hQ11
  have N11 := Fr.app N10 Nq11
  have pre11 : Go p.tables e below S0 T11 (mkF m 23 #[vR a0, vI p1, vI p2] [(.long (own_sum (own_muli w_visitUs p1) (own_muli w_allocationUs p2))), (.long w_heartbeatUs)]) := fun t k => pre10 t (st11 t k)
  obtain ⟨_, _, ⟨T12, L12, k12, n12⟩, -, X12, ⟨Lc12, hQ12, l12, y12, z12⟩, st12⟩ := Jvm.LawKit.callS X11 hx (y := (⟨"java/lang/Math", "addExact", "(JJ)J"⟩ : MethodName)) hown (mvT hZ (hw _ (List.mem_of_getElem? (i := 42) rfl))) (mvT hZ (hw _ (List.mem_of_getElem? (i := 43) rfl))) (mvT hZ (hw _ (List.mem_of_getElem? (i := 33) rfl))) (mvT hZ (hw _ (List.mem_of_getElem? (i := 44) rfl))) (by decide) (backOf (W := 0) (rm9 l Z A0 hw [] w_heartbeatUs (own_sum (own_muli w_visitUs p1) (own_muli w_allocationUs p2)) h0 n0 Z0 ha2) hZ (hw _ (List.mem_of_getElem? (i := 44) rfl)) (hw _ (List.mem_of_getElem? (i := 33) rfl)) (by decide) (by decide)) (g := (mkF m 23 #[vR a0, vI p1, vI p2] [(.long (own_sum (own_muli w_visitUs p1) (own_muli w_allocationUs p2))), (.long w_heartbeatUs)])) rfl (by rw [hml]; rfl) (argsL := [(.long w_heartbeatUs), (.long (own_sum (own_muli w_visitUs p1) (own_muli w_allocationUs p2)))]) (rest := []) (lenOf pd_2 rfl) rfl (by show 2 * 0 + _ ≤ _; exact Nat.le_of_eq rfl) (hb hby d5_23) (fun _ _ => ⟨rfl, eq11, (by decide : 0 + 0 ≤ _), (by decide : 0 + 0 ≤ _)⟩)
  dsimp only [Pt.U, Pt.locs, Pt.cells, Pt.slots] at X12 l12 y12 z12 st12 hQ12
  subst l12 y12 z12
  obtain ⟨rfl, Nq12, eq12⟩ := hQ12
  have N12 := Fr.app N11 Nq12
  have pre12 : Go p.tables e below S0 T12 (mkF m 26 #[vR a0, vI p1, vI p2] [(.long (own_sum w_heartbeatUs (own_sum (own_muli w_visitUs p1) (own_muli w_allocationUs p2))))]) := fun t k => pre11 t (st12 t k)
  obtain ⟨fs, hr, hrun, hended, hW, hsame⟩ := X12.leave (v := some (.long (own_sum w_heartbeatUs (own_sum (own_muli w_visitUs p1) (own_muli w_allocationUs p2))))) (fun h => by rw [Bd.returns] at h; cases h)
  exact ⟨_, _, pre12.fin hS0 (retJ X12 hx Bd.returns (hb hby d5_26) hr), hrun, hended, _, _, rfl, (by
    show Q5 Z a0 p1 p2 w_heartbeatUs w_visitUs w_allocationUs h0 n0 _ T12.heap _
    rw [eq12]
    exact ⟨rfl, N12, rfl⟩), ⟨_, rfl⟩, hW, hsame.mono (by decide) (by decide)⟩
theorem own_div {x y : Int64} (hy : ¬ (y = (0 : Int64))) (hr : -9223372036854775808 ≤ x.toInt * y.toInt ∧ x.toInt * y.toInt < 9223372036854775808) : (x * y) / y = x := by
  have h1 := c_lmul x y
  have h2 := rng64 (x * y)
  have e : (x * y).toInt = x.toInt * y.toInt := by omega
  have hz : y.toInt ≠ 0 := fun q => hy (Int64.toInt_inj.mp q)
  apply Int64.toInt_inj.mp
  rw [Int64.toInt_div, e, Int.mul_tdiv_cancel _ hz]
  have := rng64 x
  exact Int.bmod_eq_of_le (by omega) (by omega)
theorem own_neg (x : Int64) : (x < (0 : Int64)) ↔ x.toBitVec.msb = true := by
  rw [Int64.lt_iff_toInt_lt, BitVec.msb_eq_toInt, decide_eq_true_iff]; rfl
theorem own_add {x y : Int64} (hr : -9223372036854775808 ≤ x.toInt + y.toInt ∧ x.toInt + y.toInt < 9223372036854775808) : ¬ (((x ^^^ (x + y)) &&& (y ^^^ (x + y))) < (0 : Int64)) := by
  have h1 := c_ladd x y
  have h2 := rng64 (x + y)
  have e : (x + y).toInt = x.toInt + y.toInt := by omega
  have nx := own_neg x
  have ny := own_neg y
  have nr := own_neg (x + y)
  rw [own_neg]
  show ¬ ((x.toBitVec ^^^ (x + y).toBitVec) &&& (y.toBitVec ^^^ (x + y).toBitVec)).msb = true
  rw [BitVec.msb_and, BitVec.msb_xor, BitVec.msb_xor]
  rw [Int64.lt_iff_toInt_lt] at nx ny nr
  have z : (0 : Int64).toInt = 0 := rfl
  rw [z] at nx ny nr
  rw [e] at nr
  generalize x.toBitVec.msb = a at *
  generalize y.toBitVec.msb = b at *
  generalize (x + y).toBitVec.msb = c at *
  intro h
  have h' : a ≠ c ∧ b ≠ c := by revert h; cases a <;> cases b <;> cases c <;> decide
  by_cases p : c = true
  · have q := nr.mpr p
    have q1 : ¬ x.toInt < 0 := fun z => h'.1 ((nx.mp z).trans p.symm)
    have q2 : ¬ y.toInt < 0 := fun z => h'.2 ((ny.mp z).trans p.symm)
    omega
  · have q : ¬ x.toInt + y.toInt < 0 := fun z => p (nr.mp z)
    have p' : c = false := by revert p; cases c <;> decide
    have q1 : x.toInt < 0 := nx.mpr (by have := h'.1; rw [p'] at this; revert this; cases a <;> decide)
    have q2 : y.toInt < 0 := ny.mpr (by have := h'.2; rw [p'] at this; revert this; cases b <;> decide)
    omega
theorem own_prems {h v a : Int64} {x y : Int32} (hv : ¬ v.toInt = -9223372036854775808) (ha : ¬ a.toInt = -9223372036854775808)
    (r1 : -4611686018427387904 ≤ v.toInt * x.toInt ∧ v.toInt * x.toInt < 4611686018427387904) (r2 : -4611686018427387904 ≤ a.toInt * y.toInt ∧ a.toInt * y.toInt < 4611686018427387904)
    (r3 : -9223372036854775808 ≤ h.toInt + (v.toInt * x.toInt + a.toInt * y.toInt) ∧ h.toInt + (v.toInt * x.toInt + a.toInt * y.toInt) < 9223372036854775808) :
    (¬ (x.toInt64 = (0 : Int64)) → (v * x.toInt64) / x.toInt64 = v) ∧ (¬ (v = (-9223372036854775808 : Int64))) ∧ (¬ (y.toInt64 = (0 : Int64)) → (a * y.toInt64) / y.toInt64 = a) ∧ (¬ (a = (-9223372036854775808 : Int64))) ∧
    (¬ (((own_muli v x ^^^ (own_muli v x + own_muli a y)) &&& (own_muli a y ^^^ (own_muli v x + own_muli a y))) < (0 : Int64))) ∧
    (¬ (((h ^^^ (h + own_sum (own_muli v x) (own_muli a y))) &&& (own_sum (own_muli v x) (own_muli a y) ^^^ (h + own_sum (own_muli v x) (own_muli a y)))) < (0 : Int64))) ∧
    (own_pass h v a x y).toInt = h.toInt + (v.toInt * x.toInt + a.toInt * y.toInt) := by
  have ex := c_i2l x
  have ey := c_i2l y
  have m1 := c_lmul v x.toInt64
  have m2 := c_lmul a y.toInt64
  rw [ex] at m1
  rw [ey] at m2
  have g1 : (own_muli v x).toInt = v.toInt * x.toInt := by have := rng64 (v * x.toInt64); unfold own_muli; omega
  have g2 : (own_muli a y).toInt = a.toInt * y.toInt := by have := rng64 (a * y.toInt64); unfold own_muli; omega
  have s1 := c_ladd (own_muli v x) (own_muli a y)
  have g3 : (own_sum (own_muli v x) (own_muli a y)).toInt = v.toInt * x.toInt + a.toInt * y.toInt := by have := rng64 (own_muli v x + own_muli a y); unfold own_sum; omega
  have s2 := c_ladd h (own_sum (own_muli v x) (own_muli a y))
  refine ⟨fun q => own_div q (by rw [ex]; omega), fun q => hv (by rw [q]; rfl), fun q => own_div q (by rw [ey]; omega), fun q => ha (by rw [q]; rfl), own_add (by rw [g1, g2]; omega), own_add (by rw [g3]; omega), ?_⟩
  unfold own_pass
  have e : own_sum h (own_sum (own_muli v x) (own_muli a y)) = h + own_sum (own_muli v x) (own_muli a y) := rfl
  rw [e]
  have := rng64 (h + own_sum (own_muli v x) (own_muli a y))
  omega
def own_free (h v a : Int64) : Int32 := if h = (0 : Int64) then (if v = (0 : Int64) then (if a = (0 : Int64) then 1 else 0) else 0) else 0
theorem ef_4 (m : MethodId) (x0 : Addr) : entryFrame m #[(.ref x0)] 1 = mkF m 0 #[.val (.ref x0)] [] := by first | (simp [entryFrame, mkF, argsToLocals, Value.category]; done) | rfl
theorem d4_0 : decode prog_33_method_3_code 0 = .ok (.aload_n 0, 1) := by decide +kernel
theorem d4_1 : decode prog_33_method_3_code 1 = .ok (.getfield 16, 3) := by decide +kernel
theorem d4_4 : decode prog_33_method_3_code 4 = .ok (.lconst 0, 1) := by decide +kernel
theorem d4_5 : decode prog_33_method_3_code 5 = .ok (.lcmp, 1) := by decide +kernel
theorem d4_6 : decode prog_33_method_3_code 6 = .ok (.ifCond .ne 25, 3) := by decide +kernel
theorem d4_9 : decode prog_33_method_3_code 9 = .ok (.aload_n 0, 1) := by decide +kernel
theorem d4_10 : decode prog_33_method_3_code 10 = .ok (.getfield 22, 3) := by decide +kernel
theorem d4_13 : decode prog_33_method_3_code 13 = .ok (.lconst 0, 1) := by decide +kernel
theorem d4_14 : decode prog_33_method_3_code 14 = .ok (.lcmp, 1) := by decide +kernel
theorem d4_15 : decode prog_33_method_3_code 15 = .ok (.ifCond .ne 16, 3) := by decide +kernel
theorem d4_18 : decode prog_33_method_3_code 18 = .ok (.aload_n 0, 1) := by decide +kernel
theorem d4_19 : decode prog_33_method_3_code 19 = .ok (.getfield 25, 3) := by decide +kernel
theorem d4_22 : decode prog_33_method_3_code 22 = .ok (.lconst 0, 1) := by decide +kernel
theorem d4_23 : decode prog_33_method_3_code 23 = .ok (.lcmp, 1) := by decide +kernel
theorem d4_24 : decode prog_33_method_3_code 24 = .ok (.ifCond .ne 7, 3) := by decide +kernel
theorem d4_27 : decode prog_33_method_3_code 27 = .ok (.iconst 1, 1) := by decide +kernel
theorem d4_28 : decode prog_33_method_3_code 28 = .ok (.goto 4, 3) := by decide +kernel
theorem d4_31 : decode prog_33_method_3_code 31 = .ok (.iconst 0, 1) := by decide +kernel
theorem d4_32 : decode prog_33_method_3_code 32 = .ok (.ireturn, 1) := by decide +kernel
def Q4 (Z : State) (a0 : Addr)  (w_heartbeatUs : Int64) (w_visitUs : Int64) (w_allocationUs : Int64) (h0 : Heap) (n0 : Nat) (v : Option Value) (h : Heap) (L : List Loc) : Prop := v = some (.int (own_free w_heartbeatUs w_visitUs w_allocationUs)) ∧ Fr n0 L ∧ h = h0
set_option maxRecDepth 65536 in
set_option maxHeartbeats 40000000 in
theorem rm4 (l : Launch) (Z : State) (A0 : Array Value) (hw : ∀ d ∈ tables_1, d.before A0 Z = true) (ws : List Jvm.Cond) (a0 : Addr) (w_heartbeatUs : Int64) (w_visitUs : Int64) (w_allocationUs : Int64) (h0 : Heap) (n0 : Nat) (Z0 : n0 ≤ h0.size) (F_heartbeatUs : Fld Z h0 a0 "com/example/scalecast/scalecast/SchedulerCosts" "heartbeatUs" "J" (.long w_heartbeatUs)) (F_visitUs : Fld Z h0 a0 "com/example/scalecast/scalecast/SchedulerCosts" "visitUs" "J" (.long w_visitUs)) (F_allocationUs : Fld Z h0 a0 "com/example/scalecast/scalecast/SchedulerCosts" "allocationUs" "J" (.long w_allocationUs)) :
    MetFree l (⟨"com/example/scalecast/scalecast/SchedulerCosts", "free", "()Z"⟩ : MethodName) (head1 (Jvm.Cond.code (⟨"com/example/scalecast/scalecast/SchedulerCosts", "free", "()Z"⟩ : MethodName) prog_33_method_3_code 1 (some .boolean) :: ws) ({ frames := 0, cells := 0, slots := 0, locals := 0 } : Room)) (fun a U => a = #[(.ref a0)] ∧ Z.Warmed39 U.vm ∧ U.heap = h0) (fun _ _ _ _ _ => True) (fun _ U o U' => ∃ v L, o = .returned v ∧ Q4 Z a0 w_heartbeatUs w_visitUs w_allocationUs h0 n0 v U'.heap L ∧ FrameEnd U o U' L ({ frames := 0, cells := 0, slots := 0, locals := 0 } : Room).cells ({ frames := 0, cells := 0, slots := 0, locals := 0 } : Room).slots) := by
  refine MetFree.of_bodySF (plainFor_of_name pn_1) hisR ?_
  intro p e s m args below meth c s₁ Bd hml0 hP hK
  obtain ⟨rfl, hZ, hh⟩ := hP
  have hx := Bd.exec
  have hby := Bd.bytes
  have hml : c.maxLocals = 1 := hml0
  have hown : s.vm.findClass "com/example/scalecast/scalecast/SchedulerCosts" = some m.cls := findClass_of_methodNamed Bd.named
  have hnm := (name_of_methodNamed Bd.named Bd.method).1
  have X0 : Stand p l e ({ frames := 0, cells := 0, slots := 0, locals := 0 } : Room) s m #[(.ref a0)] below meth c s₁ [] 0 0 := Stand.of_body Bd
  have e0 : s₁.heap = h0 := by rw [← hh, Bd.state]; rfl
  have N0 := Fr.nil n0
  obtain ⟨S0, hS0⟩ : ∃ z, z = s₁.setTop (entryFrame m #[(.ref a0)] 1) := ⟨_, rfl⟩
  have pre0 : Go p.tables e below S0 s₁ (mkF m 0 #[vR a0] []) := fun t k => by rw [hS0]; exact castTop (ef_4 m a0) k
  have pre1 : Go p.tables e below S0 s₁ (mkF m 1 #[vR a0] [(.ref a0)]) := fun t k => pre0 t (by
    refine XS.aloadN X0.here hx rfl (hb hby d4_0) rfl rfl ?_
    show Steps p.tables e below (s₁.setTop (mkF m 1 #[vR a0] [(.ref a0)])) _
    exact k)
  obtain ⟨T2, X2, e2, st2⟩ := getF X0 hx hZ hown (host := "") (Or.inl (hw _ (List.mem_of_getElem? (i := 15) rfl))) Via.refl e0 F_heartbeatUs (g := (mkF m 1 #[vR a0] [(.ref a0)])) rfl rfl (hb hby d4_1)
  have pre2 : Go p.tables e below S0 T2 (mkF m 4 #[vR a0] [(.long w_heartbeatUs)]) := fun t k => pre1 t (st2 t k)
  have pre3 : Go p.tables e below S0 T2 (mkF m 6 #[vR a0] [(.int (lcmpW w_heartbeatUs (0 : Int64)))]) := fun t k => pre2 t (by
    refine XS.lconst X2.here hx rfl (hb hby d4_4) ?_
    show Steps p.tables e below (T2.setTop (mkF m 5 #[vR a0] [(.long (0 : Int64)), (.long w_heartbeatUs)])) _
    refine XS.lcmp X2.here hx rfl (hb hby d4_5) rfl ?_
    show Steps p.tables e below (T2.setTop (mkF m 6 #[vR a0] [(.int (lcmpW w_heartbeatUs (0 : Int64)))])) _
    exact k)
  by_cases c6_4 : w_heartbeatUs = (0 : Int64)
  · skip
    have pre5 : Go p.tables e below S0 T2 (mkF m 10 #[vR a0] [(.ref a0)]) := fun t k => pre3 t (by
      refine XS.ifNo X2.here hx rfl (hb hby d4_6) rfl ((if0 _ _).trans (teq ((lw_eq _ _).mpr c6_4)).2) ?_
      show Steps p.tables e below (T2.setTop (mkF m 9 #[vR a0] [])) _
      refine XS.aloadN X2.here hx rfl (hb hby d4_9) rfl rfl ?_
      show Steps p.tables e below (T2.setTop (mkF m 10 #[vR a0] [(.ref a0)])) _
      exact k)
    obtain ⟨T6, X6, e6, st6⟩ := getF X2 hx hZ hown (host := "") (Or.inl (hw _ (List.mem_of_getElem? (i := 17) rfl))) Via.refl e2 F_visitUs (g := (mkF m 10 #[vR a0] [(.ref a0)])) rfl rfl (hb hby d4_10)
    have pre6 : Go p.tables e below S0 T6 (mkF m 13 #[vR a0] [(.long w_visitUs)]) := fun t k => pre5 t (st6 t k)
    have pre7 : Go p.tables e below S0 T6 (mkF m 15 #[vR a0] [(.int (lcmpW w_visitUs (0 : Int64)))]) := fun t k => pre6 t (by
      refine XS.lconst X6.here hx rfl (hb hby d4_13) ?_
      show Steps p.tables e below (T6.setTop (mkF m 14 #[vR a0] [(.long (0 : Int64)), (.long w_visitUs)])) _
      refine XS.lcmp X6.here hx rfl (hb hby d4_14) rfl ?_
      show Steps p.tables e below (T6.setTop (mkF m 15 #[vR a0] [(.int (lcmpW w_visitUs (0 : Int64)))])) _
      exact k)
    by_cases c15_8 : w_visitUs = (0 : Int64)
    · skip
      have pre9 : Go p.tables e below S0 T6 (mkF m 19 #[vR a0] [(.ref a0)]) := fun t k => pre7 t (by
        refine XS.ifNo X6.here hx rfl (hb hby d4_15) rfl ((if0 _ _).trans (teq ((lw_eq _ _).mpr c15_8)).2) ?_
        show Steps p.tables e below (T6.setTop (mkF m 18 #[vR a0] [])) _
        refine XS.aloadN X6.here hx rfl (hb hby d4_18) rfl rfl ?_
        show Steps p.tables e below (T6.setTop (mkF m 19 #[vR a0] [(.ref a0)])) _
        exact k)
      obtain ⟨T10, X10, e10, st10⟩ := getF X6 hx hZ hown (host := "") (Or.inl (hw _ (List.mem_of_getElem? (i := 19) rfl))) Via.refl e6 F_allocationUs (g := (mkF m 19 #[vR a0] [(.ref a0)])) rfl rfl (hb hby d4_19)
      have pre10 : Go p.tables e below S0 T10 (mkF m 22 #[vR a0] [(.long w_allocationUs)]) := fun t k => pre9 t (st10 t k)
      have pre11 : Go p.tables e below S0 T10 (mkF m 24 #[vR a0] [(.int (lcmpW w_allocationUs (0 : Int64)))]) := fun t k => pre10 t (by
        refine XS.lconst X10.here hx rfl (hb hby d4_22) ?_
        show Steps p.tables e below (T10.setTop (mkF m 23 #[vR a0] [(.long (0 : Int64)), (.long w_allocationUs)])) _
        refine XS.lcmp X10.here hx rfl (hb hby d4_23) rfl ?_
        show Steps p.tables e below (T10.setTop (mkF m 24 #[vR a0] [(.int (lcmpW w_allocationUs (0 : Int64)))])) _
        exact k)
      by_cases c24_12 : w_allocationUs = (0 : Int64)
      · skip
        have pre13 : Go p.tables e below S0 T10 (mkF m 32 #[vR a0] [(.int (1 : Int32))]) := fun t k => pre11 t (by
          refine XS.ifNo X10.here hx rfl (hb hby d4_24) rfl ((if0 _ _).trans (teq ((lw_eq _ _).mpr c24_12)).2) ?_
          show Steps p.tables e below (T10.setTop (mkF m 27 #[vR a0] [])) _
          refine XS.iconst X10.here hx rfl (hb hby d4_27) ?_
          show Steps p.tables e below (T10.setTop (mkF m 28 #[vR a0] [(.int (1 : Int32))])) _
          refine XS.goto X10.here hx rfl (pc0 := 28) (pc' := 32) rfl (hb hby d4_28) (by decide) (by decide) ?_
          show Steps p.tables e below (T10.setTop (mkF m 32 #[vR a0] [(.int (1 : Int32))])) _
          exact k)
        obtain ⟨fs, hr, hrun, hended, hW, hsame⟩ := X10.leave (v := some (.int (1 : Int32))) (fun h => by rw [Bd.returns] at h; cases h)
        exact ⟨_, _, pre13.fin hS0 (retN X10 hx (t := .boolean) Bd.returns (by simp) (hb hby d4_32) hr), hrun, hended, _, _, rfl, (by
          show Q4 Z a0 w_heartbeatUs w_visitUs w_allocationUs h0 n0 _ T10.heap _
          rw [e10]
          exact ⟨congrArg (fun z => some (Value.int z)) (by simp [own_free, c6_4, c15_8, c24_12]), N0, rfl⟩), ⟨_, rfl⟩, hW, hsame.mono (by decide) (by decide)⟩
      · skip
        have pre14 : Go p.tables e below S0 T10 (mkF m 32 #[vR a0] [(.int (0 : Int32))]) := fun t k => pre11 t (by
          refine XS.ifYes X10.here hx rfl (pc0 := 24) (pc' := 31) rfl (hb hby d4_24) rfl ((if0 _ _).trans (feq (fun q => c24_12 ((lw_eq _ _).mp q))).2) (by decide) (by decide) ?_
          show Steps p.tables e below (T10.setTop (mkF m 31 #[vR a0] [])) _
          refine XS.iconst X10.here hx rfl (hb hby d4_31) ?_
          show Steps p.tables e below (T10.setTop (mkF m 32 #[vR a0] [(.int (0 : Int32))])) _
          exact k)
        obtain ⟨fs, hr, hrun, hended, hW, hsame⟩ := X10.leave (v := some (.int (0 : Int32))) (fun h => by rw [Bd.returns] at h; cases h)
        exact ⟨_, _, pre14.fin hS0 (retN X10 hx (t := .boolean) Bd.returns (by simp) (hb hby d4_32) hr), hrun, hended, _, _, rfl, (by
          show Q4 Z a0 w_heartbeatUs w_visitUs w_allocationUs h0 n0 _ T10.heap _
          rw [e10]
          exact ⟨congrArg (fun z => some (Value.int z)) (by simp [own_free, c6_4, c15_8, c24_12]), N0, rfl⟩), ⟨_, rfl⟩, hW, hsame.mono (by decide) (by decide)⟩
    · skip
      have pre15 : Go p.tables e below S0 T6 (mkF m 32 #[vR a0] [(.int (0 : Int32))]) := fun t k => pre7 t (by
        refine XS.ifYes X6.here hx rfl (pc0 := 15) (pc' := 31) rfl (hb hby d4_15) rfl ((if0 _ _).trans (feq (fun q => c15_8 ((lw_eq _ _).mp q))).2) (by decide) (by decide) ?_
        show Steps p.tables e below (T6.setTop (mkF m 31 #[vR a0] [])) _
        refine XS.iconst X6.here hx rfl (hb hby d4_31) ?_
        show Steps p.tables e below (T6.setTop (mkF m 32 #[vR a0] [(.int (0 : Int32))])) _
        exact k)
      obtain ⟨fs, hr, hrun, hended, hW, hsame⟩ := X6.leave (v := some (.int (0 : Int32))) (fun h => by rw [Bd.returns] at h; cases h)
      exact ⟨_, _, pre15.fin hS0 (retN X6 hx (t := .boolean) Bd.returns (by simp) (hb hby d4_32) hr), hrun, hended, _, _, rfl, (by
        show Q4 Z a0 w_heartbeatUs w_visitUs w_allocationUs h0 n0 _ T6.heap _
        rw [e6]
        exact ⟨congrArg (fun z => some (Value.int z)) (by simp [own_free, c6_4, c15_8]), N0, rfl⟩), ⟨_, rfl⟩, hW, hsame.mono (by decide) (by decide)⟩
  · skip
    have pre16 : Go p.tables e below S0 T2 (mkF m 32 #[vR a0] [(.int (0 : Int32))]) := fun t k => pre3 t (by
      refine XS.ifYes X2.here hx rfl (pc0 := 6) (pc' := 31) rfl (hb hby d4_6) rfl ((if0 _ _).trans (feq (fun q => c6_4 ((lw_eq _ _).mp q))).2) (by decide) (by decide) ?_
      show Steps p.tables e below (T2.setTop (mkF m 31 #[vR a0] [])) _
      refine XS.iconst X2.here hx rfl (hb hby d4_31) ?_
      show Steps p.tables e below (T2.setTop (mkF m 32 #[vR a0] [(.int (0 : Int32))])) _
      exact k)
    obtain ⟨fs, hr, hrun, hended, hW, hsame⟩ := X2.leave (v := some (.int (0 : Int32))) (fun h => by rw [Bd.returns] at h; cases h)
    exact ⟨_, _, pre16.fin hS0 (retN X2 hx (t := .boolean) Bd.returns (by simp) (hb hby d4_32) hr), hrun, hended, _, _, rfl, (by
      show Q4 Z a0 w_heartbeatUs w_visitUs w_allocationUs h0 n0 _ T2.heap _
      rw [e2]
      exact ⟨congrArg (fun z => some (Value.int z)) (by simp [own_free, c6_4]), N0, rfl⟩), ⟨_, rfl⟩, hW, hsame.mono (by decide) (by decide)⟩
theorem own_m {h w : Int64} (hw : w = (0 : Int64) ∨ w = (h &&& (2305843009213693951 : Int64))) : 0 ≤ w.toInt ∧ w.toInt ≤ 2305843009213693951 := by
  rcases hw with rfl | rfl
  · decide
  · rw [c_maskL h (2305843009213693951 : Int64) 61 (by decide) (by decide)]; omega
theorem own_nn {w : Int64} (h : 0 ≤ w.toInt ∧ w.toInt ≤ 2305843009213693951) : ¬ (w < (0 : Int64)) := by
  rw [Int64.lt_iff_toInt_lt]; have z : (0 : Int64).toInt = 0 := rfl; omega
theorem own_z {w : Int64} : w = (0 : Int64) ↔ w.toInt = 0 := ⟨fun q => by rw [q]; rfl, fun q => Int64.toInt_inj.mp q⟩
theorem own_k1 {h v a : Int64} (b1 : 0 ≤ h.toInt ∧ h.toInt ≤ 2305843009213693951) (b2 : 0 ≤ v.toInt ∧ v.toInt ≤ 2305843009213693951) (b3 : 0 ≤ a.toInt ∧ a.toInt ≤ 2305843009213693951) {j : Int32}
    (e : (own_pass h v a (1 : Int32) (1 : Int32)).toInt = h.toInt + (v.toInt * (1 : Int32).toInt + a.toInt * (1 : Int32).toInt)) (hj : (j = (1 : Int32) ∧ own_pass h v a (1 : Int32) (1 : Int32) = (0 : Int64)) ∨ (j = (0 : Int32) ∧ ¬ (own_pass h v a (1 : Int32) (1 : Int32) = (0 : Int64)))) : own_free h v a = j := by
  have t : (1 : Int32).toInt = 1 := rfl
  rw [own_z, e, t] at hj
  unfold own_free
  simp only [own_z]
  rcases hj with ⟨rfl, q⟩ | ⟨rfl, q⟩
  · rw [if_pos (by omega), if_pos (by omega), if_pos (by omega)]
  · by_cases p1 : h.toInt = 0
    · by_cases p2 : v.toInt = 0
      · rw [if_pos p1, if_pos p2, if_neg (by omega)]
      · rw [if_pos p1, if_neg p2]
    · rw [if_neg p1]
theorem own_k2 {h v a : Int64} (f : ¬ (own_free h v a = (0 : Int32))) : h = (0 : Int64) ∧ v = (0 : Int64) ∧ a = (0 : Int64) := by
  unfold own_free at f
  by_cases p1 : h = (0 : Int64)
  · by_cases p2 : v = (0 : Int64)
    · by_cases p3 : a = (0 : Int64)
      · exact ⟨p1, p2, p3⟩
      · rw [if_pos p1, if_pos p2, if_neg p3] at f; exact absurd rfl f
    · rw [if_pos p1, if_neg p2] at f; exact absurd rfl f
  · rw [if_neg p1] at f; exact absurd rfl f
theorem own_k3 (x y : Int32) : own_pass (0 : Int64) (0 : Int64) (0 : Int64) x y = (0 : Int64) := by
  unfold own_pass own_sum own_muli; simp
theorem ef_0 (m : MethodId) (x0 : Int64) (x1 : Int64) (x2 : Int64) (x3 : Int32) (x4 : Int32) (x5 : Int32) : entryFrame m #[(.long x0), (.long x1), (.long x2), (.int x3), (.int x4), (.int x5)] maxLocals = mkF m 0 #[.val (.long x0), .second, .val (.long x1), .second, .val (.long x2), .second, .val (.int x3), .val (.int x4), .val (.int x5), .unset, .unset, .unset, .unset, .unset, .unset, .unset, .unset, .unset, .unset] [] := by first | (simp [entryFrame, mkF, argsToLocals, Value.category, maxLocals]; done) | rfl
theorem pn_2 : plainName "com/example/scalecast/scalecast/SchedulerCostsFreePinLaw" = true := by first | (simp [plainName, overriddenIn]; done) | decide +kernel
theorem pd_4 : parseMethodDescriptor "(JJJ)V" = some ⟨[.long, .long, .long], none⟩ := by decide +kernel
theorem pd_5 : parseMethodDescriptor "()Z" = some ⟨[], some .boolean⟩ := by decide +kernel
theorem pd_6 : parseMethodDescriptor "(II)J" = some ⟨[.int, .int], some .long⟩ := by decide +kernel
def Q0 (Z : State) (q0 q1 q2 : Int64) (p3 p4 p5 : Int32) (h0 : Heap) (n0 : Nat) (v : Option Value) (h : Heap) (L : List Loc) : Prop := v = some (.int 1) ∧ Fr n0 L
set_option maxRecDepth 65536 in
set_option maxHeartbeats 40000000 in
theorem rm0 (l : Launch) (Z : State) (A0 : Array Value) (hw : ∀ d ∈ tables_1, d.before A0 Z = true) (ws : List Jvm.Cond) (q0 : Int64) (q1 : Int64) (q2 : Int64) (p3 : Int32) (p4 : Int32) (p5 : Int32)  (h0 : Heap) (n0 : Nat) (Z0 : n0 ≤ h0.size)  :
    MetFree l x (head1 (Jvm.Cond.code x code maxLocals ret :: ws) room_1) (fun a U => a = #[(.long q0), (.long q1), (.long q2), (.int p3), (.int p4), (.int p5)] ∧ Z.Warmed39 U.vm ∧ U.heap = h0) (fun _ _ _ _ _ => True) (fun _ U o U' => ∃ v L, o = .returned v ∧ Q0 Z q0 q1 q2 p3 p4 p5 h0 n0 v U'.heap L ∧ FrameEnd U o U' L 1 3) := by
  refine MetFree.of_bodySF (plainFor_of_name pn_2) hisR ?_
  intro p e s m args below meth c s₁ Bd hml0 hP hK
  obtain ⟨rfl, hZ, hh⟩ := hP
  have hx := Bd.exec
  have hby := Bd.bytes
  have hml : c.maxLocals = 19 := hml0
  have hown : s.vm.findClass "com/example/scalecast/scalecast/SchedulerCostsFreePinLaw" = some m.cls := findClass_of_methodNamed Bd.named
  have hnm := (name_of_methodNamed Bd.named Bd.method).1
  have X0 : Stand p l e room_1 s m #[(.long q0), (.long q1), (.long q2), (.int p3), (.int p4), (.int p5)] below meth c s₁ [] 0 0 := Stand.of_body Bd
  have e0 : s₁.heap = h0 := by rw [← hh, Bd.state]; rfl
  have N0 := Fr.nil n0
  obtain ⟨S0, hS0⟩ : ∃ z, z = s₁.setTop (entryFrame m #[(.long q0), (.long q1), (.long q2), (.int p3), (.int p4), (.int p5)] maxLocals) := ⟨_, rfl⟩
  have pre0 : Go p.tables e below S0 s₁ (mkF m 0 #[vJ q0, .second, vJ q1, .second, vJ q2, .second, vI p3, vI p4, vI p5, .unset, .unset, .unset, .unset, .unset, .unset, .unset, .unset, .unset, .unset] []) := fun t k => by rw [hS0]; exact castTop (ef_0 m q0 q1 q2 p3 p4 p5) k
  have pre1 : Go p.tables e below S0 s₁ (mkF m 4 #[vJ q0, .second, vJ q1, .second, vJ q2, .second, vI p3, vI p4, vI p5, .unset, .unset, .unset, .unset, .unset, .unset, .unset, .unset, .unset, .unset] [(.int (p3 &&& (1 : Int32)))]) := fun t k => pre0 t (by
    refine XS.iload X0.here hx rfl (hb hby at_0) rfl ?_
    show Steps p.tables e below (s₁.setTop (mkF m 2 #[vJ q0, .second, vJ q1, .second, vJ q2, .second, vI p3, vI p4, vI p5, .unset, .unset, .unset, .unset, .unset, .unset, .unset, .unset, .unset, .unset] [(.int p3)])) _
    refine XS.iconst X0.here hx rfl (hb hby at_2) ?_
    show Steps p.tables e below (s₁.setTop (mkF m 3 #[vJ q0, .second, vJ q1, .second, vJ q2, .second, vI p3, vI p4, vI p5, .unset, .unset, .unset, .unset, .unset, .unset, .unset, .unset, .unset, .unset] [(.int (1 : Int32)), (.int p3)])) _
    refine XS.iand X0.here hx rfl (hb hby at_3) rfl ?_
    show Steps p.tables e below (s₁.setTop (mkF m 4 #[vJ q0, .second, vJ q1, .second, vJ q2, .second, vI p3, vI p4, vI p5, .unset, .unset, .unset, .unset, .unset, .unset, .unset, .unset, .unset, .unset] [(.int (p3 &&& (1 : Int32)))])) _
    exact k)
  refine cps (A := ∃ (j16_s0_5 : Int64), (0 ≤ (j16_s0_5).toInt ∧ (j16_s0_5).toInt ≤ 2305843009213693951) ∧ (Go p.tables e below S0 s₁ (mkF m 16 #[vJ q0, .second, vJ q1, .second, vJ q2, .second, vI p3, vI p4, vI p5, .unset, .unset, .unset, .unset, .unset, .unset, .unset, .unset, .unset, .unset] [(.long j16_s0_5)]))) (fun tail8 => ?_) ?_
  · skip
    by_cases c4_2 : (p3 &&& (1 : Int32)) = (0 : Int32)
    · skip
      have pre3 : Go p.tables e below S0 s₁ (mkF m 16 #[vJ q0, .second, vJ q1, .second, vJ q2, .second, vI p3, vI p4, vI p5, .unset, .unset, .unset, .unset, .unset, .unset, .unset, .unset, .unset, .unset] [(.long (q0 &&& (2305843009213693951 : Int64)))]) := fun t k => pre1 t (by
        refine XS.ifYes X0.here hx rfl (pc0 := 4) (pc' := 11) rfl (hb hby at_4) rfl ((if0 _ _).trans (teq c4_2).1) (by decide) (by decide) ?_
        show Steps p.tables e below (s₁.setTop (mkF m 11 #[vJ q0, .second, vJ q1, .second, vJ q2, .second, vI p3, vI p4, vI p5, .unset, .unset, .unset, .unset, .unset, .unset, .unset, .unset, .unset, .unset] [])) _
        refine XS.lloadN X0.here hx rfl (hb hby at_11) rfl ?_
        show Steps p.tables e below (s₁.setTop (mkF m 12 #[vJ q0, .second, vJ q1, .second, vJ q2, .second, vI p3, vI p4, vI p5, .unset, .unset, .unset, .unset, .unset, .unset, .unset, .unset, .unset, .unset] [(.long q0)])) _
        refine X0.ldc2Long hx hown (mvT hZ (hw _ (List.mem_of_getElem? (i := 0) rfl))) (g := (mkF m 12 #[vJ q0, .second, vJ q1, .second, vJ q2, .second, vI p3, vI p4, vI p5, .unset, .unset, .unset, .unset, .unset, .unset, .unset, .unset, .unset, .unset] [(.long q0)])) rfl (hb hby at_12) _ ?_
        show Steps p.tables e below (s₁.setTop (mkF m 15 #[vJ q0, .second, vJ q1, .second, vJ q2, .second, vI p3, vI p4, vI p5, .unset, .unset, .unset, .unset, .unset, .unset, .unset, .unset, .unset, .unset] [(.long (2305843009213693951 : Int64)), (.long q0)])) _
        refine XS.land X0.here hx rfl (hb hby at_15) rfl ?_
        show Steps p.tables e below (s₁.setTop (mkF m 16 #[vJ q0, .second, vJ q1, .second, vJ q2, .second, vI p3, vI p4, vI p5, .unset, .unset, .unset, .unset, .unset, .unset, .unset, .unset, .unset, .unset] [(.long (q0 &&& (2305843009213693951 : Int64)))])) _
        exact k)
      exact tail8 ⟨(q0 &&& (2305843009213693951 : Int64)), (by first | exact own_m (h := 0) (Or.inl rfl) | exact own_m (Or.inr rfl)), pre3⟩
    · skip
      have pre4 : Go p.tables e below S0 s₁ (mkF m 16 #[vJ q0, .second, vJ q1, .second, vJ q2, .second, vI p3, vI p4, vI p5, .unset, .unset, .unset, .unset, .unset, .unset, .unset, .unset, .unset, .unset] [(.long (0 : Int64))]) := fun t k => pre1 t (by
        refine XS.ifNo X0.here hx rfl (hb hby at_4) rfl ((if0 _ _).trans (feq c4_2).1) ?_
        show Steps p.tables e below (s₁.setTop (mkF m 7 #[vJ q0, .second, vJ q1, .second, vJ q2, .second, vI p3, vI p4, vI p5, .unset, .unset, .unset, .unset, .unset, .unset, .unset, .unset, .unset, .unset] [])) _
        refine XS.lconst X0.here hx rfl (hb hby at_7) ?_
        show Steps p.tables e below (s₁.setTop (mkF m 8 #[vJ q0, .second, vJ q1, .second, vJ q2, .second, vI p3, vI p4, vI p5, .unset, .unset, .unset, .unset, .unset, .unset, .unset, .unset, .unset, .unset] [(.long (0 : Int64))])) _
        refine XS.goto X0.here hx rfl (pc0 := 8) (pc' := 16) rfl (hb hby at_8) (by decide) (by decide) ?_
        show Steps p.tables e below (s₁.setTop (mkF m 16 #[vJ q0, .second, vJ q1, .second, vJ q2, .second, vI p3, vI p4, vI p5, .unset, .unset, .unset, .unset, .unset, .unset, .unset, .unset, .unset, .unset] [(.long (0 : Int64))])) _
        exact k)
      exact tail8 ⟨(0 : Int64), (by first | exact own_m (h := 0) (Or.inl rfl) | exact own_m (Or.inr rfl)), pre4⟩
  rintro ⟨j16_s0_5, hj16_6, pre7⟩
  have b1 := hj16_6
  have pre9 : Go p.tables e below S0 s₁ (mkF m 22 #[vJ q0, .second, vJ q1, .second, vJ q2, .second, vI p3, vI p4, vI p5, vJ j16_s0_5, .second, .unset, .unset, .unset, .unset, .unset, .unset, .unset, .unset] [(.int (p3 &&& (2 : Int32)))]) := fun t k => pre7 t (by
    refine XS.lstore X0.here hx rfl (hb hby at_16) rfl (l' := #[vJ q0, .second, vJ q1, .second, vJ q2, .second, vI p3, vI p4, vI p5, vJ j16_s0_5, .second, .unset, .unset, .unset, .unset, .unset, .unset, .unset, .unset]) rfl ?_
    show Steps p.tables e below (s₁.setTop (mkF m 18 #[vJ q0, .second, vJ q1, .second, vJ q2, .second, vI p3, vI p4, vI p5, vJ j16_s0_5, .second, .unset, .unset, .unset, .unset, .unset, .unset, .unset, .unset] [])) _
    refine XS.iload X0.here hx rfl (hb hby at_18) rfl ?_
    show Steps p.tables e below (s₁.setTop (mkF m 20 #[vJ q0, .second, vJ q1, .second, vJ q2, .second, vI p3, vI p4, vI p5, vJ j16_s0_5, .second, .unset, .unset, .unset, .unset, .unset, .unset, .unset, .unset] [(.int p3)])) _
    refine XS.iconst X0.here hx rfl (hb hby at_20) ?_
    show Steps p.tables e below (s₁.setTop (mkF m 21 #[vJ q0, .second, vJ q1, .second, vJ q2, .second, vI p3, vI p4, vI p5, vJ j16_s0_5, .second, .unset, .unset, .unset, .unset, .unset, .unset, .unset, .unset] [(.int (2 : Int32)), (.int p3)])) _
    refine XS.iand X0.here hx rfl (hb hby at_21) rfl ?_
    show Steps p.tables e below (s₁.setTop (mkF m 22 #[vJ q0, .second, vJ q1, .second, vJ q2, .second, vI p3, vI p4, vI p5, vJ j16_s0_5, .second, .unset, .unset, .unset, .unset, .unset, .unset, .unset, .unset] [(.int (p3 &&& (2 : Int32)))])) _
    exact k)
  refine cps (A := ∃ (j34_s0_13 : Int64), (0 ≤ (j34_s0_13).toInt ∧ (j34_s0_13).toInt ≤ 2305843009213693951) ∧ (Go p.tables e below S0 s₁ (mkF m 34 #[vJ q0, .second, vJ q1, .second, vJ q2, .second, vI p3, vI p4, vI p5, vJ j16_s0_5, .second, .unset, .unset, .unset, .unset, .unset, .unset, .unset, .unset] [(.long j34_s0_13)]))) (fun tail16 => ?_) ?_
  · skip
    by_cases c22_10 : (p3 &&& (2 : Int32)) = (0 : Int32)
    · skip
      have pre11 : Go p.tables e below S0 s₁ (mkF m 34 #[vJ q0, .second, vJ q1, .second, vJ q2, .second, vI p3, vI p4, vI p5, vJ j16_s0_5, .second, .unset, .unset, .unset, .unset, .unset, .unset, .unset, .unset] [(.long (q1 &&& (2305843009213693951 : Int64)))]) := fun t k => pre9 t (by
        refine XS.ifYes X0.here hx rfl (pc0 := 22) (pc' := 29) rfl (hb hby at_22) rfl ((if0 _ _).trans (teq c22_10).1) (by decide) (by decide) ?_
        show Steps p.tables e below (s₁.setTop (mkF m 29 #[vJ q0, .second, vJ q1, .second, vJ q2, .second, vI p3, vI p4, vI p5, vJ j16_s0_5, .second, .unset, .unset, .unset, .unset, .unset, .unset, .unset, .unset] [])) _
        refine XS.lloadN X0.here hx rfl (hb hby at_29) rfl ?_
        show Steps p.tables e below (s₁.setTop (mkF m 30 #[vJ q0, .second, vJ q1, .second, vJ q2, .second, vI p3, vI p4, vI p5, vJ j16_s0_5, .second, .unset, .unset, .unset, .unset, .unset, .unset, .unset, .unset] [(.long q1)])) _
        refine X0.ldc2Long hx hown (mvT hZ (hw _ (List.mem_of_getElem? (i := 0) rfl))) (g := (mkF m 30 #[vJ q0, .second, vJ q1, .second, vJ q2, .second, vI p3, vI p4, vI p5, vJ j16_s0_5, .second, .unset, .unset, .unset, .unset, .unset, .unset, .unset, .unset] [(.long q1)])) rfl (hb hby at_30) _ ?_
        show Steps p.tables e below (s₁.setTop (mkF m 33 #[vJ q0, .second, vJ q1, .second, vJ q2, .second, vI p3, vI p4, vI p5, vJ j16_s0_5, .second, .unset, .unset, .unset, .unset, .unset, .unset, .unset, .unset] [(.long (2305843009213693951 : Int64)), (.long q1)])) _
        refine XS.land X0.here hx rfl (hb hby at_33) rfl ?_
        show Steps p.tables e below (s₁.setTop (mkF m 34 #[vJ q0, .second, vJ q1, .second, vJ q2, .second, vI p3, vI p4, vI p5, vJ j16_s0_5, .second, .unset, .unset, .unset, .unset, .unset, .unset, .unset, .unset] [(.long (q1 &&& (2305843009213693951 : Int64)))])) _
        exact k)
      exact tail16 ⟨(q1 &&& (2305843009213693951 : Int64)), (by first | exact own_m (h := 0) (Or.inl rfl) | exact own_m (Or.inr rfl)), pre11⟩
    · skip
      have pre12 : Go p.tables e below S0 s₁ (mkF m 34 #[vJ q0, .second, vJ q1, .second, vJ q2, .second, vI p3, vI p4, vI p5, vJ j16_s0_5, .second, .unset, .unset, .unset, .unset, .unset, .unset, .unset, .unset] [(.long (0 : Int64))]) := fun t k => pre9 t (by
        refine XS.ifNo X0.here hx rfl (hb hby at_22) rfl ((if0 _ _).trans (feq c22_10).1) ?_
        show Steps p.tables e below (s₁.setTop (mkF m 25 #[vJ q0, .second, vJ q1, .second, vJ q2, .second, vI p3, vI p4, vI p5, vJ j16_s0_5, .second, .unset, .unset, .unset, .unset, .unset, .unset, .unset, .unset] [])) _
        refine XS.lconst X0.here hx rfl (hb hby at_25) ?_
        show Steps p.tables e below (s₁.setTop (mkF m 26 #[vJ q0, .second, vJ q1, .second, vJ q2, .second, vI p3, vI p4, vI p5, vJ j16_s0_5, .second, .unset, .unset, .unset, .unset, .unset, .unset, .unset, .unset] [(.long (0 : Int64))])) _
        refine XS.goto X0.here hx rfl (pc0 := 26) (pc' := 34) rfl (hb hby at_26) (by decide) (by decide) ?_
        show Steps p.tables e below (s₁.setTop (mkF m 34 #[vJ q0, .second, vJ q1, .second, vJ q2, .second, vI p3, vI p4, vI p5, vJ j16_s0_5, .second, .unset, .unset, .unset, .unset, .unset, .unset, .unset, .unset] [(.long (0 : Int64))])) _
        exact k)
      exact tail16 ⟨(0 : Int64), (by first | exact own_m (h := 0) (Or.inl rfl) | exact own_m (Or.inr rfl)), pre12⟩
  rintro ⟨j34_s0_13, hj34_14, pre15⟩
  have b2 := hj34_14
  have pre17 : Go p.tables e below S0 s₁ (mkF m 40 #[vJ q0, .second, vJ q1, .second, vJ q2, .second, vI p3, vI p4, vI p5, vJ j16_s0_5, .second, vJ j34_s0_13, .second, .unset, .unset, .unset, .unset, .unset, .unset] [(.int (p3 &&& (4 : Int32)))]) := fun t k => pre15 t (by
    refine XS.lstore X0.here hx rfl (hb hby at_34) rfl (l' := #[vJ q0, .second, vJ q1, .second, vJ q2, .second, vI p3, vI p4, vI p5, vJ j16_s0_5, .second, vJ j34_s0_13, .second, .unset, .unset, .unset, .unset, .unset, .unset]) rfl ?_
    show Steps p.tables e below (s₁.setTop (mkF m 36 #[vJ q0, .second, vJ q1, .second, vJ q2, .second, vI p3, vI p4, vI p5, vJ j16_s0_5, .second, vJ j34_s0_13, .second, .unset, .unset, .unset, .unset, .unset, .unset] [])) _
    refine XS.iload X0.here hx rfl (hb hby at_36) rfl ?_
    show Steps p.tables e below (s₁.setTop (mkF m 38 #[vJ q0, .second, vJ q1, .second, vJ q2, .second, vI p3, vI p4, vI p5, vJ j16_s0_5, .second, vJ j34_s0_13, .second, .unset, .unset, .unset, .unset, .unset, .unset] [(.int p3)])) _
    refine XS.iconst X0.here hx rfl (hb hby at_38) ?_
    show Steps p.tables e below (s₁.setTop (mkF m 39 #[vJ q0, .second, vJ q1, .second, vJ q2, .second, vI p3, vI p4, vI p5, vJ j16_s0_5, .second, vJ j34_s0_13, .second, .unset, .unset, .unset, .unset, .unset, .unset] [(.int (4 : Int32)), (.int p3)])) _
    refine XS.iand X0.here hx rfl (hb hby at_39) rfl ?_
    show Steps p.tables e below (s₁.setTop (mkF m 40 #[vJ q0, .second, vJ q1, .second, vJ q2, .second, vI p3, vI p4, vI p5, vJ j16_s0_5, .second, vJ j34_s0_13, .second, .unset, .unset, .unset, .unset, .unset, .unset] [(.int (p3 &&& (4 : Int32)))])) _
    exact k)
  refine cps (A := ∃ (j53_s0_21 : Int64), (0 ≤ (j53_s0_21).toInt ∧ (j53_s0_21).toInt ≤ 2305843009213693951) ∧ (Go p.tables e below S0 s₁ (mkF m 53 #[vJ q0, .second, vJ q1, .second, vJ q2, .second, vI p3, vI p4, vI p5, vJ j16_s0_5, .second, vJ j34_s0_13, .second, .unset, .unset, .unset, .unset, .unset, .unset] [(.long j53_s0_21)]))) (fun tail24 => ?_) ?_
  · skip
    by_cases c40_18 : (p3 &&& (4 : Int32)) = (0 : Int32)
    · skip
      have pre19 : Go p.tables e below S0 s₁ (mkF m 53 #[vJ q0, .second, vJ q1, .second, vJ q2, .second, vI p3, vI p4, vI p5, vJ j16_s0_5, .second, vJ j34_s0_13, .second, .unset, .unset, .unset, .unset, .unset, .unset] [(.long (q2 &&& (2305843009213693951 : Int64)))]) := fun t k => pre17 t (by
        refine XS.ifYes X0.here hx rfl (pc0 := 40) (pc' := 47) rfl (hb hby at_40) rfl ((if0 _ _).trans (teq c40_18).1) (by decide) (by decide) ?_
        show Steps p.tables e below (s₁.setTop (mkF m 47 #[vJ q0, .second, vJ q1, .second, vJ q2, .second, vI p3, vI p4, vI p5, vJ j16_s0_5, .second, vJ j34_s0_13, .second, .unset, .unset, .unset, .unset, .unset, .unset] [])) _
        refine XS.lload X0.here hx rfl (hb hby at_47) rfl ?_
        show Steps p.tables e below (s₁.setTop (mkF m 49 #[vJ q0, .second, vJ q1, .second, vJ q2, .second, vI p3, vI p4, vI p5, vJ j16_s0_5, .second, vJ j34_s0_13, .second, .unset, .unset, .unset, .unset, .unset, .unset] [(.long q2)])) _
        refine X0.ldc2Long hx hown (mvT hZ (hw _ (List.mem_of_getElem? (i := 0) rfl))) (g := (mkF m 49 #[vJ q0, .second, vJ q1, .second, vJ q2, .second, vI p3, vI p4, vI p5, vJ j16_s0_5, .second, vJ j34_s0_13, .second, .unset, .unset, .unset, .unset, .unset, .unset] [(.long q2)])) rfl (hb hby at_49) _ ?_
        show Steps p.tables e below (s₁.setTop (mkF m 52 #[vJ q0, .second, vJ q1, .second, vJ q2, .second, vI p3, vI p4, vI p5, vJ j16_s0_5, .second, vJ j34_s0_13, .second, .unset, .unset, .unset, .unset, .unset, .unset] [(.long (2305843009213693951 : Int64)), (.long q2)])) _
        refine XS.land X0.here hx rfl (hb hby at_52) rfl ?_
        show Steps p.tables e below (s₁.setTop (mkF m 53 #[vJ q0, .second, vJ q1, .second, vJ q2, .second, vI p3, vI p4, vI p5, vJ j16_s0_5, .second, vJ j34_s0_13, .second, .unset, .unset, .unset, .unset, .unset, .unset] [(.long (q2 &&& (2305843009213693951 : Int64)))])) _
        exact k)
      exact tail24 ⟨(q2 &&& (2305843009213693951 : Int64)), (by first | exact own_m (h := 0) (Or.inl rfl) | exact own_m (Or.inr rfl)), pre19⟩
    · skip
      have pre20 : Go p.tables e below S0 s₁ (mkF m 53 #[vJ q0, .second, vJ q1, .second, vJ q2, .second, vI p3, vI p4, vI p5, vJ j16_s0_5, .second, vJ j34_s0_13, .second, .unset, .unset, .unset, .unset, .unset, .unset] [(.long (0 : Int64))]) := fun t k => pre17 t (by
        refine XS.ifNo X0.here hx rfl (hb hby at_40) rfl ((if0 _ _).trans (feq c40_18).1) ?_
        show Steps p.tables e below (s₁.setTop (mkF m 43 #[vJ q0, .second, vJ q1, .second, vJ q2, .second, vI p3, vI p4, vI p5, vJ j16_s0_5, .second, vJ j34_s0_13, .second, .unset, .unset, .unset, .unset, .unset, .unset] [])) _
        refine XS.lconst X0.here hx rfl (hb hby at_43) ?_
        show Steps p.tables e below (s₁.setTop (mkF m 44 #[vJ q0, .second, vJ q1, .second, vJ q2, .second, vI p3, vI p4, vI p5, vJ j16_s0_5, .second, vJ j34_s0_13, .second, .unset, .unset, .unset, .unset, .unset, .unset] [(.long (0 : Int64))])) _
        refine XS.goto X0.here hx rfl (pc0 := 44) (pc' := 53) rfl (hb hby at_44) (by decide) (by decide) ?_
        show Steps p.tables e below (s₁.setTop (mkF m 53 #[vJ q0, .second, vJ q1, .second, vJ q2, .second, vI p3, vI p4, vI p5, vJ j16_s0_5, .second, vJ j34_s0_13, .second, .unset, .unset, .unset, .unset, .unset, .unset] [(.long (0 : Int64))])) _
        exact k)
      exact tail24 ⟨(0 : Int64), (by first | exact own_m (h := 0) (Or.inl rfl) | exact own_m (Or.inr rfl)), pre20⟩
  rintro ⟨j53_s0_21, hj53_22, pre23⟩
  have b3 := hj53_22
  have pre25 : Go p.tables e below S0 s₁ (mkF m 55 #[vJ q0, .second, vJ q1, .second, vJ q2, .second, vI p3, vI p4, vI p5, vJ j16_s0_5, .second, vJ j34_s0_13, .second, vJ j53_s0_21, .second, .unset, .unset, .unset, .unset] []) := fun t k => pre23 t (by
    refine XS.lstore X0.here hx rfl (hb hby at_53) rfl (l' := #[vJ q0, .second, vJ q1, .second, vJ q2, .second, vI p3, vI p4, vI p5, vJ j16_s0_5, .second, vJ j34_s0_13, .second, vJ j53_s0_21, .second, .unset, .unset, .unset, .unset]) rfl ?_
    show Steps p.tables e below (s₁.setTop (mkF m 55 #[vJ q0, .second, vJ q1, .second, vJ q2, .second, vI p3, vI p4, vI p5, vJ j16_s0_5, .second, vJ j34_s0_13, .second, vJ j53_s0_21, .second, .unset, .unset, .unset, .unset] [])) _
    exact k)
  obtain ⟨T26, h26, X26, e26, E26, A26, D26, -, st26⟩ := newO X0 hx hZ hown (hw _ (List.mem_of_getElem? (i := 1) rfl)) (hw _ (List.mem_of_getElem? (i := 2) rfl)) (hw _ (List.mem_of_getElem? (i := 3) rfl)) e0 (g := (mkF m 55 #[vJ q0, .second, vJ q1, .second, vJ q2, .second, vI p3, vI p4, vI p5, vJ j16_s0_5, .second, vJ j34_s0_13, .second, vJ j53_s0_21, .second, .unset, .unset, .unset, .unset] [])) rfl (hb hby at_55) (by decide) (by decide)
  obtain ⟨b26, g26⟩ : ∃ z, z = h0.size := ⟨_, rfl⟩
  rw [← g26] at A26 D26 st26
  have pre26 : Go p.tables e below S0 T26 (mkF m 58 #[vJ q0, .second, vJ q1, .second, vJ q2, .second, vI p3, vI p4, vI p5, vJ j16_s0_5, .second, vJ j34_s0_13, .second, vJ j53_s0_21, .second, .unset, .unset, .unset, .unset] [(.ref b26)]) := fun t k => pre25 t (st26 t k)
  have bo26 : n0 ≤ b26 := Nat.le_trans Z0 (Nat.le_of_eq g26.symm)
  have zz28 : n0 ≤ h26.size := Nat.le_trans Z0 E26.1
  have fn26_heartbeatUs : Fld Z h26 b26 "com/example/scalecast/scalecast/SchedulerCosts" "heartbeatUs" "J" (.long (0 : Int64)) := D26 (Or.inr (hw _ (List.mem_of_getElem? (i := 16) rfl))) (ty := .long) (by decide)
  have fn26_visitUs : Fld Z h26 b26 "com/example/scalecast/scalecast/SchedulerCosts" "visitUs" "J" (.long (0 : Int64)) := D26 (Or.inr (hw _ (List.mem_of_getElem? (i := 18) rfl))) (ty := .long) (by decide)
  have fn26_allocationUs : Fld Z h26 b26 "com/example/scalecast/scalecast/SchedulerCosts" "allocationUs" "J" (.long (0 : Int64)) := D26 (Or.inr (hw _ (List.mem_of_getElem? (i := 20) rfl))) (ty := .long) (by decide)
  have pre29 : Go p.tables e below S0 T26 (mkF m 65 #[vJ q0, .second, vJ q1, .second, vJ q2, .second, vI p3, vI p4, vI p5, vJ j16_s0_5, .second, vJ j34_s0_13, .second, vJ j53_s0_21, .second, .unset, .unset, .unset, .unset] [(.long j53_s0_21), (.long j34_s0_13), (.long j16_s0_5), (.ref b26), (.ref b26)]) := fun t k => pre26 t (by
    refine XS.dup X26.here hx rfl (hb hby at_58) rfl rfl ?_
    show Steps p.tables e below (T26.setTop (mkF m 59 #[vJ q0, .second, vJ q1, .second, vJ q2, .second, vI p3, vI p4, vI p5, vJ j16_s0_5, .second, vJ j34_s0_13, .second, vJ j53_s0_21, .second, .unset, .unset, .unset, .unset] [(.ref b26), (.ref b26)])) _
    refine XS.lload X26.here hx rfl (hb hby at_59) rfl ?_
    show Steps p.tables e below (T26.setTop (mkF m 61 #[vJ q0, .second, vJ q1, .second, vJ q2, .second, vI p3, vI p4, vI p5, vJ j16_s0_5, .second, vJ j34_s0_13, .second, vJ j53_s0_21, .second, .unset, .unset, .unset, .unset] [(.long j16_s0_5), (.ref b26), (.ref b26)])) _
    refine XS.lload X26.here hx rfl (hb hby at_61) rfl ?_
    show Steps p.tables e below (T26.setTop (mkF m 63 #[vJ q0, .second, vJ q1, .second, vJ q2, .second, vI p3, vI p4, vI p5, vJ j16_s0_5, .second, vJ j34_s0_13, .second, vJ j53_s0_21, .second, .unset, .unset, .unset, .unset] [(.long j34_s0_13), (.long j16_s0_5), (.ref b26), (.ref b26)])) _
    refine XS.lload X26.here hx rfl (hb hby at_63) rfl ?_
    show Steps p.tables e below (T26.setTop (mkF m 65 #[vJ q0, .second, vJ q1, .second, vJ q2, .second, vI p3, vI p4, vI p5, vJ j16_s0_5, .second, vJ j34_s0_13, .second, vJ j53_s0_21, .second, .unset, .unset, .unset, .unset] [(.long j53_s0_21), (.long j34_s0_13), (.long j16_s0_5), (.ref b26), (.ref b26)])) _
    exact k)
  obtain ⟨_, _, ⟨T30, L30, k30, n30⟩, -, X30, ⟨Lc30, hQ30, l30, y30, z30⟩, st30⟩ := X26.specialBack hx (y := (⟨"com/example/scalecast/scalecast/SchedulerCosts", "<init>", "(JJJ)V"⟩ : MethodName)) rfl hown (mvT hZ (hw _ (List.mem_of_getElem? (i := 4) rfl))) (mvT hZ (hw _ (List.mem_of_getElem? (i := 5) rfl))) (mvT hZ (hw _ (List.mem_of_getElem? (i := 6) rfl))) (by decide) (backOf (W := 1) (rm1 l Z A0 hw [] b26 j16_s0_5 j34_s0_13 j53_s0_21 h26 n0 zz28 A26 fn26_heartbeatUs fn26_visitUs fn26_allocationUs bo26 (own_nn b1) (own_nn b2) (own_nn b3)) hZ (hw _ (List.mem_of_getElem? (i := 6) rfl)) (hw _ (List.mem_of_getElem? (i := 3) rfl)) (by decide) (by decide)) (g := (mkF m 65 #[vJ q0, .second, vJ q1, .second, vJ q2, .second, vI p3, vI p4, vI p5, vJ j16_s0_5, .second, vJ j34_s0_13, .second, vJ j53_s0_21, .second, .unset, .unset, .unset, .unset] [(.long j53_s0_21), (.long j34_s0_13), (.long j16_s0_5), (.ref b26), (.ref b26)])) rfl (by rw [hml]; rfl) (Steps.refl _) (a := b26) (argsL := [(.long j16_s0_5), (.long j34_s0_13), (.long j53_s0_21)]) (rest := [(.ref b26)]) (lenOf pd_4 rfl) rfl (by show 2 * 0 + _ ≤ _; exact Nat.le_of_eq rfl) (hb hby at_65) (fun _ _ => ⟨rfl, e26, (by decide : 1 + 0 ≤ _), (by decide : 3 + 0 ≤ _)⟩)
  dsimp only [Pt.U, Pt.locs, Pt.cells, Pt.slots] at X30 l30 y30 z30 st30 hQ30
  subst l30 y30 z30
  obtain ⟨rfl, Nq30, Kq30, nf30_0, nf30_1, nf30_2, nf30_3⟩ := hQ30
  have N30 := Fr.app N0 Nq30
  have pre30 : Go p.tables e below S0 T30 (mkF m 68 #[vJ q0, .second, vJ q1, .second, vJ q2, .second, vI p3, vI p4, vI p5, vJ j16_s0_5, .second, vJ j34_s0_13, .second, vJ j53_s0_21, .second, .unset, .unset, .unset, .unset] [(.ref b26)]) := fun t k => pre29 t (st30.trans k)
  have zz32 : n0 ≤ T30.heap.size := Nat.le_trans zz28 Kq30.1
  have pre33 : Go p.tables e below S0 T30 (mkF m 72 #[vJ q0, .second, vJ q1, .second, vJ q2, .second, vI p3, vI p4, vI p5, vJ j16_s0_5, .second, vJ j34_s0_13, .second, vJ j53_s0_21, .second, vR b26, .unset, .unset, .unset] [(.ref b26)]) := fun t k => pre30 t (by
    refine XS.astore X30.here hx rfl (hb hby at_68) rfl rfl (l' := #[vJ q0, .second, vJ q1, .second, vJ q2, .second, vI p3, vI p4, vI p5, vJ j16_s0_5, .second, vJ j34_s0_13, .second, vJ j53_s0_21, .second, vR b26, .unset, .unset, .unset]) rfl ?_
    show Steps p.tables e below (T30.setTop (mkF m 70 #[vJ q0, .second, vJ q1, .second, vJ q2, .second, vI p3, vI p4, vI p5, vJ j16_s0_5, .second, vJ j34_s0_13, .second, vJ j53_s0_21, .second, vR b26, .unset, .unset, .unset] [])) _
    refine XS.aload X30.here hx rfl (hb hby at_70) rfl rfl ?_
    show Steps p.tables e below (T30.setTop (mkF m 72 #[vJ q0, .second, vJ q1, .second, vJ q2, .second, vI p3, vI p4, vI p5, vJ j16_s0_5, .second, vJ j34_s0_13, .second, vJ j53_s0_21, .second, vR b26, .unset, .unset, .unset] [(.ref b26)])) _
    exact k)
  obtain ⟨cq34, kq34, qa34, qb34, qc34⟩ := isOf hZ rfl nf30_0
  obtain ⟨_, _, ⟨T34, L34, k34, n34⟩, -, X34, ⟨Lc34, hQ34, l34, y34, z34⟩, st34⟩ := X30.virtualBack hx (y := (⟨"com/example/scalecast/scalecast/SchedulerCosts", "free", "()Z"⟩ : MethodName)) (z := (⟨"com/example/scalecast/scalecast/SchedulerCosts", "free", "()Z"⟩ : MethodName)) hown (mvT hZ (hw _ (List.mem_of_getElem? (i := 21) rfl))) (mvT hZ (hw _ (List.mem_of_getElem? (i := 22) rfl))) (notFace_of_selects (args := #[]) (mvT hZ (hw _ (List.mem_of_getElem? (i := 24) rfl)))) (mvT hZ (hw _ (List.mem_of_getElem? (i := 24) rfl))) (mvT hZ (hw _ (List.mem_of_getElem? (i := 23) rfl))) (by decide) (backOf (W := 0) (rm4 l Z A0 hw [] b26 j16_s0_5 j34_s0_13 j53_s0_21 T30.heap n0 zz32 nf30_1 nf30_2 nf30_3) hZ (hw _ (List.mem_of_getElem? (i := 25) rfl)) (hw _ (List.mem_of_getElem? (i := 3) rfl)) (by decide) (by decide)) qa34 qc34 (g := (mkF m 72 #[vJ q0, .second, vJ q1, .second, vJ q2, .second, vI p3, vI p4, vI p5, vJ j16_s0_5, .second, vJ j34_s0_13, .second, vJ j53_s0_21, .second, vR b26, .unset, .unset, .unset] [(.ref b26)])) rfl (by rw [hml]; rfl) (Steps.refl _) (argsL := []) (rest := []) (lenOf pd_5 rfl) rfl (by show 2 * 0 + _ ≤ _; exact Nat.le_of_eq rfl) (hb hby at_72) (fun _ _ => ⟨rfl, rfl, (by decide : 1 + 0 ≤ _), (by decide : 3 + 0 ≤ _)⟩)
  dsimp only [Pt.U, Pt.locs, Pt.cells, Pt.slots] at X34 l34 y34 z34 st34 hQ34
  subst l34 y34 z34
  obtain ⟨rfl, Nq34, eq34⟩ := hQ34
  have N34 := Fr.app N30 Nq34
  have pre34 : Go p.tables e below S0 T34 (mkF m 75 #[vJ q0, .second, vJ q1, .second, vJ q2, .second, vI p3, vI p4, vI p5, vJ j16_s0_5, .second, vJ j34_s0_13, .second, vJ j53_s0_21, .second, vR b26, .unset, .unset, .unset] [(.int (own_free j16_s0_5 j34_s0_13 j53_s0_21))]) := fun t k => pre33 t (st34.trans k)
  have pre35 : Go p.tables e below S0 T34 (mkF m 81 #[vJ q0, .second, vJ q1, .second, vJ q2, .second, vI p3, vI p4, vI p5, vJ j16_s0_5, .second, vJ j34_s0_13, .second, vJ j53_s0_21, .second, vR b26, vI (own_free j16_s0_5 j34_s0_13 j53_s0_21), .unset, .unset] [(.int (1 : Int32)), (.int (1 : Int32)), (.ref b26)]) := fun t k => pre34 t (by
    refine XS.istore X34.here hx rfl (hb hby at_75) rfl (l' := #[vJ q0, .second, vJ q1, .second, vJ q2, .second, vI p3, vI p4, vI p5, vJ j16_s0_5, .second, vJ j34_s0_13, .second, vJ j53_s0_21, .second, vR b26, vI (own_free j16_s0_5 j34_s0_13 j53_s0_21), .unset, .unset]) rfl ?_
    show Steps p.tables e below (T34.setTop (mkF m 77 #[vJ q0, .second, vJ q1, .second, vJ q2, .second, vI p3, vI p4, vI p5, vJ j16_s0_5, .second, vJ j34_s0_13, .second, vJ j53_s0_21, .second, vR b26, vI (own_free j16_s0_5 j34_s0_13 j53_s0_21), .unset, .unset] [])) _
    refine XS.aload X34.here hx rfl (hb hby at_77) rfl rfl ?_
    show Steps p.tables e below (T34.setTop (mkF m 79 #[vJ q0, .second, vJ q1, .second, vJ q2, .second, vI p3, vI p4, vI p5, vJ j16_s0_5, .second, vJ j34_s0_13, .second, vJ j53_s0_21, .second, vR b26, vI (own_free j16_s0_5 j34_s0_13 j53_s0_21), .unset, .unset] [(.ref b26)])) _
    refine XS.iconst X34.here hx rfl (hb hby at_79) ?_
    show Steps p.tables e below (T34.setTop (mkF m 80 #[vJ q0, .second, vJ q1, .second, vJ q2, .second, vI p3, vI p4, vI p5, vJ j16_s0_5, .second, vJ j34_s0_13, .second, vJ j53_s0_21, .second, vR b26, vI (own_free j16_s0_5 j34_s0_13 j53_s0_21), .unset, .unset] [(.int (1 : Int32)), (.ref b26)])) _
    refine XS.iconst X34.here hx rfl (hb hby at_80) ?_
    show Steps p.tables e below (T34.setTop (mkF m 81 #[vJ q0, .second, vJ q1, .second, vJ q2, .second, vI p3, vI p4, vI p5, vJ j16_s0_5, .second, vJ j34_s0_13, .second, vJ j53_s0_21, .second, vR b26, vI (own_free j16_s0_5 j34_s0_13 j53_s0_21), .unset, .unset] [(.int (1 : Int32)), (.int (1 : Int32)), (.ref b26)])) _
    exact k)
  have P1 := own_prems (h := j16_s0_5) (v := j34_s0_13) (a := j53_s0_21) (x := (1 : Int32)) (y := (1 : Int32)) (by omega) (by omega) (by show _ ∧ _; rw [show (1 : Int32).toInt = 1 from rfl]; omega) (by rw [show (1 : Int32).toInt = 1 from rfl]; omega) (by rw [show (1 : Int32).toInt = 1 from rfl]; omega)
  obtain ⟨cq36, kq36, qa36, qb36, qc36⟩ := isOf hZ eq34 nf30_0
  obtain ⟨_, _, ⟨T36, L36, k36, n36⟩, -, X36, ⟨Lc36, hQ36, l36, y36, z36⟩, st36⟩ := X34.virtualBack hx (y := (⟨"com/example/scalecast/scalecast/SchedulerCosts", "passUs", "(II)J"⟩ : MethodName)) (z := (⟨"com/example/scalecast/scalecast/SchedulerCosts", "passUs", "(II)J"⟩ : MethodName)) hown (mvT hZ (hw _ (List.mem_of_getElem? (i := 26) rfl))) (mvT hZ (hw _ (List.mem_of_getElem? (i := 27) rfl))) (notFace_of_selects (args := #[]) (mvT hZ (hw _ (List.mem_of_getElem? (i := 29) rfl)))) (mvT hZ (hw _ (List.mem_of_getElem? (i := 29) rfl))) (mvT hZ (hw _ (List.mem_of_getElem? (i := 28) rfl))) (by decide) (backOf (W := 0) (rm5 l Z A0 hw [] b26 (1 : Int32) (1 : Int32) j16_s0_5 j34_s0_13 j53_s0_21 T30.heap n0 zz32 nf30_1 nf30_2 nf30_3 P1.1 P1.2.1 P1.2.2.1 P1.2.2.2.1 P1.2.2.2.2.1 P1.2.2.2.2.2.1) hZ (hw _ (List.mem_of_getElem? (i := 30) rfl)) (hw _ (List.mem_of_getElem? (i := 3) rfl)) (by decide) (by decide)) qa36 qc36 (g := (mkF m 81 #[vJ q0, .second, vJ q1, .second, vJ q2, .second, vI p3, vI p4, vI p5, vJ j16_s0_5, .second, vJ j34_s0_13, .second, vJ j53_s0_21, .second, vR b26, vI (own_free j16_s0_5 j34_s0_13 j53_s0_21), .unset, .unset] [(.int (1 : Int32)), (.int (1 : Int32)), (.ref b26)])) rfl (by rw [hml]; rfl) (Steps.refl _) (argsL := [(.int (1 : Int32)), (.int (1 : Int32))]) (rest := []) (lenOf pd_6 rfl) rfl (by show 2 * 0 + _ ≤ _; exact Nat.le_of_eq rfl) (hb hby at_81) (fun _ _ => ⟨rfl, eq34, (by decide : 1 + 0 ≤ _), (by decide : 3 + 0 ≤ _)⟩)
  dsimp only [Pt.U, Pt.locs, Pt.cells, Pt.slots] at X36 l36 y36 z36 st36 hQ36
  subst l36 y36 z36
  obtain ⟨rfl, Nq36, eq36⟩ := hQ36
  have N36 := Fr.app N34 Nq36
  have pre36 : Go p.tables e below S0 T36 (mkF m 84 #[vJ q0, .second, vJ q1, .second, vJ q2, .second, vI p3, vI p4, vI p5, vJ j16_s0_5, .second, vJ j34_s0_13, .second, vJ j53_s0_21, .second, vR b26, vI (own_free j16_s0_5 j34_s0_13 j53_s0_21), .unset, .unset] [(.long (own_pass j16_s0_5 j34_s0_13 j53_s0_21 (1 : Int32) (1 : Int32)))]) := fun t k => pre35 t (st36.trans k)
  have pre37 : Go p.tables e below S0 T36 (mkF m 92 #[vJ q0, .second, vJ q1, .second, vJ q2, .second, vI p3, vI p4, vI p5, vJ j16_s0_5, .second, vJ j34_s0_13, .second, vJ j53_s0_21, .second, vR b26, vI (own_free j16_s0_5 j34_s0_13 j53_s0_21), vJ (own_pass j16_s0_5 j34_s0_13 j53_s0_21 (1 : Int32) (1 : Int32)), .second] [(.int (lcmpW (own_pass j16_s0_5 j34_s0_13 j53_s0_21 (1 : Int32) (1 : Int32)) (0 : Int64))), (.int (own_free j16_s0_5 j34_s0_13 j53_s0_21))]) := fun t k => pre36 t (by
    refine XS.lstore X36.here hx rfl (hb hby at_84) rfl (l' := #[vJ q0, .second, vJ q1, .second, vJ q2, .second, vI p3, vI p4, vI p5, vJ j16_s0_5, .second, vJ j34_s0_13, .second, vJ j53_s0_21, .second, vR b26, vI (own_free j16_s0_5 j34_s0_13 j53_s0_21), vJ (own_pass j16_s0_5 j34_s0_13 j53_s0_21 (1 : Int32) (1 : Int32)), .second]) rfl ?_
    show Steps p.tables e below (T36.setTop (mkF m 86 #[vJ q0, .second, vJ q1, .second, vJ q2, .second, vI p3, vI p4, vI p5, vJ j16_s0_5, .second, vJ j34_s0_13, .second, vJ j53_s0_21, .second, vR b26, vI (own_free j16_s0_5 j34_s0_13 j53_s0_21), vJ (own_pass j16_s0_5 j34_s0_13 j53_s0_21 (1 : Int32) (1 : Int32)), .second] [])) _
    refine XS.iload X36.here hx rfl (hb hby at_86) rfl ?_
    show Steps p.tables e below (T36.setTop (mkF m 88 #[vJ q0, .second, vJ q1, .second, vJ q2, .second, vI p3, vI p4, vI p5, vJ j16_s0_5, .second, vJ j34_s0_13, .second, vJ j53_s0_21, .second, vR b26, vI (own_free j16_s0_5 j34_s0_13 j53_s0_21), vJ (own_pass j16_s0_5 j34_s0_13 j53_s0_21 (1 : Int32) (1 : Int32)), .second] [(.int (own_free j16_s0_5 j34_s0_13 j53_s0_21))])) _
    refine XS.lload X36.here hx rfl (hb hby at_88) rfl ?_
    show Steps p.tables e below (T36.setTop (mkF m 90 #[vJ q0, .second, vJ q1, .second, vJ q2, .second, vI p3, vI p4, vI p5, vJ j16_s0_5, .second, vJ j34_s0_13, .second, vJ j53_s0_21, .second, vR b26, vI (own_free j16_s0_5 j34_s0_13 j53_s0_21), vJ (own_pass j16_s0_5 j34_s0_13 j53_s0_21 (1 : Int32) (1 : Int32)), .second] [(.long (own_pass j16_s0_5 j34_s0_13 j53_s0_21 (1 : Int32) (1 : Int32))), (.int (own_free j16_s0_5 j34_s0_13 j53_s0_21))])) _
    refine XS.lconst X36.here hx rfl (hb hby at_90) ?_
    show Steps p.tables e below (T36.setTop (mkF m 91 #[vJ q0, .second, vJ q1, .second, vJ q2, .second, vI p3, vI p4, vI p5, vJ j16_s0_5, .second, vJ j34_s0_13, .second, vJ j53_s0_21, .second, vR b26, vI (own_free j16_s0_5 j34_s0_13 j53_s0_21), vJ (own_pass j16_s0_5 j34_s0_13 j53_s0_21 (1 : Int32) (1 : Int32)), .second] [(.long (0 : Int64)), (.long (own_pass j16_s0_5 j34_s0_13 j53_s0_21 (1 : Int32) (1 : Int32))), (.int (own_free j16_s0_5 j34_s0_13 j53_s0_21))])) _
    refine XS.lcmp X36.here hx rfl (hb hby at_91) rfl ?_
    show Steps p.tables e below (T36.setTop (mkF m 92 #[vJ q0, .second, vJ q1, .second, vJ q2, .second, vI p3, vI p4, vI p5, vJ j16_s0_5, .second, vJ j34_s0_13, .second, vJ j53_s0_21, .second, vR b26, vI (own_free j16_s0_5 j34_s0_13 j53_s0_21), vJ (own_pass j16_s0_5 j34_s0_13 j53_s0_21 (1 : Int32) (1 : Int32)), .second] [(.int (lcmpW (own_pass j16_s0_5 j34_s0_13 j53_s0_21 (1 : Int32) (1 : Int32)) (0 : Int64))), (.int (own_free j16_s0_5 j34_s0_13 j53_s0_21))])) _
    exact k)
  refine cps (A := ∃ (j100_s0_41 : Int32), (((j100_s0_41 = (1 : Int32)) ∧ ((own_pass j16_s0_5 j34_s0_13 j53_s0_21 (1 : Int32) (1 : Int32)) = (0 : Int64))) ∨ ((j100_s0_41 = (0 : Int32)) ∧ (¬ ((own_pass j16_s0_5 j34_s0_13 j53_s0_21 (1 : Int32) (1 : Int32)) = (0 : Int64))))) ∧ (Go p.tables e below S0 T36 (mkF m 100 #[vJ q0, .second, vJ q1, .second, vJ q2, .second, vI p3, vI p4, vI p5, vJ j16_s0_5, .second, vJ j34_s0_13, .second, vJ j53_s0_21, .second, vR b26, vI (own_free j16_s0_5 j34_s0_13 j53_s0_21), vJ (own_pass j16_s0_5 j34_s0_13 j53_s0_21 (1 : Int32) (1 : Int32)), .second] [(.int j100_s0_41), (.int (own_free j16_s0_5 j34_s0_13 j53_s0_21))]))) (fun tail44 => ?_) ?_
  · skip
    by_cases c92_38 : (own_pass j16_s0_5 j34_s0_13 j53_s0_21 (1 : Int32) (1 : Int32)) = (0 : Int64)
    · skip
      have pre39 : Go p.tables e below S0 T36 (mkF m 100 #[vJ q0, .second, vJ q1, .second, vJ q2, .second, vI p3, vI p4, vI p5, vJ j16_s0_5, .second, vJ j34_s0_13, .second, vJ j53_s0_21, .second, vR b26, vI (own_free j16_s0_5 j34_s0_13 j53_s0_21), vJ (own_pass j16_s0_5 j34_s0_13 j53_s0_21 (1 : Int32) (1 : Int32)), .second] [(.int (1 : Int32)), (.int (own_free j16_s0_5 j34_s0_13 j53_s0_21))]) := fun t k => pre37 t (by
        refine XS.ifNo X36.here hx rfl (hb hby at_92) rfl ((if0 _ _).trans (teq ((lw_eq _ _).mpr c92_38)).2) ?_
        show Steps p.tables e below (T36.setTop (mkF m 95 #[vJ q0, .second, vJ q1, .second, vJ q2, .second, vI p3, vI p4, vI p5, vJ j16_s0_5, .second, vJ j34_s0_13, .second, vJ j53_s0_21, .second, vR b26, vI (own_free j16_s0_5 j34_s0_13 j53_s0_21), vJ (own_pass j16_s0_5 j34_s0_13 j53_s0_21 (1 : Int32) (1 : Int32)), .second] [(.int (own_free j16_s0_5 j34_s0_13 j53_s0_21))])) _
        refine XS.iconst X36.here hx rfl (hb hby at_95) ?_
        show Steps p.tables e below (T36.setTop (mkF m 96 #[vJ q0, .second, vJ q1, .second, vJ q2, .second, vI p3, vI p4, vI p5, vJ j16_s0_5, .second, vJ j34_s0_13, .second, vJ j53_s0_21, .second, vR b26, vI (own_free j16_s0_5 j34_s0_13 j53_s0_21), vJ (own_pass j16_s0_5 j34_s0_13 j53_s0_21 (1 : Int32) (1 : Int32)), .second] [(.int (1 : Int32)), (.int (own_free j16_s0_5 j34_s0_13 j53_s0_21))])) _
        refine XS.goto X36.here hx rfl (pc0 := 96) (pc' := 100) rfl (hb hby at_96) (by decide) (by decide) ?_
        show Steps p.tables e below (T36.setTop (mkF m 100 #[vJ q0, .second, vJ q1, .second, vJ q2, .second, vI p3, vI p4, vI p5, vJ j16_s0_5, .second, vJ j34_s0_13, .second, vJ j53_s0_21, .second, vR b26, vI (own_free j16_s0_5 j34_s0_13 j53_s0_21), vJ (own_pass j16_s0_5 j34_s0_13 j53_s0_21 (1 : Int32) (1 : Int32)), .second] [(.int (1 : Int32)), (.int (own_free j16_s0_5 j34_s0_13 j53_s0_21))])) _
        exact k)
      exact tail44 ⟨(1 : Int32), (Or.inl ⟨rfl, c92_38⟩), pre39⟩
    · skip
      have pre40 : Go p.tables e below S0 T36 (mkF m 100 #[vJ q0, .second, vJ q1, .second, vJ q2, .second, vI p3, vI p4, vI p5, vJ j16_s0_5, .second, vJ j34_s0_13, .second, vJ j53_s0_21, .second, vR b26, vI (own_free j16_s0_5 j34_s0_13 j53_s0_21), vJ (own_pass j16_s0_5 j34_s0_13 j53_s0_21 (1 : Int32) (1 : Int32)), .second] [(.int (0 : Int32)), (.int (own_free j16_s0_5 j34_s0_13 j53_s0_21))]) := fun t k => pre37 t (by
        refine XS.ifYes X36.here hx rfl (pc0 := 92) (pc' := 99) rfl (hb hby at_92) rfl ((if0 _ _).trans (feq (fun q => c92_38 ((lw_eq _ _).mp q))).2) (by decide) (by decide) ?_
        show Steps p.tables e below (T36.setTop (mkF m 99 #[vJ q0, .second, vJ q1, .second, vJ q2, .second, vI p3, vI p4, vI p5, vJ j16_s0_5, .second, vJ j34_s0_13, .second, vJ j53_s0_21, .second, vR b26, vI (own_free j16_s0_5 j34_s0_13 j53_s0_21), vJ (own_pass j16_s0_5 j34_s0_13 j53_s0_21 (1 : Int32) (1 : Int32)), .second] [(.int (own_free j16_s0_5 j34_s0_13 j53_s0_21))])) _
        refine XS.iconst X36.here hx rfl (hb hby at_99) ?_
        show Steps p.tables e below (T36.setTop (mkF m 100 #[vJ q0, .second, vJ q1, .second, vJ q2, .second, vI p3, vI p4, vI p5, vJ j16_s0_5, .second, vJ j34_s0_13, .second, vJ j53_s0_21, .second, vR b26, vI (own_free j16_s0_5 j34_s0_13 j53_s0_21), vJ (own_pass j16_s0_5 j34_s0_13 j53_s0_21 (1 : Int32) (1 : Int32)), .second] [(.int (0 : Int32)), (.int (own_free j16_s0_5 j34_s0_13 j53_s0_21))])) _
        exact k)
      exact tail44 ⟨(0 : Int32), (Or.inr ⟨rfl, c92_38⟩), pre40⟩
  rintro ⟨j100_s0_41, hj100_42, pre43⟩
  have key := own_k1 b1 b2 b3 P1.2.2.2.2.2.2 hj100_42
  have cc45 : (own_free j16_s0_5 j34_s0_13 j53_s0_21) = j100_s0_41 := key
  have pre46 : Go p.tables e below S0 T36 (mkF m 107 #[vJ q0, .second, vJ q1, .second, vJ q2, .second, vI p3, vI p4, vI p5, vJ j16_s0_5, .second, vJ j34_s0_13, .second, vJ j53_s0_21, .second, vR b26, vI (own_free j16_s0_5 j34_s0_13 j53_s0_21), vJ (own_pass j16_s0_5 j34_s0_13 j53_s0_21 (1 : Int32) (1 : Int32)), .second] [(.int (own_free j16_s0_5 j34_s0_13 j53_s0_21))]) := fun t k => pre43 t (by
    refine XS.icmpYes X36.here hx rfl (pc0 := 100) (pc' := 105) rfl (hb hby at_100) rfl (teq cc45).1 (by decide) (by decide) ?_
    show Steps p.tables e below (T36.setTop (mkF m 105 #[vJ q0, .second, vJ q1, .second, vJ q2, .second, vI p3, vI p4, vI p5, vJ j16_s0_5, .second, vJ j34_s0_13, .second, vJ j53_s0_21, .second, vR b26, vI (own_free j16_s0_5 j34_s0_13 j53_s0_21), vJ (own_pass j16_s0_5 j34_s0_13 j53_s0_21 (1 : Int32) (1 : Int32)), .second] [])) _
    refine XS.iload X36.here hx rfl (hb hby at_105) rfl ?_
    show Steps p.tables e below (T36.setTop (mkF m 107 #[vJ q0, .second, vJ q1, .second, vJ q2, .second, vI p3, vI p4, vI p5, vJ j16_s0_5, .second, vJ j34_s0_13, .second, vJ j53_s0_21, .second, vR b26, vI (own_free j16_s0_5 j34_s0_13 j53_s0_21), vJ (own_pass j16_s0_5 j34_s0_13 j53_s0_21 (1 : Int32) (1 : Int32)), .second] [(.int (own_free j16_s0_5 j34_s0_13 j53_s0_21))])) _
    exact k)
  by_cases c107_47 : (own_free j16_s0_5 j34_s0_13 j53_s0_21) = (0 : Int32)
  · skip
    have pre48 : Go p.tables e below S0 T36 (mkF m 131 #[vJ q0, .second, vJ q1, .second, vJ q2, .second, vI p3, vI p4, vI p5, vJ j16_s0_5, .second, vJ j34_s0_13, .second, vJ j53_s0_21, .second, vR b26, vI (own_free j16_s0_5 j34_s0_13 j53_s0_21), vJ (own_pass j16_s0_5 j34_s0_13 j53_s0_21 (1 : Int32) (1 : Int32)), .second] [(.int (1 : Int32))]) := fun t k => pre46 t (by
      refine XS.ifYes X36.here hx rfl (pc0 := 107) (pc' := 130) rfl (hb hby at_107) rfl ((if0 _ _).trans (teq c107_47).1) (by decide) (by decide) ?_
      show Steps p.tables e below (T36.setTop (mkF m 130 #[vJ q0, .second, vJ q1, .second, vJ q2, .second, vI p3, vI p4, vI p5, vJ j16_s0_5, .second, vJ j34_s0_13, .second, vJ j53_s0_21, .second, vR b26, vI (own_free j16_s0_5 j34_s0_13 j53_s0_21), vJ (own_pass j16_s0_5 j34_s0_13 j53_s0_21 (1 : Int32) (1 : Int32)), .second] [])) _
      refine XS.iconst X36.here hx rfl (hb hby at_130) ?_
      show Steps p.tables e below (T36.setTop (mkF m 131 #[vJ q0, .second, vJ q1, .second, vJ q2, .second, vI p3, vI p4, vI p5, vJ j16_s0_5, .second, vJ j34_s0_13, .second, vJ j53_s0_21, .second, vR b26, vI (own_free j16_s0_5 j34_s0_13 j53_s0_21), vJ (own_pass j16_s0_5 j34_s0_13 j53_s0_21 (1 : Int32) (1 : Int32)), .second] [(.int (1 : Int32))])) _
      exact k)
    obtain ⟨fs, hr, hrun, hended, hW, hsame⟩ := X36.leave (v := some (.int (1 : Int32))) (fun h => by rw [Bd.returns] at h; cases h)
    exact ⟨_, _, pre48.fin hS0 (retN X36 hx (t := .boolean) Bd.returns (by simp) (hb hby at_131) hr), hrun, hended, _, _, rfl, (by
      show Q0 Z q0 q1 q2 p3 p4 p5 h0 n0 _ T36.heap _
      rw [eq36]
      exact ⟨rfl, N36⟩), ⟨_, rfl⟩, hW, hsame.mono (by decide) (by decide)⟩
  · skip
    have pre49 : Go p.tables e below S0 T36 (mkF m 116 #[vJ q0, .second, vJ q1, .second, vJ q2, .second, vI p3, vI p4, vI p5, vJ j16_s0_5, .second, vJ j34_s0_13, .second, vJ j53_s0_21, .second, vR b26, vI (own_free j16_s0_5 j34_s0_13 j53_s0_21), vJ (own_pass j16_s0_5 j34_s0_13 j53_s0_21 (1 : Int32) (1 : Int32)), .second] [(.int p5), (.int p4), (.ref b26)]) := fun t k => pre46 t (by
      refine XS.ifNo X36.here hx rfl (hb hby at_107) rfl ((if0 _ _).trans (feq c107_47).1) ?_
      show Steps p.tables e below (T36.setTop (mkF m 110 #[vJ q0, .second, vJ q1, .second, vJ q2, .second, vI p3, vI p4, vI p5, vJ j16_s0_5, .second, vJ j34_s0_13, .second, vJ j53_s0_21, .second, vR b26, vI (own_free j16_s0_5 j34_s0_13 j53_s0_21), vJ (own_pass j16_s0_5 j34_s0_13 j53_s0_21 (1 : Int32) (1 : Int32)), .second] [])) _
      refine XS.aload X36.here hx rfl (hb hby at_110) rfl rfl ?_
      show Steps p.tables e below (T36.setTop (mkF m 112 #[vJ q0, .second, vJ q1, .second, vJ q2, .second, vI p3, vI p4, vI p5, vJ j16_s0_5, .second, vJ j34_s0_13, .second, vJ j53_s0_21, .second, vR b26, vI (own_free j16_s0_5 j34_s0_13 j53_s0_21), vJ (own_pass j16_s0_5 j34_s0_13 j53_s0_21 (1 : Int32) (1 : Int32)), .second] [(.ref b26)])) _
      refine XS.iload X36.here hx rfl (hb hby at_112) rfl ?_
      show Steps p.tables e below (T36.setTop (mkF m 114 #[vJ q0, .second, vJ q1, .second, vJ q2, .second, vI p3, vI p4, vI p5, vJ j16_s0_5, .second, vJ j34_s0_13, .second, vJ j53_s0_21, .second, vR b26, vI (own_free j16_s0_5 j34_s0_13 j53_s0_21), vJ (own_pass j16_s0_5 j34_s0_13 j53_s0_21 (1 : Int32) (1 : Int32)), .second] [(.int p4), (.ref b26)])) _
      refine XS.iload X36.here hx rfl (hb hby at_114) rfl ?_
      show Steps p.tables e below (T36.setTop (mkF m 116 #[vJ q0, .second, vJ q1, .second, vJ q2, .second, vI p3, vI p4, vI p5, vJ j16_s0_5, .second, vJ j34_s0_13, .second, vJ j53_s0_21, .second, vR b26, vI (own_free j16_s0_5 j34_s0_13 j53_s0_21), vJ (own_pass j16_s0_5 j34_s0_13 j53_s0_21 (1 : Int32) (1 : Int32)), .second] [(.int p5), (.int p4), (.ref b26)])) _
      exact k)
    obtain ⟨z1, z2, z3⟩ := own_k2 c107_47
    have y1 := own_z.mp z1
    have y2 := own_z.mp z2
    have y3 := own_z.mp z3
    have P2 := own_prems (h := j16_s0_5) (v := j34_s0_13) (a := j53_s0_21) (x := p4) (y := p5) (by omega) (by omega) (by rw [y2, Int.zero_mul]; decide) (by rw [y3, Int.zero_mul]; decide) (by rw [y1, y2, y3, Int.zero_mul, Int.zero_mul]; decide)
    obtain ⟨cq50, kq50, qa50, qb50, qc50⟩ := isOf hZ eq36 nf30_0
    obtain ⟨_, _, ⟨T50, L50, k50, n50⟩, -, X50, ⟨Lc50, hQ50, l50, y50, z50⟩, st50⟩ := X36.virtualBack hx (y := (⟨"com/example/scalecast/scalecast/SchedulerCosts", "passUs", "(II)J"⟩ : MethodName)) (z := (⟨"com/example/scalecast/scalecast/SchedulerCosts", "passUs", "(II)J"⟩ : MethodName)) hown (mvT hZ (hw _ (List.mem_of_getElem? (i := 26) rfl))) (mvT hZ (hw _ (List.mem_of_getElem? (i := 27) rfl))) (notFace_of_selects (args := #[]) (mvT hZ (hw _ (List.mem_of_getElem? (i := 29) rfl)))) (mvT hZ (hw _ (List.mem_of_getElem? (i := 29) rfl))) (mvT hZ (hw _ (List.mem_of_getElem? (i := 28) rfl))) (by decide) (backOf (W := 0) (rm5 l Z A0 hw [] b26 p4 p5 j16_s0_5 j34_s0_13 j53_s0_21 T30.heap n0 zz32 nf30_1 nf30_2 nf30_3 P2.1 P2.2.1 P2.2.2.1 P2.2.2.2.1 P2.2.2.2.2.1 P2.2.2.2.2.2.1) hZ (hw _ (List.mem_of_getElem? (i := 30) rfl)) (hw _ (List.mem_of_getElem? (i := 3) rfl)) (by decide) (by decide)) qa50 qc50 (g := (mkF m 116 #[vJ q0, .second, vJ q1, .second, vJ q2, .second, vI p3, vI p4, vI p5, vJ j16_s0_5, .second, vJ j34_s0_13, .second, vJ j53_s0_21, .second, vR b26, vI (own_free j16_s0_5 j34_s0_13 j53_s0_21), vJ (own_pass j16_s0_5 j34_s0_13 j53_s0_21 (1 : Int32) (1 : Int32)), .second] [(.int p5), (.int p4), (.ref b26)])) rfl (by rw [hml]; rfl) (Steps.refl _) (argsL := [(.int p4), (.int p5)]) (rest := []) (lenOf pd_6 rfl) rfl (by show 2 * 0 + _ ≤ _; exact Nat.le_of_eq rfl) (hb hby at_116) (fun _ _ => ⟨rfl, eq36, (by decide : 1 + 0 ≤ _), (by decide : 3 + 0 ≤ _)⟩)
    dsimp only [Pt.U, Pt.locs, Pt.cells, Pt.slots] at X50 l50 y50 z50 st50 hQ50
    subst l50 y50 z50
    obtain ⟨rfl, Nq50, eq50⟩ := hQ50
    have N50 := Fr.app N36 Nq50
    have pre50 : Go p.tables e below S0 T50 (mkF m 119 #[vJ q0, .second, vJ q1, .second, vJ q2, .second, vI p3, vI p4, vI p5, vJ j16_s0_5, .second, vJ j34_s0_13, .second, vJ j53_s0_21, .second, vR b26, vI (own_free j16_s0_5 j34_s0_13 j53_s0_21), vJ (own_pass j16_s0_5 j34_s0_13 j53_s0_21 (1 : Int32) (1 : Int32)), .second] [(.long (own_pass j16_s0_5 j34_s0_13 j53_s0_21 p4 p5))]) := fun t k => pre49 t (st50.trans k)
    have pre51 : Go p.tables e below S0 T50 (mkF m 121 #[vJ q0, .second, vJ q1, .second, vJ q2, .second, vI p3, vI p4, vI p5, vJ j16_s0_5, .second, vJ j34_s0_13, .second, vJ j53_s0_21, .second, vR b26, vI (own_free j16_s0_5 j34_s0_13 j53_s0_21), vJ (own_pass j16_s0_5 j34_s0_13 j53_s0_21 (1 : Int32) (1 : Int32)), .second] [(.int (lcmpW (own_pass j16_s0_5 j34_s0_13 j53_s0_21 p4 p5) (0 : Int64)))]) := fun t k => pre50 t (by
      refine XS.lconst X50.here hx rfl (hb hby at_119) ?_
      show Steps p.tables e below (T50.setTop (mkF m 120 #[vJ q0, .second, vJ q1, .second, vJ q2, .second, vI p3, vI p4, vI p5, vJ j16_s0_5, .second, vJ j34_s0_13, .second, vJ j53_s0_21, .second, vR b26, vI (own_free j16_s0_5 j34_s0_13 j53_s0_21), vJ (own_pass j16_s0_5 j34_s0_13 j53_s0_21 (1 : Int32) (1 : Int32)), .second] [(.long (0 : Int64)), (.long (own_pass j16_s0_5 j34_s0_13 j53_s0_21 p4 p5))])) _
      refine XS.lcmp X50.here hx rfl (hb hby at_120) rfl ?_
      show Steps p.tables e below (T50.setTop (mkF m 121 #[vJ q0, .second, vJ q1, .second, vJ q2, .second, vI p3, vI p4, vI p5, vJ j16_s0_5, .second, vJ j34_s0_13, .second, vJ j53_s0_21, .second, vR b26, vI (own_free j16_s0_5 j34_s0_13 j53_s0_21), vJ (own_pass j16_s0_5 j34_s0_13 j53_s0_21 (1 : Int32) (1 : Int32)), .second] [(.int (lcmpW (own_pass j16_s0_5 j34_s0_13 j53_s0_21 p4 p5) (0 : Int64)))])) _
      exact k)
    have cc52 : (own_pass j16_s0_5 j34_s0_13 j53_s0_21 p4 p5) = (0 : Int64) := by rw [z1, z2, z3]; exact own_k3 _ _
    have pre53 : Go p.tables e below S0 T50 (mkF m 129 #[vJ q0, .second, vJ q1, .second, vJ q2, .second, vI p3, vI p4, vI p5, vJ j16_s0_5, .second, vJ j34_s0_13, .second, vJ j53_s0_21, .second, vR b26, vI (own_free j16_s0_5 j34_s0_13 j53_s0_21), vJ (own_pass j16_s0_5 j34_s0_13 j53_s0_21 (1 : Int32) (1 : Int32)), .second] [(.int (1 : Int32))]) := fun t k => pre51 t (by
      refine XS.ifNo X50.here hx rfl (hb hby at_121) rfl ((if0 _ _).trans (teq ((lw_eq _ _).mpr cc52)).2) ?_
      show Steps p.tables e below (T50.setTop (mkF m 124 #[vJ q0, .second, vJ q1, .second, vJ q2, .second, vI p3, vI p4, vI p5, vJ j16_s0_5, .second, vJ j34_s0_13, .second, vJ j53_s0_21, .second, vR b26, vI (own_free j16_s0_5 j34_s0_13 j53_s0_21), vJ (own_pass j16_s0_5 j34_s0_13 j53_s0_21 (1 : Int32) (1 : Int32)), .second] [])) _
      refine XS.iconst X50.here hx rfl (hb hby at_124) ?_
      show Steps p.tables e below (T50.setTop (mkF m 125 #[vJ q0, .second, vJ q1, .second, vJ q2, .second, vI p3, vI p4, vI p5, vJ j16_s0_5, .second, vJ j34_s0_13, .second, vJ j53_s0_21, .second, vR b26, vI (own_free j16_s0_5 j34_s0_13 j53_s0_21), vJ (own_pass j16_s0_5 j34_s0_13 j53_s0_21 (1 : Int32) (1 : Int32)), .second] [(.int (1 : Int32))])) _
      refine XS.goto X50.here hx rfl (pc0 := 125) (pc' := 129) rfl (hb hby at_125) (by decide) (by decide) ?_
      show Steps p.tables e below (T50.setTop (mkF m 129 #[vJ q0, .second, vJ q1, .second, vJ q2, .second, vI p3, vI p4, vI p5, vJ j16_s0_5, .second, vJ j34_s0_13, .second, vJ j53_s0_21, .second, vR b26, vI (own_free j16_s0_5 j34_s0_13 j53_s0_21), vJ (own_pass j16_s0_5 j34_s0_13 j53_s0_21 (1 : Int32) (1 : Int32)), .second] [(.int (1 : Int32))])) _
      exact k)
    obtain ⟨fs, hr, hrun, hended, hW, hsame⟩ := X50.leave (v := some (.int (1 : Int32))) (fun h => by rw [Bd.returns] at h; cases h)
    exact ⟨_, _, pre53.fin hS0 (retN X50 hx (t := .boolean) Bd.returns (by simp) (hb hby at_129) hr), hrun, hended, _, _, rfl, (by
      show Q0 Z q0 q1 q2 p3 p4 p5 h0 n0 _ T50.heap _
      rw [eq50]
      exact ⟨rfl, N50⟩), ⟨_, rfl⟩, hW, hsame.mono (by decide) (by decide)⟩
set_option maxRecDepth 65536 in
set_option maxHeartbeats 40000000 in
theorem comes_1 {Post : Tables → Env → Array Value → State → Outcome → State → Prop} (hpost : ∀ tb e args s v u, (limb_1_1.after args s (.returned v) u = true ∧ limb_1_2.after args s (.returned v) u = true ∧ True) → FrameEnd s (.returned v) u (Jvm.fieldLocs frame_1_writes args s ++ Jvm.arrayLocs frame_1_arrays args s ++ Jvm.staticLocs frame_1_statics s) 16 128 → Post tb e args s (.returned v) u) :
    ArmFor flags0 classFile x code maxLocals ret World_1 tables_1 room_1 Calls_1 rest_1 Pre_1 Post := by
  intro l hfl _ _ p e ha hc hk s m args below hf hA hF happ hP
  obtain ⟨hcalls, hrest, hpre⟩ := hP
  obtain ⟨-, -, -, hnamed, -, -, -, hat⟩ := (Spec.applies_iff hf).mp happ
  obtain ⟨hg, hn⟩ := and_e (Cond.before_iff.mp (show (Jvm.Cond.and given_1 narrow_1).before args s = true from hpre))
  obtain ⟨g0, r0⟩ := and_e hg
  obtain ⟨g1, r1⟩ := and_e r0
  obtain ⟨g2, r2⟩ := and_e r1
  obtain ⟨g3, r3⟩ := and_e r2
  obtain ⟨g4, r4⟩ := and_e r3
  obtain ⟨g5, r5⟩ := and_e r4
  obtain ⟨w0, w1, w2, w3, w4, w5, rfl⟩ : ∃ w0 w1 w2 w3 w4 w5 : Value, args = #[w0, w1, w2, w3, w4, w5] := by
    have hs : args.size = 6 := by simpa [Cond.value, given_1] using g0
    obtain ⟨L⟩ := args
    match L, hs with
    | [w0, w1, w2, w3, w4, w5], _ => exact ⟨w0, w1, w2, w3, w4, w5, rfl⟩
  have hw := fun d (hd : d ∈ tables_1) => atoms_spec (ws := Jvm.Cond.code x code maxLocals ret :: tables_1) hat d (List.mem_cons_of_mem _ hd)
  obtain ⟨i0, ei0⟩ := isL_v g1
  obtain rfl : w0 = (.long i0) := Option.some.inj ei0
  obtain ⟨i1, ei1⟩ := isL_v g2
  obtain rfl : w1 = (.long i1) := Option.some.inj ei1
  obtain ⟨i2, ei2⟩ := isL_v g3
  obtain rfl : w2 = (.long i2) := Option.some.inj ei2
  obtain ⟨i3, ei3⟩ := is_v g4
  obtain rfl : w3 = (.int i3) := Option.some.inj ei3
  obtain ⟨i4, ei4⟩ := is_v g5
  obtain rfl : w4 = (.int i4) := Option.some.inj ei4
  obtain ⟨i5, ei5⟩ := is_v r5
  obtain rfl : w5 = (.int i5) := Option.some.inj ei5
  obtain ⟨n, o, h1, h2, h3, _, L, rfl, ⟨rfl, N⟩, hq⟩ := rm0 l s _ hw tables_1 i0 i1 i2 i3 i4 i5  s.heap s.heap.size (Nat.le_refl _) p e ha hc hk s m _ below hf ((Spec.applies_iff_loose hf).mp happ).1 ⟨rfl, State.Warmed39.refl s, rfl⟩ trivial
  refine ⟨n, _, h1, h2, h3, hpost _ _ _ _ _ _ ⟨Cond.after_iff.mpr rfl, Cond.after_iff.mpr (eq_i res_at (Term.int_eval (1)) rfl), trivial⟩ ⟨hq.1, hq.2.1, (hq.2.2.sift fun y hy => Or.inr (N y hy)).mono (by decide) (by decide)⟩⟩
theorem main_1_1 : Claimed_1_1 := comes_1 fun _ _ _ _ _ _ h hF => ⟨h.1, hF⟩
theorem main_1_2 : Claimed_1_2 := comes_1 fun _ _ _ _ _ _ h hF => ⟨h.2.1, hF⟩
end Jvm.Pilot.@@N@@
namespace Jvm.Pilot.@@N@@
open Jvm Jvm.ClassFile Sem Op Lib Jvm.Free Jvm.Stand Jvm.Pilot.@@N@@.Jvm.D
/-! MADE BY PROGRAM (witnessworld.py) out of the Statement's table words and the real class files: 11 classes; the members and pool entries that the words name. The judged class is class 1, her method 1. -/
namespace start1
open Jvm.ClassFile
def u (s : String) : CpInfo := .utf8 (stringToUtf16 s)
/-- a pool by its gaps: so many unusable entries, then the entry; so many at the end -/
def gap : Nat → List CpInfo → List CpInfo
  | 0, r => r
  | n + 1, r => .unusable :: gap n r
def poolList (es : List (Nat × CpInfo)) (last : Nat) : List CpInfo := es.foldr (fun e r => gap e.1 (e.2 :: r)) (gap last [])
def pool (es : List (Nat × CpInfo)) (last : Nat) : Array CpInfo := ⟨poolList es last⟩
def fileOf (pool : Array CpInfo) (this : Nat) (attrs : Array Attribute := #[]) (ms : Array MethodInfo := #[]) (fl : Nat := 33) (sup : Nat := 0) (ifs : Array Nat := #[]) (fds : Array FieldInfo := #[]) : ClassFile where
  minorVersion := 0
  majorVersion := 65
  constantPool := pool
  accessFlags := fl
  thisClass := this
  superClass := sup
  interfaces := ifs
  fields := fds
  methods := ms
  attributes := attrs
def plain (name : String) (sup : Option ClassId) : Class where
  name := name
  kind := .ordinary
  loader := none
  accessFlags := 33
  super := sup
  interfaces := #[]
  cf := none
  fields := #[]
  methods := #[]
  instanceTypes := #[]
  staticTypes := #[]
  resolved := #[]
  callSites := []
  init := .initialized
  statics := none
  mirror := none

def pool0 : Array CpInfo := pool [(5, u "<init>"), (0, u "()V"), (1, .class_ 10), (1, u "java/lang/Object")] 113

def k0c0 : Code := { maxStack := 0, maxLocals := 1, code := object_method_1_code, exceptionTable := #[], attributes := #[] }
def k0m0 : Method := { name := "<init>", desc := "()V", sig := { parameters := [], returnType := none }, accessFlags := 1, code := some k0c0 }
/-- java/lang/Object -/
def k0 : Class := { plain "java/lang/Object" none with
  accessFlags := 33
  interfaces := #[]
  cf := some (fileOf pool0 8 #[] #[{ accessFlags := 1, nameIndex := 5, descriptorIndex := 6, attributes := #[] }] 33 0 #[] #[])
  fields := #[]
  methods := #[k0m0]
  instanceTypes := #[]
  staticTypes := #[]
  resolved := Array.replicate 124 none
  statics := none }

def pool1 : Array CpInfo := pool [(2, .class_ 4), (1, u "java/lang/Object"), (0, u "<init>"), (0, u "()V"), (0, .class_ 8), (0, u "com/example/scalecast/scalecast/SchedulerCostsFreePinLaw"), (0, .long 2305843009213693951), (1, .class_ 12), (0, u "com/example/scalecast/scalecast/SchedulerCosts"), (0, .methodref 11 14), (0, .nameAndType 5 15), (0, u "(JJJ)V"), (0, .methodref 11 17), (0, .nameAndType 18 19), (0, u "free"), (0, u "()Z"), (0, .methodref 11 21), (0, .nameAndType 22 23), (0, u "passUs"), (0, u "(II)J"), (0, u "M"), (0, u "J"), (3, u "law"), (0, u "(JJJIII)Z")] 3

def k1m0 : Method := { name := "<init>", desc := "()V", sig := { parameters := [], returnType := none }, accessFlags := 1, code := none }
def k1c1 : Code := { maxStack := 8, maxLocals := 19, code := code, exceptionTable := #[], attributes := #[] }
def k1m1 : Method := { name := "law", desc := "(JJJIII)Z", sig := { parameters := [.long, .long, .long, .int, .int, .int], returnType := some .boolean }, accessFlags := 9, code := some k1c1 }
/-- com/example/scalecast/scalecast/SchedulerCostsFreePinLaw -/
def k1 : Class := { plain "com/example/scalecast/scalecast/SchedulerCostsFreePinLaw" (some 0) with
  accessFlags := 49
  interfaces := #[]
  cf := some (fileOf pool1 7 #[] #[{ accessFlags := 1, nameIndex := 5, descriptorIndex := 6, attributes := #[] }, { accessFlags := 9, nameIndex := 29, descriptorIndex := 30, attributes := #[] }] 49 2 #[] #[{ accessFlags := 26, nameIndex := 24, descriptorIndex := 25, attributes := #[] }])
  fields := #[{ name := "M", type := .long, accessFlags := 26, slot := 0, constantValue := 0 }]
  methods := #[k1m0, k1m1]
  instanceTypes := #[]
  staticTypes := #[.long]
  resolved := Array.replicate 34 none
  statics := none }

def pool2 : Array CpInfo := pool [(1, .methodref 2 3), (0, .class_ 4), (0, .nameAndType 5 6), (0, u "java/lang/Object"), (0, u "<init>"), (0, u "()V"), (0, .class_ 8), (0, u "java/lang/Record")] 13

def k2c0 : Code := { maxStack := 1, maxLocals := 1, code := jdk_30_method_1_code, exceptionTable := #[], attributes := #[] }
def k2m0 : Method := { name := "<init>", desc := "()V", sig := { parameters := [], returnType := none }, accessFlags := 4, code := some k2c0 }
/-- java/lang/Record -/
def k2 : Class := { plain "java/lang/Record" (some 0) with
  accessFlags := 1057
  interfaces := #[]
  cf := some (fileOf pool2 7 #[] #[{ accessFlags := 4, nameIndex := 5, descriptorIndex := 6, attributes := #[] }] 1057 2 #[] #[])
  fields := #[]
  methods := #[k2m0]
  instanceTypes := #[]
  staticTypes := #[]
  resolved := Array.replicate 22 none
  statics := none }

def pool3 : Array CpInfo := pool [(1, .methodref 2 3), (0, .class_ 4), (0, .nameAndType 5 6), (0, u "java/lang/Record"), (0, u "<init>"), (0, u "()V"), (9, .fieldref 17 18), (0, .class_ 19), (0, .nameAndType 20 21), (0, u "com/example/scalecast/scalecast/SchedulerCosts"), (0, u "heartbeatUs"), (0, u "J"), (0, .fieldref 17 23), (0, .nameAndType 24 21), (0, u "visitUs"), (0, .fieldref 17 26), (0, .nameAndType 27 21), (0, u "allocationUs"), (0, .methodref 29 30), (0, .class_ 31), (0, .nameAndType 32 33), (0, u "java/lang/Math"), (0, u "multiplyExact"), (0, u "(JI)J"), (0, .methodref 29 35), (0, .nameAndType 36 37), (0, u "addExact"), (0, u "(JJ)J"), (20, u "(JJJ)V"), (2, u "DEFAULT"), (0, u "Lcom/example/scalecast/scalecast/SchedulerCosts;"), (4, u "passUs"), (0, u "(II)J"), (0, u "free"), (0, u "()Z")] 35

def k3c0 : Code := { maxStack := 8, maxLocals := 7, code := prog_33_method_1_code, exceptionTable := #[], attributes := #[] }
def k3m0 : Method := { name := "<init>", desc := "(JJJ)V", sig := { parameters := [.long, .long, .long], returnType := none }, accessFlags := 0, code := some k3c0 }
def k3c1 : Code := { maxStack := 7, maxLocals := 3, code := prog_33_method_2_code, exceptionTable := #[], attributes := #[] }
def k3m1 : Method := { name := "passUs", desc := "(II)J", sig := { parameters := [.int, .int], returnType := some .long }, accessFlags := 0, code := some k3c1 }
def k3c2 : Code := { maxStack := 4, maxLocals := 1, code := prog_33_method_3_code, exceptionTable := #[], attributes := #[] }
def k3m2 : Method := { name := "free", desc := "()Z", sig := { parameters := [], returnType := some .boolean }, accessFlags := 0, code := some k3c2 }
/-- com/example/scalecast/scalecast/SchedulerCosts -/
def k3 : Class := { plain "com/example/scalecast/scalecast/SchedulerCosts" (some 2) with
  accessFlags := 48
  interfaces := #[]
  cf := some (fileOf pool3 17 #[] #[{ accessFlags := 0, nameIndex := 5, descriptorIndex := 58, attributes := #[] }, { accessFlags := 0, nameIndex := 67, descriptorIndex := 68, attributes := #[] }, { accessFlags := 0, nameIndex := 69, descriptorIndex := 70, attributes := #[] }] 48 2 #[] #[{ accessFlags := 18, nameIndex := 20, descriptorIndex := 21, attributes := #[] }, { accessFlags := 18, nameIndex := 24, descriptorIndex := 21, attributes := #[] }, { accessFlags := 18, nameIndex := 27, descriptorIndex := 21, attributes := #[] }, { accessFlags := 24, nameIndex := 61, descriptorIndex := 62, attributes := #[] }])
  fields := #[{ name := "heartbeatUs", type := .long, accessFlags := 18, slot := 0, constantValue := 0 }, { name := "visitUs", type := .long, accessFlags := 18, slot := 1, constantValue := 0 }, { name := "allocationUs", type := .long, accessFlags := 18, slot := 2, constantValue := 0 }, { name := "DEFAULT", type := (.object "com/example/scalecast/scalecast/SchedulerCosts"), accessFlags := 24, slot := 0, constantValue := 0 }]
  methods := #[k3m0, k3m1, k3m2]
  instanceTypes := #[.long, .long, .long]
  staticTypes := #[(.object "com/example/scalecast/scalecast/SchedulerCosts")]
  resolved := Array.replicate 106 none
  statics := none }

def pool4 : Array CpInfo := pool [(1, .class_ 2), (0, u "java/lang/Math"), (1, .class_ 6), (1, u "java/lang/Object"), (0, u "<init>"), (0, u "()V"), (89, .class_ 100), (1, u "java/lang/Math$RandomNumberGeneratorHolder"), (17, .methodref 1 119), (0, .nameAndType 120 121), (0, u "multiplyExact"), (0, u "(JJ)J"), (0, .methodref 1 123), (0, .nameAndType 124 125), (0, u "abs"), (0, u "(J)J"), (2, .long 9223372036854775808), (43, u "negativeZeroFloatBits"), (0, u "J"), (2, u "negativeZeroDoubleBits"), (68, u "$assertionsDisabled"), (0, u "Z"), (91, u "twoToTheDoubleScaleDown"), (0, u "D"), (4, u "twoToTheDoubleScaleUp"), (9, u "E"), (3, u "PI"), (2, u "TAU"), (2, u "DEGREES_TO_RADIANS"), (0, u "RADIANS_TO_DEGREES"), (27, u "addExact"), (1, u "(JI)J")] 64

def k4m0 : Method := { name := "<init>", desc := "()V", sig := { parameters := [], returnType := none }, accessFlags := 2, code := none }
def k4c1 : Code := { maxStack := 6, maxLocals := 6, code := jdk_29_method_25_code, exceptionTable := #[], attributes := #[] }
def k4m1 : Method := { name := "addExact", desc := "(JJ)J", sig := { parameters := [.long, .long], returnType := some .long }, accessFlags := 9, code := some k4c1 }
def k4c2 : Code := { maxStack := 4, maxLocals := 3, code := jdk_29_method_29_code, exceptionTable := #[], attributes := #[] }
def k4m2 : Method := { name := "multiplyExact", desc := "(JI)J", sig := { parameters := [.long, .int], returnType := some .long }, accessFlags := 9, code := some k4c2 }
def k4c3 : Code := { maxStack := 4, maxLocals := 10, code := jdk_29_method_30_code, exceptionTable := #[], attributes := #[] }
def k4m3 : Method := { name := "multiplyExact", desc := "(JJ)J", sig := { parameters := [.long, .long], returnType := some .long }, accessFlags := 9, code := some k4c3 }
def k4c4 : Code := { maxStack := 4, maxLocals := 2, code := jdk_29_method_61_code, exceptionTable := #[], attributes := #[] }
def k4m4 : Method := { name := "abs", desc := "(J)J", sig := { parameters := [.long], returnType := some .long }, accessFlags := 9, code := some k4c4 }
/-- java/lang/Math -/
def k4 : Class := { plain "java/lang/Math" (some 0) with
  accessFlags := 49
  interfaces := #[]
  cf := some (fileOf pool4 1 #[.nestMembers #[98]] #[{ accessFlags := 2, nameIndex := 7, descriptorIndex := 8, attributes := #[] }, { accessFlags := 9, nameIndex := 393, descriptorIndex := 121, attributes := #[] }, { accessFlags := 9, nameIndex := 120, descriptorIndex := 395, attributes := #[] }, { accessFlags := 9, nameIndex := 120, descriptorIndex := 121, attributes := #[] }, { accessFlags := 9, nameIndex := 124, descriptorIndex := 125, attributes := #[] }] 49 4 #[] #[{ accessFlags := 25, nameIndex := 354, descriptorIndex := 339, attributes := #[] }, { accessFlags := 25, nameIndex := 358, descriptorIndex := 339, attributes := #[] }, { accessFlags := 25, nameIndex := 361, descriptorIndex := 339, attributes := #[] }, { accessFlags := 26, nameIndex := 364, descriptorIndex := 339, attributes := #[] }, { accessFlags := 26, nameIndex := 365, descriptorIndex := 339, attributes := #[] }, { accessFlags := 26, nameIndex := 172, descriptorIndex := 173, attributes := #[] }, { accessFlags := 26, nameIndex := 176, descriptorIndex := 173, attributes := #[] }, { accessFlags := 8, nameIndex := 344, descriptorIndex := 339, attributes := #[] }, { accessFlags := 8, nameIndex := 338, descriptorIndex := 339, attributes := #[] }, { accessFlags := 4120, nameIndex := 245, descriptorIndex := 246, attributes := #[] }])
  fields := #[{ name := "E", type := .double, accessFlags := 25, slot := 0, constantValue := 0 }, { name := "PI", type := .double, accessFlags := 25, slot := 1, constantValue := 0 }, { name := "TAU", type := .double, accessFlags := 25, slot := 2, constantValue := 0 }, { name := "DEGREES_TO_RADIANS", type := .double, accessFlags := 26, slot := 3, constantValue := 0 }, { name := "RADIANS_TO_DEGREES", type := .double, accessFlags := 26, slot := 4, constantValue := 0 }, { name := "negativeZeroFloatBits", type := .long, accessFlags := 26, slot := 5, constantValue := 0 }, { name := "negativeZeroDoubleBits", type := .long, accessFlags := 26, slot := 6, constantValue := 0 }, { name := "twoToTheDoubleScaleUp", type := .double, accessFlags := 8, slot := 7, constantValue := 0 }, { name := "twoToTheDoubleScaleDown", type := .double, accessFlags := 8, slot := 8, constantValue := 0 }, { name := "$assertionsDisabled", type := .boolean, accessFlags := 4120, slot := 9, constantValue := 0 }]
  methods := #[k4m0, k4m1, k4m2, k4m3, k4m4]
  instanceTypes := #[]
  staticTypes := #[.double, .double, .double, .double, .double, .long, .long, .double, .double, .boolean]
  resolved := Array.replicate 460 none
  statics := none }

def pool5 : Array CpInfo := pool [(1, u "java/lang/Cloneable"), (0, .class_ 1), (0, u "java/lang/Object"), (0, .class_ 3)] 3

/-- java/lang/Cloneable -/
def k5 : Class := { plain "java/lang/Cloneable" (some 0) with
  accessFlags := 1537
  interfaces := #[]
  cf := some (fileOf pool5 2 #[] #[] 1537 4 #[] #[])
  fields := #[]
  methods := #[]
  instanceTypes := #[]
  staticTypes := #[]
  resolved := Array.replicate 8 none
  statics := none }

def pool6 : Array CpInfo := pool [(1, u "java/io/Serializable"), (0, .class_ 1), (0, u "java/lang/Object"), (0, .class_ 3)] 3

/-- java/io/Serializable -/
def k6 : Class := { plain "java/io/Serializable" (some 0) with
  accessFlags := 1537
  interfaces := #[]
  cf := some (fileOf pool6 2 #[] #[] 1537 4 #[] #[])
  fields := #[]
  methods := #[]
  instanceTypes := #[]
  staticTypes := #[]
  resolved := Array.replicate 8 none
  statics := none }

/-- the primitive byte -/
def k7 : Class := { plain "byte" none with kind := .primitive 'B', accessFlags := 0x411 }
/-- [B -/
def k8 : Class := { plain "[B" (some 0) with kind := .array 7 .byte, interfaces := #[5, 6], accessFlags := 1041 }

/-- the primitive int -/
def k9 : Class := { plain "int" none with kind := .primitive 'I', accessFlags := 0x411 }
/-- [I -/
def k10 : Class := { plain "[I" (some 0) with kind := .array 9 .int, interfaces := #[5, 6], accessFlags := 1041 }

def heap : Heap := #[]
def classes : Array Class := #[k0, k1, k2, k3, k4, k5, k6, k7, k8, k9, k10]
def interned : List (Array UInt16 × Addr) := []
def slotsUsed : Nat := 0
def theMethod : MethodId := ⟨1, 1⟩
def args0 : Array Value := #[.long 5, .long 6, .long 7, .int 8, .int 9, .int 10]
def aboutOver (below : List Frame) : State where
  vm := { classes := classes, interned := interned.toArray }
  heap := heap
  slotsUsed := slotsUsed
  threads := #[{ frames := .invoking theMethod args0 :: below }]
def below0 : List Frame := [.native { method := ⟨0, 0⟩, args := #[] }]
def about1 : State := aboutOver below0
def p0 : Program := .bare "" "" ""
def e0 : Env := launch0.env 0 0 0
theorem w_frames : about1.frames = Frame.invoking theMethod args0 :: below0 := rfl
set_option maxRecDepth 65536 in
theorem w_args : argsFit about1.vm theMethod args0 = true := by decide +kernel
set_option maxRecDepth 65536 in
theorem w_heap : heapFits about1 = true := by decide +kernel
set_option maxRecDepth 65536 in
theorem w_runnable : about1.curStatus? = some .runnable := by decide +kernel
set_option maxRecDepth 65536 in
theorem w_alone : about1.alone = true := by decide +kernel
set_option maxRecDepth 65536 in
theorem w_named : about1.methodNamed? x = some theMethod := by decide +kernel
set_option maxRecDepth 65536 in
theorem w_hears : about1.hears theMethod below0 = true := by decide +kernel
set_option maxRecDepth 65536 in
theorem w_ripe : about1.ripe theMethod args0 below0 = true := by decide +kernel
theorem w_running : about1.status = .running := rfl
set_option maxRecDepth 65536 in
theorem w_room : about1.hasRoom e0.platform room_1 = true :=
  launch0.hasRoom_least _ room_1 (by decide +kernel) (by decide +kernel) (by decide +kernel) (by decide +kernel) (by decide +kernel) (by decide +kernel)
theorem allAtoms_all (ts : List Jvm.Cond) (a : Array Jvm.Value) (st : Jvm.State) : (allAtoms ts).before a st = ts.all (fun c => c.before a st) := by
  induction ts with
  | nil => rfl
  | cons c t ih =>
    show (Jvm.Cond.and c (allAtoms t)).before a st = _
    rw [Jvm.Cond.before_and, ih, List.all_cons]
def words1 : List Jvm.Cond := Jvm.Cond.code x code maxLocals ret :: tables_1
/-- a 'code' word, met by the world's own term for the bytes: nothing is compared byte by byte -/
theorem code_word {y : MethodName} {bytes : ByteArray} {mx : Nat} {rt : Option FieldType} {a : Array Value} {s : State} {m : MethodId} {meth : Method} {c : Code} (h1 : s.methodNamed? y = some m) (h2 : s.vm.method? m = some meth) (h3 : meth.code = some c) (h4 : c.code = bytes)
    (h5 : (c.maxLocals == mx && c.exceptionTable.isEmpty && decide (c.maxStack ≤ mostOperands) && decide (meth.sig.returnType = rt) && !meth.locks && decide (parseMethodDescriptor y.desc = some meth.sig)) = true) : (Jvm.Cond.code y bytes mx rt).before a s = true := by
  simp only [Bool.and_eq_true, beq_iff_eq, Bool.not_eq_true', decide_eq_true_eq] at h5
  obtain ⟨⟨⟨⟨⟨g1, g2⟩, g3⟩, g4⟩, g5⟩, g6⟩ := h5
  simp [Cond.before, Cond.holds, Cond.value, h1, h2, h3, h4, g1, g2, g3, g4, g5, g6]
def isCode : Jvm.Cond → Bool
  | .code _ _ _ _ => true
  | _ => false
theorem all_split {L : List Jvm.Cond} {P : Jvm.Cond → Bool} (h1 : L.all (fun c => isCode c || P c) = true) (h2 : ∀ c ∈ L.filter isCode, P c = true) : L.all P = true := by
  refine List.all_eq_true.mpr fun c hc => ?_
  have h := List.all_eq_true.mp h1 c hc
  rcases Bool.eq_false_or_eq_true (isCode c) with hi | hi
  · exact h2 c (List.mem_filter.mpr ⟨hc, hi⟩)
  · simpa [hi] using h
set_option maxRecDepth 65536 in
theorem w_c0 : (Jvm.Cond.code x code maxLocals ret).before args0 about1 = true := code_word (m := ⟨1, 1⟩) (meth := k1m1) (c := k1c1) (by decide +kernel) rfl rfl rfl (by decide +kernel)
set_option maxRecDepth 65536 in
theorem w_c1 : (Jvm.Cond.code ({ cls := "com/example/scalecast/scalecast/SchedulerCosts", name := "<init>", desc := "(JJJ)V" } : Jvm.MethodName) prog_33_method_1_code (7 : Nat) (Option.none : Option Jvm.ClassFile.FieldType)).before args0 about1 = true := code_word (m := ⟨3, 0⟩) (meth := k3m0) (c := k3c0) (by decide +kernel) rfl rfl rfl (by decide +kernel)
set_option maxRecDepth 65536 in
theorem w_c2 : (Jvm.Cond.code ({ cls := "java/lang/Record", name := "<init>", desc := "()V" } : Jvm.MethodName) jdk_30_method_1_code (1 : Nat) (Option.none : Option Jvm.ClassFile.FieldType)).before args0 about1 = true := code_word (m := ⟨2, 0⟩) (meth := k2m0) (c := k2c0) (by decide +kernel) rfl rfl rfl (by decide +kernel)
set_option maxRecDepth 65536 in
theorem w_c3 : (Jvm.Cond.code ({ cls := "java/lang/Object", name := "<init>", desc := "()V" } : Jvm.MethodName) object_method_1_code (1 : Nat) (Option.none : Option Jvm.ClassFile.FieldType)).before args0 about1 = true := code_word (m := ⟨0, 0⟩) (meth := k0m0) (c := k0c0) (by decide +kernel) rfl rfl rfl (by decide +kernel)
set_option maxRecDepth 65536 in
theorem w_c4 : (Jvm.Cond.code ({ cls := "com/example/scalecast/scalecast/SchedulerCosts", name := "free", desc := "()Z" } : Jvm.MethodName) prog_33_method_3_code (1 : Nat) (Option.some Jvm.ClassFile.FieldType.boolean)).before args0 about1 = true := code_word (m := ⟨3, 2⟩) (meth := k3m2) (c := k3c2) (by decide +kernel) rfl rfl rfl (by decide +kernel)
set_option maxRecDepth 65536 in
theorem w_c5 : (Jvm.Cond.code ({ cls := "com/example/scalecast/scalecast/SchedulerCosts", name := "passUs", desc := "(II)J" } : Jvm.MethodName) prog_33_method_2_code (3 : Nat) (Option.some Jvm.ClassFile.FieldType.long)).before args0 about1 = true := code_word (m := ⟨3, 1⟩) (meth := k3m1) (c := k3c1) (by decide +kernel) rfl rfl rfl (by decide +kernel)
set_option maxRecDepth 65536 in
theorem w_c6 : (Jvm.Cond.code ({ cls := "java/lang/Math", name := "multiplyExact", desc := "(JI)J" } : Jvm.MethodName) jdk_29_method_29_code (3 : Nat) (Option.some Jvm.ClassFile.FieldType.long)).before args0 about1 = true := code_word (m := ⟨4, 2⟩) (meth := k4m2) (c := k4c2) (by decide +kernel) rfl rfl rfl (by decide +kernel)
set_option maxRecDepth 65536 in
theorem w_c7 : (Jvm.Cond.code ({ cls := "java/lang/Math", name := "multiplyExact", desc := "(JJ)J" } : Jvm.MethodName) jdk_29_method_30_code (10 : Nat) (Option.some Jvm.ClassFile.FieldType.long)).before args0 about1 = true := code_word (m := ⟨4, 3⟩) (meth := k4m3) (c := k4c3) (by decide +kernel) rfl rfl rfl (by decide +kernel)
set_option maxRecDepth 65536 in
theorem w_c8 : (Jvm.Cond.code ({ cls := "java/lang/Math", name := "abs", desc := "(J)J" } : Jvm.MethodName) jdk_29_method_61_code (2 : Nat) (Option.some Jvm.ClassFile.FieldType.long)).before args0 about1 = true := code_word (m := ⟨4, 4⟩) (meth := k4m4) (c := k4c4) (by decide +kernel) rfl rfl rfl (by decide +kernel)
set_option maxRecDepth 65536 in
theorem w_c9 : (Jvm.Cond.code ({ cls := "java/lang/Math", name := "addExact", desc := "(JJ)J" } : Jvm.MethodName) jdk_29_method_25_code (6 : Nat) (Option.some Jvm.ClassFile.FieldType.long)).before args0 about1 = true := code_word (m := ⟨4, 1⟩) (meth := k4m1) (c := k4c1) (by decide +kernel) rfl rfl rfl (by decide +kernel)
def codes1 : List Jvm.Cond := [Jvm.Cond.code x code maxLocals ret, Jvm.Cond.code ({ cls := "com/example/scalecast/scalecast/SchedulerCosts", name := "<init>", desc := "(JJJ)V" } : Jvm.MethodName) prog_33_method_1_code (7 : Nat) (Option.none : Option Jvm.ClassFile.FieldType), Jvm.Cond.code ({ cls := "java/lang/Record", name := "<init>", desc := "()V" } : Jvm.MethodName) jdk_30_method_1_code (1 : Nat) (Option.none : Option Jvm.ClassFile.FieldType), Jvm.Cond.code ({ cls := "java/lang/Object", name := "<init>", desc := "()V" } : Jvm.MethodName) object_method_1_code (1 : Nat) (Option.none : Option Jvm.ClassFile.FieldType), Jvm.Cond.code ({ cls := "com/example/scalecast/scalecast/SchedulerCosts", name := "free", desc := "()Z" } : Jvm.MethodName) prog_33_method_3_code (1 : Nat) (Option.some Jvm.ClassFile.FieldType.boolean), Jvm.Cond.code ({ cls := "com/example/scalecast/scalecast/SchedulerCosts", name := "passUs", desc := "(II)J" } : Jvm.MethodName) prog_33_method_2_code (3 : Nat) (Option.some Jvm.ClassFile.FieldType.long), Jvm.Cond.code ({ cls := "java/lang/Math", name := "multiplyExact", desc := "(JI)J" } : Jvm.MethodName) jdk_29_method_29_code (3 : Nat) (Option.some Jvm.ClassFile.FieldType.long), Jvm.Cond.code ({ cls := "java/lang/Math", name := "multiplyExact", desc := "(JJ)J" } : Jvm.MethodName) jdk_29_method_30_code (10 : Nat) (Option.some Jvm.ClassFile.FieldType.long), Jvm.Cond.code ({ cls := "java/lang/Math", name := "abs", desc := "(J)J" } : Jvm.MethodName) jdk_29_method_61_code (2 : Nat) (Option.some Jvm.ClassFile.FieldType.long), Jvm.Cond.code ({ cls := "java/lang/Math", name := "addExact", desc := "(JJ)J" } : Jvm.MethodName) jdk_29_method_25_code (6 : Nat) (Option.some Jvm.ClassFile.FieldType.long)]
set_option maxRecDepth 65536 in
theorem codes_eq : words1.filter isCode = codes1 := rfl
theorem w_codes : ∀ c ∈ words1.filter isCode, c.before args0 about1 = true := by
  rw [codes_eq]
  intro c hc
  simp only [codes1, List.mem_cons, List.not_mem_nil, or_false] at hc
  rcases hc with rfl | rfl | rfl | rfl | rfl | rfl | rfl | rfl | rfl | rfl
  · exact w_c0
  · exact w_c1
  · exact w_c2
  · exact w_c3
  · exact w_c4
  · exact w_c5
  · exact w_c6
  · exact w_c7
  · exact w_c8
  · exact w_c9
set_option maxRecDepth 65536 in
theorem w_t1 : (words1.take 24).all (fun c => isCode c || c.before args0 about1) = true := by decide +kernel
set_option maxRecDepth 65536 in
theorem w_t2 : (words1.drop 24).all (fun c => isCode c || c.before args0 about1) = true := by decide +kernel
theorem w_tables : (allAtoms (Jvm.Cond.code x code maxLocals ret :: tables_1)).before args0 about1 = true := by
  rw [allAtoms_all]
  show words1.all (fun c => c.before args0 about1) = true
  refine all_split ?_ w_codes
  rw [← List.take_append_drop 24 words1, List.all_append, w_t1, w_t2]
  rfl
set_option maxRecDepth 65536 in
theorem w_case : (Jvm.Cond.and given_1 narrow_1).before args0 about1 = true := by decide +kernel
theorem w_applies : (headSpec (Jvm.Cond.code x code maxLocals ret :: tables_1) room_1).applies x e0.platform about1 = true :=
  (Spec.applies_iff w_frames).mpr ⟨w_running, w_runnable, w_alone, w_named, w_hears, w_ripe, w_room, w_tables⟩
theorem atStart : AtStart classFile x code maxLocals ret World_1 tables_1 room_1 Calls_1 rest_1 Pre_1 launch0 p0 e0 about1 theMethod args0 below0 :=
  ⟨lists_1, trivial, launch0.admits_env _ _ _, launch0.least_env, fairChoices_fair.cas, fairChoices_fair.clock, w_frames, w_args, w_heap, w_applies, trivial, trivial, w_case⟩
end start1
theorem witness_1 : WitnessClaimed_1 := ⟨start1.p0, start1.e0, start1.about1, start1.theMethod, start1.args0, start1.below0, start1.atStart⟩
end Jvm.Pilot.@@N@@
