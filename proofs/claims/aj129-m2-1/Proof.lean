import JvmDerived
import JvmDerived.Pilot.@@N@@Statement
import JvmDerived.Pilot.@@N@@Code
set_option linter.unusedVariables false
set_option linter.unusedSimpArgs false
namespace Jvm.RoadKit
open Sem ClassFile Op Lib Jvm.Stand Jvm.Free Jvm.LawKit
abbrev vI (x : Int32) : Slot := .val (.int x)
abbrev vJ (x : Int64) : Slot := .val (.long x)
abbrev vR (a : Addr) : Slot := .val (.ref a)
/-- from S0 the run comes to T with g on top -/
def Go (tb : Tables) (e : Env) (below : List Frame) (S0 T : State) (g : JFrame) : Prop := ∀ t, Steps tb e below (T.setTop g) t → Steps tb e below S0 t
theorem Go.fin {tb : Tables} {e : Env} {below : List Frame} {S0 S T t : State} {g : JFrame} (h : Go tb e below S0 T g) (q : S0 = S) (k : Steps tb e below (T.setTop g) t) : Steps tb e below S t := q ▸ h t k
section New
variable {p : Program} {l : Launch} {e : Env} {R : Room} {s : State} {m : MethodId} {args : Array Value} {below : List Frame} {meth : Method} {c : Code} {T : State} {locs : List Loc} {cells slots : Nat}
theorem retI (X : Stand p l e R s m args below meth c T locs cells slots) (hx : p.tables.exec = Jvm.exec) {pc : Nat} {Ls : Array Slot} {z : Int32} {rest : List Value} (hret : meth.sig.returnType = some .int) (hd : decode c.code pc = .ok (.ireturn, 1)) {fs : List Frame}
    (hl : ∀ (f : JFrame) (acts : List Action), f.method = m → f.locked = none → f.entered = [] → (doReturn e (T.setTop f) acts (some (.int z))).1 = T.setFrames fs) : Steps p.tables e below (T.setTop (mkF m pc Ls (.int z :: rest))) (T.setFrames fs) := by
  have hm' : T.vm.method? m = some meth := X.method'
  have hn : narrow .int (.int z) = .int z := rfl
  show Steps p.tables e below (T.setTop { method := m, pc := pc, locals := Ls, stack := _ :: rest, locked := none }) _
  jvm_step X.here [X.here.top, hx, hd, hm', hret, hn]
  first | (intro acts; rw [hl _ acts rfl rfl rfl]) | rw [hl _ _ rfl rfl rfl]
  exact Steps.refl _
end New
end Jvm.RoadKit
namespace Jvm.Pilot.@@N@@
open Jvm Jvm.ClassFile Sem Op Lib Jvm.Free Jvm.Stand Jvm.LawKit Jvm.RoadKit Bundle Jvm.Pilot.@@N@@.Jvm.D
theorem ef_2 (m : MethodId) (x0 : Addr) : entryFrame m #[(.ref x0)] 1 = mkF m 0 #[.val (.ref x0)] [] := by first | (simp [entryFrame, mkF, argsToLocals, Value.category]; done) | rfl
theorem pn_0 : plainName "java/lang/Record" = true := by first | (simp [plainName, overriddenIn]; done) | decide +kernel
theorem d2_0 : decode jdk_30_method_1_code 0 = .ok (.aload_n 0, 1) := by decide +kernel
theorem d2_1 : decode jdk_30_method_1_code 1 = .ok (.invokespecial 1, 3) := by decide +kernel
theorem d2_4 : decode jdk_30_method_1_code 4 = .ok (.return_, 1) := by decide +kernel
def Q2 (Z : State) (a0 : Addr) (h0 : Heap) (n0 : Nat) (v : Option Value) (h : Heap) (L : List Loc) : Prop := v = none ∧ Fr n0 L ∧ h = h0
set_option maxRecDepth 65536 in
set_option maxHeartbeats 40000000 in
theorem rm2 (l : Launch) (Z : State) (A0 : Array Value) (hw : ∀ d ∈ tables_1, d.before A0 Z = true) (ws : List Jvm.Cond) (a0 : Addr)  (h0 : Heap) (n0 : Nat) (Z0 : n0 ≤ h0.size)  :
    MetFree l (⟨"java/lang/Record", "<init>", "()V"⟩ : MethodName) (head1 (Jvm.Cond.code (⟨"java/lang/Record", "<init>", "()V"⟩ : MethodName) jdk_30_method_1_code 1 none :: ws) ({ frames := 1, cells := 0, slots := 0, locals := 12 } : Room)) (fun a U => a = #[(.ref a0)] ∧ Z.Warmed39 U.vm ∧ U.heap = h0) (fun _ _ _ _ _ => True) (fun _ U o U' => ∃ v L, o = .returned v ∧ Q2 Z a0 h0 n0 v U'.heap L ∧ FrameEnd U o U' L ({ frames := 1, cells := 0, slots := 0, locals := 12 } : Room).cells ({ frames := 1, cells := 0, slots := 0, locals := 12 } : Room).slots) := by
  refine MetFree.of_bodySF (plainFor_of_name pn_0) hisR ?_
  intro p e s m args below meth c s₁ Bd hml0 hP hK
  obtain ⟨rfl, hZ, hh⟩ := hP
  have hx := Bd.exec
  have hby := Bd.bytes
  have hml : c.maxLocals = 1 := hml0
  have hown : s.vm.findClass "java/lang/Record" = some m.cls := findClass_of_methodNamed Bd.named
  have hnm := (name_of_methodNamed Bd.named Bd.method).1
  have X0 : Stand p l e ({ frames := 1, cells := 0, slots := 0, locals := 12 } : Room) s m #[(.ref a0)] below meth c s₁ [] 0 0 := Stand.of_body Bd
  have e0 : s₁.heap = h0 := by rw [← hh, Bd.state]; rfl
  have N0 := Fr.nil n0
  obtain ⟨S0, hS0⟩ : ∃ z, z = s₁.setTop (entryFrame m #[(.ref a0)] 1) := ⟨_, rfl⟩
  have pre0 : Go p.tables e below S0 s₁ (mkF m 0 #[vR a0] []) := fun t k => by rw [hS0]; exact castTop (ef_2 m a0) k
  have pre1 : Go p.tables e below S0 s₁ (mkF m 1 #[vR a0] [(.ref a0)]) := fun t k => pre0 t (by
    refine XS.aloadN X0.here hx rfl (hb hby d2_0) rfl rfl ?_
    show Steps p.tables e below (s₁.setTop (mkF m 1 #[vR a0] [(.ref a0)])) _
    exact k)
  obtain ⟨T2, X2, e2, st2⟩ := initO X0 hx hZ hown (hw _ (List.mem_of_getElem? (i := 11) rfl)) (hw _ (List.mem_of_getElem? (i := 12) rfl)) (hw _ (List.mem_of_getElem? (i := 13) rfl)) e0 (g := (mkF m 1 #[vR a0] [(.ref a0)])) rfl (by rw [hml]; rfl) rfl (hb hby d2_1) (by decide) (W := 0) (by show 2 * 0 + _ ≤ _; exact Nat.le_of_eq rfl) (by decide)
  have pre2 : Go p.tables e below S0 T2 (mkF m 4 #[vR a0] []) := fun t k => pre1 t (st2 t k)
  obtain ⟨fs, hr, hrun, hended, hW, hsame⟩ := X2.leave (v := none) (fun _ => rfl)
  exact ⟨_, _, pre2.fin hS0 (X2.returnOut hx Bd.returns (hb hby d2_4) hr), hrun, hended, _, _, rfl, (by
    show Q2 Z a0 h0 n0 _ T2.heap _
    rw [e2]
    exact ⟨rfl, N0, rfl⟩), ⟨_, rfl⟩, hW, hsame.mono (by decide) (by decide)⟩
theorem ef_1 (m : MethodId) (x0 : Addr) (x1 : Int32) (x2 : Int32) : entryFrame m #[(.ref x0), (.int x1), (.int x2)] 3 = mkF m 0 #[.val (.ref x0), .val (.int x1), .val (.int x2)] [] := by first | (simp [entryFrame, mkF, argsToLocals, Value.category]; done) | rfl
theorem pn_1 : plainName "com/example/scalecast/scalecast/Resource" = true := by first | (simp [plainName, overriddenIn]; done) | decide +kernel
theorem pd_0 : parseMethodDescriptor "()V" = some ⟨[], none⟩ := by decide +kernel
theorem d1_0 : decode prog_31_method_1_code 0 = .ok (.aload_n 0, 1) := by decide +kernel
theorem d1_1 : decode prog_31_method_1_code 1 = .ok (.invokespecial 1, 3) := by decide +kernel
theorem d1_4 : decode prog_31_method_1_code 4 = .ok (.aload_n 0, 1) := by decide +kernel
theorem d1_5 : decode prog_31_method_1_code 5 = .ok (.iload_n 1, 1) := by decide +kernel
theorem d1_6 : decode prog_31_method_1_code 6 = .ok (.putfield 7, 3) := by decide +kernel
theorem d1_9 : decode prog_31_method_1_code 9 = .ok (.aload_n 0, 1) := by decide +kernel
theorem d1_10 : decode prog_31_method_1_code 10 = .ok (.iload_n 2, 1) := by decide +kernel
theorem d1_11 : decode prog_31_method_1_code 11 = .ok (.putfield 13, 3) := by decide +kernel
theorem d1_14 : decode prog_31_method_1_code 14 = .ok (.return_, 1) := by decide +kernel
def Q1 (Z : State) (a0 : Addr) (p1 : Int32) (p2 : Int32) (h0 : Heap) (n0 : Nat) (v : Option Value) (h : Heap) (L : List Loc) : Prop := v = none ∧ Fr n0 L ∧ Keep h0 h [a0] ∧ (Exa Z h a0 "com/example/scalecast/scalecast/Resource") ∧ (Fld Z h a0 "com/example/scalecast/scalecast/Resource" "memoryMb" "I" (.int p1)) ∧ (Fld Z h a0 "com/example/scalecast/scalecast/Resource" "vcores" "I" (.int p2))
set_option maxRecDepth 65536 in
set_option maxHeartbeats 40000000 in
theorem rm1 (l : Launch) (Z : State) (A0 : Array Value) (hw : ∀ d ∈ tables_1, d.before A0 Z = true) (ws : List Jvm.Cond) (a0 : Addr) (p1 : Int32) (p2 : Int32)  (h0 : Heap) (n0 : Nat) (Z0 : n0 ≤ h0.size) (E0 : Exa Z h0 a0 "com/example/scalecast/scalecast/Resource") (F_memoryMb : Fld Z h0 a0 "com/example/scalecast/scalecast/Resource" "memoryMb" "I" (.int (0 : Int32))) (F_vcores : Fld Z h0 a0 "com/example/scalecast/scalecast/Resource" "vcores" "I" (.int (0 : Int32))) (g0 : n0 ≤ a0) :
    MetFree l (⟨"com/example/scalecast/scalecast/Resource", "<init>", "(II)V"⟩ : MethodName) (head1 (Jvm.Cond.code (⟨"com/example/scalecast/scalecast/Resource", "<init>", "(II)V"⟩ : MethodName) prog_31_method_1_code 3 none :: ws) ({ frames := 2, cells := 0, slots := 0, locals := 24 } : Room)) (fun a U => a = #[(.ref a0), (.int p1), (.int p2)] ∧ Z.Warmed39 U.vm ∧ U.heap = h0) (fun _ _ _ _ _ => True) (fun _ U o U' => ∃ v L, o = .returned v ∧ Q1 Z a0 p1 p2 h0 n0 v U'.heap L ∧ FrameEnd U o U' L ({ frames := 2, cells := 0, slots := 0, locals := 24 } : Room).cells ({ frames := 2, cells := 0, slots := 0, locals := 24 } : Room).slots) := by
  refine MetFree.of_bodySF (plainFor_of_name pn_1) hisR ?_
  intro p e s m args below meth c s₁ Bd hml0 hP hK
  obtain ⟨rfl, hZ, hh⟩ := hP
  have hx := Bd.exec
  have hby := Bd.bytes
  have hml : c.maxLocals = 3 := hml0
  have hown : s.vm.findClass "com/example/scalecast/scalecast/Resource" = some m.cls := findClass_of_methodNamed Bd.named
  have hnm := (name_of_methodNamed Bd.named Bd.method).1
  have X0 : Stand p l e ({ frames := 2, cells := 0, slots := 0, locals := 24 } : Room) s m #[(.ref a0), (.int p1), (.int p2)] below meth c s₁ [] 0 0 := Stand.of_body Bd
  have e0 : s₁.heap = h0 := by rw [← hh, Bd.state]; rfl
  have N0 := Fr.nil n0
  have kp0 : Keep h0 h0 [a0] := Keep.refl _ _
  obtain ⟨S0, hS0⟩ : ∃ z, z = s₁.setTop (entryFrame m #[(.ref a0), (.int p1), (.int p2)] 3) := ⟨_, rfl⟩
  have pre0 : Go p.tables e below S0 s₁ (mkF m 0 #[vR a0, vI p1, vI p2] []) := fun t k => by rw [hS0]; exact castTop (ef_1 m a0 p1 p2) k
  have pre1 : Go p.tables e below S0 s₁ (mkF m 1 #[vR a0, vI p1, vI p2] [(.ref a0)]) := fun t k => pre0 t (by
    refine XS.aloadN X0.here hx rfl (hb hby d1_0) rfl rfl ?_
    show Steps p.tables e below (s₁.setTop (mkF m 1 #[vR a0, vI p1, vI p2] [(.ref a0)])) _
    exact k)
  obtain ⟨_, _, ⟨T2, L2, k2, n2⟩, -, X2, ⟨Lc2, hQ2, l2, y2, z2⟩, st2⟩ := X0.specialBack hx (y := (⟨"java/lang/Record", "<init>", "()V"⟩ : MethodName)) rfl hown (mvT hZ (hw _ (List.mem_of_getElem? (i := 6) rfl))) (mvT hZ (hw _ (List.mem_of_getElem? (i := 7) rfl))) (mvT hZ (hw _ (List.mem_of_getElem? (i := 10) rfl))) (by decide) (backOf (W := 0) (rm2 l Z A0 hw [] a0 h0 n0 Z0) hZ (hw _ (List.mem_of_getElem? (i := 10) rfl)) (hw _ (List.mem_of_getElem? (i := 9) rfl)) (by decide) (by decide)) (g := (mkF m 1 #[vR a0, vI p1, vI p2] [(.ref a0)])) rfl (by rw [hml]; rfl) (Steps.refl _) (a := a0) (argsL := []) (rest := []) (lenOf pd_0 rfl) rfl (by show 2 * 0 + _ ≤ _; exact Nat.le_of_eq rfl) (hb hby d1_1) (fun _ _ => ⟨rfl, e0, (by decide : 0 + 0 ≤ _), (by decide : 0 + 0 ≤ _)⟩)
  dsimp only [Pt.U, Pt.locs, Pt.cells, Pt.slots] at X2 l2 y2 z2 st2 hQ2
  subst l2 y2 z2
  obtain ⟨rfl, Nq2, eq2⟩ := hQ2
  have N2 := Fr.app N0 Nq2
  have pre2 : Go p.tables e below S0 T2 (mkF m 4 #[vR a0, vI p1, vI p2] []) := fun t k => pre1 t (st2.trans k)
  have pre3 : Go p.tables e below S0 T2 (mkF m 6 #[vR a0, vI p1, vI p2] [(.int p1), (.ref a0)]) := fun t k => pre2 t (by
    refine XS.aloadN X2.here hx rfl (hb hby d1_4) rfl rfl ?_
    show Steps p.tables e below (T2.setTop (mkF m 5 #[vR a0, vI p1, vI p2] [(.ref a0)])) _
    refine XS.iloadN X2.here hx rfl (hb hby d1_5) rfl ?_
    show Steps p.tables e below (T2.setTop (mkF m 6 #[vR a0, vI p1, vI p2] [(.int p1), (.ref a0)])) _
    exact k)
  obtain ⟨T4, h4, X4, e4, W4, st4⟩ := putF X2 hx hZ hown (host := "") (Or.inl (hw _ (List.mem_of_getElem? (i := 14) rfl))) Via.refl eq2 F_memoryMb E0 (Or.inr ⟨(hw _ (List.mem_of_getElem? (i := 15) rfl)), rfl, hnm⟩) (hw _ (List.mem_of_getElem? (i := 1) rfl)) (ty := .int) (by decide) rfl rfl (g := (mkF m 6 #[vR a0, vI p1, vI p2] [(.int p1), (.ref a0)])) rfl rfl (hb hby d1_6)
  have pre4 : Go p.tables e below S0 T4 (mkF m 9 #[vR a0, vI p1, vI p2] []) := fun t k => pre3 t (st4 t k)
  have N4 := Fr.snoc X4 N2 g0
  have fw4 : Fld Z h4 a0 "com/example/scalecast/scalecast/Resource" "memoryMb" "I" (.int p1) := Fld.same W4 F_memoryMb
  have f5_1 := Exa.wr W4 E0
  have f5_2 := Fld.other W4 F_vcores (Or.inr (slot_ne (Or.inr (hw _ (List.mem_of_getElem? (i := 17) rfl))) (Or.inr (hw _ (List.mem_of_getElem? (i := 15) rfl))) (by decide) (t := .int) (t' := .int) (by decide) (by decide)))
  have zz6 : n0 ≤ h4.size := Nat.le_trans Z0 (Keep.of_wr W4).1
  have kp7 : Keep h0 h4 [a0] := kp0.wr W4 (Or.inl (List.mem_of_getElem? (i := 0) rfl))
  have pre8 : Go p.tables e below S0 T4 (mkF m 11 #[vR a0, vI p1, vI p2] [(.int p2), (.ref a0)]) := fun t k => pre4 t (by
    refine XS.aloadN X4.here hx rfl (hb hby d1_9) rfl rfl ?_
    show Steps p.tables e below (T4.setTop (mkF m 10 #[vR a0, vI p1, vI p2] [(.ref a0)])) _
    refine XS.iloadN X4.here hx rfl (hb hby d1_10) rfl ?_
    show Steps p.tables e below (T4.setTop (mkF m 11 #[vR a0, vI p1, vI p2] [(.int p2), (.ref a0)])) _
    exact k)
  obtain ⟨T9, h9, X9, e9, W9, st9⟩ := putF X4 hx hZ hown (host := "") (Or.inl (hw _ (List.mem_of_getElem? (i := 16) rfl))) Via.refl e4 f5_2 f5_1 (Or.inr ⟨(hw _ (List.mem_of_getElem? (i := 17) rfl)), rfl, hnm⟩) (hw _ (List.mem_of_getElem? (i := 1) rfl)) (ty := .int) (by decide) rfl rfl (g := (mkF m 11 #[vR a0, vI p1, vI p2] [(.int p2), (.ref a0)])) rfl rfl (hb hby d1_11)
  have pre9 : Go p.tables e below S0 T9 (mkF m 14 #[vR a0, vI p1, vI p2] []) := fun t k => pre8 t (st9 t k)
  have N9 := Fr.snoc X9 N4 g0
  have fw9 : Fld Z h9 a0 "com/example/scalecast/scalecast/Resource" "vcores" "I" (.int p2) := Fld.same W9 f5_2
  have f10_1 := Exa.wr W9 f5_1
  have f10_2 := Fld.other W9 fw4 (Or.inr (slot_ne (Or.inr (hw _ (List.mem_of_getElem? (i := 15) rfl))) (Or.inr (hw _ (List.mem_of_getElem? (i := 17) rfl))) (by decide) (t := .int) (t' := .int) (by decide) (by decide)))
  have zz11 : n0 ≤ h9.size := Nat.le_trans zz6 (Keep.of_wr W9).1
  have kp12 : Keep h0 h9 [a0] := kp7.wr W9 (Or.inl (List.mem_of_getElem? (i := 0) rfl))
  obtain ⟨fs, hr, hrun, hended, hW, hsame⟩ := X9.leave (v := none) (fun _ => rfl)
  exact ⟨_, _, pre9.fin hS0 (X9.returnOut hx Bd.returns (hb hby d1_14) hr), hrun, hended, _, _, rfl, (by
    show Q1 Z a0 p1 p2 h0 n0 _ T9.heap _
    rw [e9]
    exact ⟨rfl, N9, kp12, f10_1, f10_2, fw9⟩), ⟨_, rfl⟩, hW, hsame.mono (by decide) (by decide)⟩
def own_fits (m0 v0 m1 v1 : Int32) : Int32 := if m1 < m0 then 0 else if v1 < v0 then 0 else 1
theorem ef_4 (m : MethodId) (x0 : Addr) (x1 : Addr) : entryFrame m #[(.ref x0), (.ref x1)] 2 = mkF m 0 #[.val (.ref x0), .val (.ref x1)] [] := by first | (simp [entryFrame, mkF, argsToLocals, Value.category]; done) | rfl
theorem d4_0 : decode prog_31_method_2_code 0 = .ok (.aload_n 0, 1) := by decide +kernel
theorem d4_1 : decode prog_31_method_2_code 1 = .ok (.getfield 7, 3) := by decide +kernel
theorem d4_4 : decode prog_31_method_2_code 4 = .ok (.aload_n 1, 1) := by decide +kernel
theorem d4_5 : decode prog_31_method_2_code 5 = .ok (.getfield 7, 3) := by decide +kernel
theorem d4_8 : decode prog_31_method_2_code 8 = .ok (.if_icmp .gt 18, 3) := by decide +kernel
theorem d4_11 : decode prog_31_method_2_code 11 = .ok (.aload_n 0, 1) := by decide +kernel
theorem d4_12 : decode prog_31_method_2_code 12 = .ok (.getfield 13, 3) := by decide +kernel
theorem d4_15 : decode prog_31_method_2_code 15 = .ok (.aload_n 1, 1) := by decide +kernel
theorem d4_16 : decode prog_31_method_2_code 16 = .ok (.getfield 13, 3) := by decide +kernel
theorem d4_19 : decode prog_31_method_2_code 19 = .ok (.if_icmp .gt 7, 3) := by decide +kernel
theorem d4_22 : decode prog_31_method_2_code 22 = .ok (.iconst 1, 1) := by decide +kernel
theorem d4_23 : decode prog_31_method_2_code 23 = .ok (.goto 4, 3) := by decide +kernel
theorem d4_26 : decode prog_31_method_2_code 26 = .ok (.iconst 0, 1) := by decide +kernel
theorem d4_27 : decode prog_31_method_2_code 27 = .ok (.ireturn, 1) := by decide +kernel
def Q4 (Z : State) (a0 a1 : Addr) (w_memoryMb_a0 : Int32) (w_vcores_a0 : Int32) (w_memoryMb_a1 : Int32) (w_vcores_a1 : Int32) (h0 : Heap) (n0 : Nat) (v : Option Value) (h : Heap) (L : List Loc) : Prop := v = some (.int (own_fits w_memoryMb_a0 w_vcores_a0 w_memoryMb_a1 w_vcores_a1)) ∧ Fr n0 L ∧ h = h0
set_option maxRecDepth 65536 in
set_option maxHeartbeats 40000000 in
theorem rm4 (l : Launch) (Z : State) (A0 : Array Value) (hw : ∀ d ∈ tables_1, d.before A0 Z = true) (ws : List Jvm.Cond) (a0 : Addr) (a1 : Addr) (w_memoryMb_a0 : Int32) (w_vcores_a0 : Int32) (w_memoryMb_a1 : Int32) (w_vcores_a1 : Int32) (h0 : Heap) (n0 : Nat) (Z0 : n0 ≤ h0.size) (F_memoryMb_a0 : Fld Z h0 a0 "com/example/scalecast/scalecast/Resource" "memoryMb" "I" (.int w_memoryMb_a0)) (F_vcores_a0 : Fld Z h0 a0 "com/example/scalecast/scalecast/Resource" "vcores" "I" (.int w_vcores_a0)) (F_memoryMb_a1 : Fld Z h0 a1 "com/example/scalecast/scalecast/Resource" "memoryMb" "I" (.int w_memoryMb_a1)) (F_vcores_a1 : Fld Z h0 a1 "com/example/scalecast/scalecast/Resource" "vcores" "I" (.int w_vcores_a1)) :
    MetFree l (⟨"com/example/scalecast/scalecast/Resource", "fitsIn", "(Lcom/example/scalecast/scalecast/Resource;)Z"⟩ : MethodName) (head1 (Jvm.Cond.code (⟨"com/example/scalecast/scalecast/Resource", "fitsIn", "(Lcom/example/scalecast/scalecast/Resource;)Z"⟩ : MethodName) prog_31_method_2_code 2 (some .boolean) :: ws) ({ frames := 0, cells := 0, slots := 0, locals := 0 } : Room)) (fun a U => a = #[(.ref a0), (.ref a1)] ∧ Z.Warmed39 U.vm ∧ U.heap = h0) (fun _ _ _ _ _ => True) (fun _ U o U' => ∃ v L, o = .returned v ∧ Q4 Z a0 a1 w_memoryMb_a0 w_vcores_a0 w_memoryMb_a1 w_vcores_a1 h0 n0 v U'.heap L ∧ FrameEnd U o U' L ({ frames := 0, cells := 0, slots := 0, locals := 0 } : Room).cells ({ frames := 0, cells := 0, slots := 0, locals := 0 } : Room).slots) := by
  refine MetFree.of_bodySF (plainFor_of_name pn_1) hisR ?_
  intro p e s m args below meth c s₁ Bd hml0 hP hK
  obtain ⟨rfl, hZ, hh⟩ := hP
  have hx := Bd.exec
  have hby := Bd.bytes
  have hml : c.maxLocals = 2 := hml0
  have hown : s.vm.findClass "com/example/scalecast/scalecast/Resource" = some m.cls := findClass_of_methodNamed Bd.named
  have hnm := (name_of_methodNamed Bd.named Bd.method).1
  have X0 : Stand p l e ({ frames := 0, cells := 0, slots := 0, locals := 0 } : Room) s m #[(.ref a0), (.ref a1)] below meth c s₁ [] 0 0 := Stand.of_body Bd
  have e0 : s₁.heap = h0 := by rw [← hh, Bd.state]; rfl
  have N0 := Fr.nil n0
  obtain ⟨S0, hS0⟩ : ∃ z, z = s₁.setTop (entryFrame m #[(.ref a0), (.ref a1)] 2) := ⟨_, rfl⟩
  have pre0 : Go p.tables e below S0 s₁ (mkF m 0 #[vR a0, vR a1] []) := fun t k => by rw [hS0]; exact castTop (ef_4 m a0 a1) k
  have pre1 : Go p.tables e below S0 s₁ (mkF m 1 #[vR a0, vR a1] [(.ref a0)]) := fun t k => pre0 t (by
    refine XS.aloadN X0.here hx rfl (hb hby d4_0) rfl rfl ?_
    show Steps p.tables e below (s₁.setTop (mkF m 1 #[vR a0, vR a1] [(.ref a0)])) _
    exact k)
  obtain ⟨T2, X2, e2, st2⟩ := getF X0 hx hZ hown (host := "") (Or.inl (hw _ (List.mem_of_getElem? (i := 14) rfl))) Via.refl e0 F_memoryMb_a0 (g := (mkF m 1 #[vR a0, vR a1] [(.ref a0)])) rfl rfl (hb hby d4_1)
  have pre2 : Go p.tables e below S0 T2 (mkF m 4 #[vR a0, vR a1] [(.int w_memoryMb_a0)]) := fun t k => pre1 t (st2 t k)
  have pre3 : Go p.tables e below S0 T2 (mkF m 5 #[vR a0, vR a1] [(.ref a1), (.int w_memoryMb_a0)]) := fun t k => pre2 t (by
    refine XS.aloadN X2.here hx rfl (hb hby d4_4) rfl rfl ?_
    show Steps p.tables e below (T2.setTop (mkF m 5 #[vR a0, vR a1] [(.ref a1), (.int w_memoryMb_a0)])) _
    exact k)
  obtain ⟨T4, X4, e4, st4⟩ := getF X2 hx hZ hown (host := "") (Or.inl (hw _ (List.mem_of_getElem? (i := 14) rfl))) Via.refl e2 F_memoryMb_a1 (g := (mkF m 5 #[vR a0, vR a1] [(.ref a1), (.int w_memoryMb_a0)])) rfl rfl (hb hby d4_5)
  have pre4 : Go p.tables e below S0 T4 (mkF m 8 #[vR a0, vR a1] [(.int w_memoryMb_a1), (.int w_memoryMb_a0)]) := fun t k => pre3 t (st4 t k)
  by_cases c8_5 : w_memoryMb_a1 < w_memoryMb_a0
  · skip
    have pre6 : Go p.tables e below S0 T4 (mkF m 27 #[vR a0, vR a1] [(.int (0 : Int32))]) := fun t k => pre4 t (by
      refine XS.icmpYes X4.here hx rfl (pc0 := 8) (pc' := 26) rfl (hb hby d4_8) rfl (tlt c8_5).2.2.1 (by decide) (by decide) ?_
      show Steps p.tables e below (T4.setTop (mkF m 26 #[vR a0, vR a1] [])) _
      refine XS.iconst X4.here hx rfl (hb hby d4_26) ?_
      show Steps p.tables e below (T4.setTop (mkF m 27 #[vR a0, vR a1] [(.int (0 : Int32))])) _
      exact k)
    obtain ⟨fs, hr, hrun, hended, hW, hsame⟩ := X4.leave (v := some (.int (0 : Int32))) (fun h => by rw [Bd.returns] at h; cases h)
    exact ⟨_, _, pre6.fin hS0 (retN X4 hx (t := .boolean) Bd.returns (by simp) (hb hby d4_27) hr), hrun, hended, _, _, rfl, (by
      show Q4 Z a0 a1 w_memoryMb_a0 w_vcores_a0 w_memoryMb_a1 w_vcores_a1 h0 n0 _ T4.heap _
      rw [e4]
      exact ⟨congrArg (fun z => some (Value.int z)) (by simp [own_fits, c8_5]), N0, rfl⟩), ⟨_, rfl⟩, hW, hsame.mono (by decide) (by decide)⟩
  · skip
    have pre7 : Go p.tables e below S0 T4 (mkF m 12 #[vR a0, vR a1] [(.ref a0)]) := fun t k => pre4 t (by
      refine XS.icmpNo X4.here hx rfl (hb hby d4_8) rfl (flt c8_5).2.2.1 ?_
      show Steps p.tables e below (T4.setTop (mkF m 11 #[vR a0, vR a1] [])) _
      refine XS.aloadN X4.here hx rfl (hb hby d4_11) rfl rfl ?_
      show Steps p.tables e below (T4.setTop (mkF m 12 #[vR a0, vR a1] [(.ref a0)])) _
      exact k)
    obtain ⟨T8, X8, e8, st8⟩ := getF X4 hx hZ hown (host := "") (Or.inl (hw _ (List.mem_of_getElem? (i := 16) rfl))) Via.refl e4 F_vcores_a0 (g := (mkF m 12 #[vR a0, vR a1] [(.ref a0)])) rfl rfl (hb hby d4_12)
    have pre8 : Go p.tables e below S0 T8 (mkF m 15 #[vR a0, vR a1] [(.int w_vcores_a0)]) := fun t k => pre7 t (st8 t k)
    have pre9 : Go p.tables e below S0 T8 (mkF m 16 #[vR a0, vR a1] [(.ref a1), (.int w_vcores_a0)]) := fun t k => pre8 t (by
      refine XS.aloadN X8.here hx rfl (hb hby d4_15) rfl rfl ?_
      show Steps p.tables e below (T8.setTop (mkF m 16 #[vR a0, vR a1] [(.ref a1), (.int w_vcores_a0)])) _
      exact k)
    obtain ⟨T10, X10, e10, st10⟩ := getF X8 hx hZ hown (host := "") (Or.inl (hw _ (List.mem_of_getElem? (i := 16) rfl))) Via.refl e8 F_vcores_a1 (g := (mkF m 16 #[vR a0, vR a1] [(.ref a1), (.int w_vcores_a0)])) rfl rfl (hb hby d4_16)
    have pre10 : Go p.tables e below S0 T10 (mkF m 19 #[vR a0, vR a1] [(.int w_vcores_a1), (.int w_vcores_a0)]) := fun t k => pre9 t (st10 t k)
    by_cases c19_11 : w_vcores_a1 < w_vcores_a0
    · skip
      have pre12 : Go p.tables e below S0 T10 (mkF m 27 #[vR a0, vR a1] [(.int (0 : Int32))]) := fun t k => pre10 t (by
        refine XS.icmpYes X10.here hx rfl (pc0 := 19) (pc' := 26) rfl (hb hby d4_19) rfl (tlt c19_11).2.2.1 (by decide) (by decide) ?_
        show Steps p.tables e below (T10.setTop (mkF m 26 #[vR a0, vR a1] [])) _
        refine XS.iconst X10.here hx rfl (hb hby d4_26) ?_
        show Steps p.tables e below (T10.setTop (mkF m 27 #[vR a0, vR a1] [(.int (0 : Int32))])) _
        exact k)
      obtain ⟨fs, hr, hrun, hended, hW, hsame⟩ := X10.leave (v := some (.int (0 : Int32))) (fun h => by rw [Bd.returns] at h; cases h)
      exact ⟨_, _, pre12.fin hS0 (retN X10 hx (t := .boolean) Bd.returns (by simp) (hb hby d4_27) hr), hrun, hended, _, _, rfl, (by
        show Q4 Z a0 a1 w_memoryMb_a0 w_vcores_a0 w_memoryMb_a1 w_vcores_a1 h0 n0 _ T10.heap _
        rw [e10]
        exact ⟨congrArg (fun z => some (Value.int z)) (by simp [own_fits, c8_5, c19_11]), N0, rfl⟩), ⟨_, rfl⟩, hW, hsame.mono (by decide) (by decide)⟩
    · skip
      have pre13 : Go p.tables e below S0 T10 (mkF m 27 #[vR a0, vR a1] [(.int (1 : Int32))]) := fun t k => pre10 t (by
        refine XS.icmpNo X10.here hx rfl (hb hby d4_19) rfl (flt c19_11).2.2.1 ?_
        show Steps p.tables e below (T10.setTop (mkF m 22 #[vR a0, vR a1] [])) _
        refine XS.iconst X10.here hx rfl (hb hby d4_22) ?_
        show Steps p.tables e below (T10.setTop (mkF m 23 #[vR a0, vR a1] [(.int (1 : Int32))])) _
        refine XS.goto X10.here hx rfl (pc0 := 23) (pc' := 27) rfl (hb hby d4_23) (by decide) (by decide) ?_
        show Steps p.tables e below (T10.setTop (mkF m 27 #[vR a0, vR a1] [(.int (1 : Int32))])) _
        exact k)
      obtain ⟨fs, hr, hrun, hended, hW, hsame⟩ := X10.leave (v := some (.int (1 : Int32))) (fun h => by rw [Bd.returns] at h; cases h)
      exact ⟨_, _, pre13.fin hS0 (retN X10 hx (t := .boolean) Bd.returns (by simp) (hb hby d4_27) hr), hrun, hended, _, _, rfl, (by
        show Q4 Z a0 a1 w_memoryMb_a0 w_vcores_a0 w_memoryMb_a1 w_vcores_a1 h0 n0 _ T10.heap _
        rw [e10]
        exact ⟨congrArg (fun z => some (Value.int z)) (by simp [own_fits, c8_5, c19_11]), N0, rfl⟩), ⟨_, rfl⟩, hW, hsame.mono (by decide) (by decide)⟩
def own_max (p0 : Int32) (p1 : Int32) : Int32 := if p0 < p1 then (p1) else (p0)
theorem ef_5 (m : MethodId) (x0 : Int32) (x1 : Int32) : entryFrame m #[(.int x0), (.int x1)] 2 = mkF m 0 #[.val (.int x0), .val (.int x1)] [] := by first | (simp [entryFrame, mkF, argsToLocals, Value.category]; done) | rfl
theorem d5_0 : decode jdk_29_method_65_code 0 = .ok (.iload_n 0, 1) := by decide +kernel
theorem d5_1 : decode jdk_29_method_65_code 1 = .ok (.iload_n 1, 1) := by decide +kernel
theorem d5_2 : decode jdk_29_method_65_code 2 = .ok (.if_icmp .lt 7, 3) := by decide +kernel
theorem d5_5 : decode jdk_29_method_65_code 5 = .ok (.iload_n 0, 1) := by decide +kernel
theorem d5_6 : decode jdk_29_method_65_code 6 = .ok (.goto 4, 3) := by decide +kernel
theorem d5_9 : decode jdk_29_method_65_code 9 = .ok (.iload_n 1, 1) := by decide +kernel
theorem d5_10 : decode jdk_29_method_65_code 10 = .ok (.ireturn, 1) := by decide +kernel
def Q5 (Z : State) (p0 : Int32) (p1 : Int32) (h0 : Heap) (n0 : Nat) (v : Option Value) (h : Heap) (L : List Loc) : Prop := v = some (.int (own_max p0 p1)) ∧ Fr n0 L ∧ h = h0
set_option maxRecDepth 65536 in
set_option maxHeartbeats 40000000 in
theorem rm5 (l : Launch) (Z : State) (A0 : Array Value) (hw : ∀ d ∈ tables_1, d.before A0 Z = true) (ws : List Jvm.Cond) (p0 : Int32) (p1 : Int32)  (h0 : Heap) (n0 : Nat) (Z0 : n0 ≤ h0.size)  :
    MetFree l (⟨"java/lang/Math", "max", "(II)I"⟩ : MethodName) (head1 (Jvm.Cond.code (⟨"java/lang/Math", "max", "(II)I"⟩ : MethodName) jdk_29_method_65_code 2 (some .int) :: ws) ({ frames := 0, cells := 0, slots := 0, locals := 0 } : Room)) (fun a U => a = #[(.int p0), (.int p1)] ∧ Z.Warmed39 U.vm ∧ U.heap = h0) (fun _ _ _ _ _ => True) (fun _ U o U' => ∃ v L, o = .returned v ∧ Q5 Z p0 p1 h0 n0 v U'.heap L ∧ FrameEnd U o U' L ({ frames := 0, cells := 0, slots := 0, locals := 0 } : Room).cells ({ frames := 0, cells := 0, slots := 0, locals := 0 } : Room).slots) := by
  refine MetFree.of_bodySF (Jvm.Free.JP.mathPlain rfl (by decide +kernel)) hisR ?_
  intro p e s m args below meth c s₁ Bd hml0 hP hK
  obtain ⟨rfl, hZ, hh⟩ := hP
  have hx := Bd.exec
  have hby := Bd.bytes
  have hml : c.maxLocals = 2 := hml0
  have hown : s.vm.findClass "java/lang/Math" = some m.cls := findClass_of_methodNamed Bd.named
  have hnm := (name_of_methodNamed Bd.named Bd.method).1
  have X0 : Stand p l e ({ frames := 0, cells := 0, slots := 0, locals := 0 } : Room) s m #[(.int p0), (.int p1)] below meth c s₁ [] 0 0 := Stand.of_body Bd
  have e0 : s₁.heap = h0 := by rw [← hh, Bd.state]; rfl
  have N0 := Fr.nil n0
  obtain ⟨S0, hS0⟩ : ∃ z, z = s₁.setTop (entryFrame m #[(.int p0), (.int p1)] 2) := ⟨_, rfl⟩
  have pre0 : Go p.tables e below S0 s₁ (mkF m 0 #[vI p0, vI p1] []) := fun t k => by rw [hS0]; exact castTop (ef_5 m p0 p1) k
  have pre1 : Go p.tables e below S0 s₁ (mkF m 2 #[vI p0, vI p1] [(.int p1), (.int p0)]) := fun t k => pre0 t (by
    refine XS.iloadN X0.here hx rfl (hb hby d5_0) rfl ?_
    show Steps p.tables e below (s₁.setTop (mkF m 1 #[vI p0, vI p1] [(.int p0)])) _
    refine XS.iloadN X0.here hx rfl (hb hby d5_1) rfl ?_
    show Steps p.tables e below (s₁.setTop (mkF m 2 #[vI p0, vI p1] [(.int p1), (.int p0)])) _
    exact k)
  by_cases c2_2 : p0 < p1
  · skip
    have pre3 : Go p.tables e below S0 s₁ (mkF m 10 #[vI p0, vI p1] [(.int p1)]) := fun t k => pre1 t (by
      refine XS.icmpYes X0.here hx rfl (pc0 := 2) (pc' := 9) rfl (hb hby d5_2) rfl (tlt c2_2).1 (by decide) (by decide) ?_
      show Steps p.tables e below (s₁.setTop (mkF m 9 #[vI p0, vI p1] [])) _
      refine XS.iloadN X0.here hx rfl (hb hby d5_9) rfl ?_
      show Steps p.tables e below (s₁.setTop (mkF m 10 #[vI p0, vI p1] [(.int p1)])) _
      exact k)
    obtain ⟨fs, hr, hrun, hended, hW, hsame⟩ := X0.leave (v := some (.int p1)) (fun h => by rw [Bd.returns] at h; cases h)
    exact ⟨_, _, pre3.fin hS0 (retI X0 hx Bd.returns (hb hby d5_10) hr), hrun, hended, _, _, rfl, (by
      show Q5 Z p0 p1 h0 n0 _ s₁.heap _
      rw [e0]
      exact ⟨congrArg (fun z => some (Value.int z)) (by simp [own_max, c2_2]), N0, rfl⟩), ⟨_, rfl⟩, hW, hsame.mono (by decide) (by decide)⟩
  · skip
    have pre4 : Go p.tables e below S0 s₁ (mkF m 10 #[vI p0, vI p1] [(.int p0)]) := fun t k => pre1 t (by
      refine XS.icmpNo X0.here hx rfl (hb hby d5_2) rfl (flt c2_2).1 ?_
      show Steps p.tables e below (s₁.setTop (mkF m 5 #[vI p0, vI p1] [])) _
      refine XS.iloadN X0.here hx rfl (hb hby d5_5) rfl ?_
      show Steps p.tables e below (s₁.setTop (mkF m 6 #[vI p0, vI p1] [(.int p0)])) _
      refine XS.goto X0.here hx rfl (pc0 := 6) (pc' := 10) rfl (hb hby d5_6) (by decide) (by decide) ?_
      show Steps p.tables e below (s₁.setTop (mkF m 10 #[vI p0, vI p1] [(.int p0)])) _
      exact k)
    obtain ⟨fs, hr, hrun, hended, hW, hsame⟩ := X0.leave (v := some (.int p0)) (fun h => by rw [Bd.returns] at h; cases h)
    exact ⟨_, _, pre4.fin hS0 (retI X0 hx Bd.returns (hb hby d5_10) hr), hrun, hended, _, _, rfl, (by
      show Q5 Z p0 p1 h0 n0 _ s₁.heap _
      rw [e0]
      exact ⟨congrArg (fun z => some (Value.int z)) (by simp [own_max, c2_2]), N0, rfl⟩), ⟨_, rfl⟩, hW, hsame.mono (by decide) (by decide)⟩
theorem own_refl (m v : Int32) : ¬ (own_fits m v m v = (0 : Int32)) := by
  unfold own_fits; rw [if_neg (Int32.lt_irrefl), if_neg (Int32.lt_irrefl)]; decide
theorem own_lem (am bm : Int32) : own_max am bm = bm ↔ ¬ bm < am := by
  unfold own_max
  by_cases h : am < bm
  · rw [if_pos h]; rw [Int32.lt_iff_toInt_lt] at *; simp; omega
  · rw [if_neg h]; rw [Int32.lt_iff_toInt_lt] at *; rw [← Int32.toInt_inj]; omega
theorem own_k1 (am av bm bv j : Int32) (hj : (j = (1 : Int32) ∧ own_max am bm = bm ∧ own_max av bv = bv) ∨ (j = (0 : Int32) ∧ own_max am bm = bm ∧ ¬ (own_max av bv = bv)) ∨ (j = (0 : Int32) ∧ ¬ (own_max am bm = bm))) : own_fits am av bm bv = j := by
  simp only [own_lem] at hj
  unfold own_fits
  rcases hj with ⟨rfl, a, b⟩ | ⟨rfl, a, b⟩ | ⟨rfl, a⟩
  · rw [if_neg a, if_neg b]
  · rw [if_neg a, if_pos (Classical.not_not.mp b)]
  · rw [if_pos (Classical.not_not.mp a)]
theorem own_anti (am av bm bv : Int32) (h1 : ¬ (own_fits am av bm bv = (0 : Int32))) (h2 : ¬ (own_fits bm bv am av = (0 : Int32))) : am = bm ∧ av = bv := by
  unfold own_fits at h1 h2
  simp only [Int32.lt_iff_toInt_lt, ← Int32.toInt_inj] at *
  by_cases a : bm.toInt < am.toInt
  · simp [a] at h1
  · by_cases b : bv.toInt < av.toInt
    · simp [a, b] at h1
    · by_cases c : am.toInt < bm.toInt
      · simp [c] at h2
      · by_cases d : av.toInt < bv.toInt
        · simp [c, d] at h2
        · omega
theorem ef_0 (m : MethodId) (x0 : Int32) (x1 : Int32) (x2 : Int32) (x3 : Int32) : entryFrame m #[(.int x0), (.int x1), (.int x2), (.int x3)] maxLocals = mkF m 0 #[.val (.int x0), .val (.int x1), .val (.int x2), .val (.int x3), .unset, .unset, .unset, .unset, .unset, .unset, .unset] [] := by first | (simp [entryFrame, mkF, argsToLocals, Value.category, maxLocals]; done) | rfl
theorem pn_2 : plainName "com/example/scalecast/scalecast/ResourceFitsInPinLaw" = true := by first | (simp [plainName, overriddenIn]; done) | decide +kernel
theorem pd_1 : parseMethodDescriptor "(II)V" = some ⟨[.int, .int], none⟩ := by decide +kernel
theorem pd_2 : parseMethodDescriptor "(Lcom/example/scalecast/scalecast/Resource;)Z" = some ⟨[(.object "com/example/scalecast/scalecast/Resource")], some .boolean⟩ := by decide +kernel
theorem pd_3 : parseMethodDescriptor "(II)I" = some ⟨[.int, .int], some .int⟩ := by decide +kernel
def Q0 (Z : State) (p0 p1 p2 p3 : Int32) (h0 : Heap) (n0 : Nat) (v : Option Value) (h : Heap) (L : List Loc) : Prop := v = some (.int 1) ∧ Fr n0 L
set_option maxRecDepth 65536 in
set_option maxHeartbeats 40000000 in
theorem rm0 (l : Launch) (Z : State) (A0 : Array Value) (hw : ∀ d ∈ tables_1, d.before A0 Z = true) (ws : List Jvm.Cond) (p0 : Int32) (p1 : Int32) (p2 : Int32) (p3 : Int32)  (h0 : Heap) (n0 : Nat) (Z0 : n0 ≤ h0.size)  :
    MetFree l x (head1 (Jvm.Cond.code x code maxLocals ret :: ws) room_1) (fun a U => a = #[(.int p0), (.int p1), (.int p2), (.int p3)] ∧ Z.Warmed39 U.vm ∧ U.heap = h0) (fun _ _ _ _ _ => True) (fun _ U o U' => ∃ v L, o = .returned v ∧ Q0 Z p0 p1 p2 p3 h0 n0 v U'.heap L ∧ FrameEnd U o U' L 2 4) := by
  refine MetFree.of_bodySF (plainFor_of_name pn_2) hisR ?_
  intro p e s m args below meth c s₁ Bd hml0 hP hK
  obtain ⟨rfl, hZ, hh⟩ := hP
  have hx := Bd.exec
  have hby := Bd.bytes
  have hml : c.maxLocals = 11 := hml0
  have hown : s.vm.findClass "com/example/scalecast/scalecast/ResourceFitsInPinLaw" = some m.cls := findClass_of_methodNamed Bd.named
  have hnm := (name_of_methodNamed Bd.named Bd.method).1
  have X0 : Stand p l e room_1 s m #[(.int p0), (.int p1), (.int p2), (.int p3)] below meth c s₁ [] 0 0 := Stand.of_body Bd
  have e0 : s₁.heap = h0 := by rw [← hh, Bd.state]; rfl
  have N0 := Fr.nil n0
  obtain ⟨S0, hS0⟩ : ∃ z, z = s₁.setTop (entryFrame m #[(.int p0), (.int p1), (.int p2), (.int p3)] maxLocals) := ⟨_, rfl⟩
  have pre0 : Go p.tables e below S0 s₁ (mkF m 0 #[vI p0, vI p1, vI p2, vI p3, .unset, .unset, .unset, .unset, .unset, .unset, .unset] []) := fun t k => by rw [hS0]; exact castTop (ef_0 m p0 p1 p2 p3) k
  obtain ⟨T1, h1, X1, e1, E1, A1, D1, -, st1⟩ := newO X0 hx hZ hown (hw _ (List.mem_of_getElem? (i := 0) rfl)) (hw _ (List.mem_of_getElem? (i := 1) rfl)) (hw _ (List.mem_of_getElem? (i := 2) rfl)) e0 (g := (mkF m 0 #[vI p0, vI p1, vI p2, vI p3, .unset, .unset, .unset, .unset, .unset, .unset, .unset] [])) rfl (hb hby at_0) (by decide) (by decide)
  obtain ⟨b1, g1⟩ : ∃ z, z = h0.size := ⟨_, rfl⟩
  rw [← g1] at A1 D1 st1
  have pre1 : Go p.tables e below S0 T1 (mkF m 3 #[vI p0, vI p1, vI p2, vI p3, .unset, .unset, .unset, .unset, .unset, .unset, .unset] [(.ref b1)]) := fun t k => pre0 t (st1 t k)
  have bo1 : n0 ≤ b1 := Nat.le_trans Z0 (Nat.le_of_eq g1.symm)
  have zz3 : n0 ≤ h1.size := Nat.le_trans Z0 E1.1
  have fn1_memoryMb : Fld Z h1 b1 "com/example/scalecast/scalecast/Resource" "memoryMb" "I" (.int (0 : Int32)) := D1 (Or.inr (hw _ (List.mem_of_getElem? (i := 15) rfl))) (ty := .int) (by decide)
  have fn1_vcores : Fld Z h1 b1 "com/example/scalecast/scalecast/Resource" "vcores" "I" (.int (0 : Int32)) := D1 (Or.inr (hw _ (List.mem_of_getElem? (i := 17) rfl))) (ty := .int) (by decide)
  have pre4 : Go p.tables e below S0 T1 (mkF m 6 #[vI p0, vI p1, vI p2, vI p3, .unset, .unset, .unset, .unset, .unset, .unset, .unset] [(.int p1), (.int p0), (.ref b1), (.ref b1)]) := fun t k => pre1 t (by
    refine XS.dup X1.here hx rfl (hb hby at_3) rfl rfl ?_
    show Steps p.tables e below (T1.setTop (mkF m 4 #[vI p0, vI p1, vI p2, vI p3, .unset, .unset, .unset, .unset, .unset, .unset, .unset] [(.ref b1), (.ref b1)])) _
    refine XS.iloadN X1.here hx rfl (hb hby at_4) rfl ?_
    show Steps p.tables e below (T1.setTop (mkF m 5 #[vI p0, vI p1, vI p2, vI p3, .unset, .unset, .unset, .unset, .unset, .unset, .unset] [(.int p0), (.ref b1), (.ref b1)])) _
    refine XS.iloadN X1.here hx rfl (hb hby at_5) rfl ?_
    show Steps p.tables e below (T1.setTop (mkF m 6 #[vI p0, vI p1, vI p2, vI p3, .unset, .unset, .unset, .unset, .unset, .unset, .unset] [(.int p1), (.int p0), (.ref b1), (.ref b1)])) _
    exact k)
  obtain ⟨_, _, ⟨T5, L5, k5, n5⟩, -, X5, ⟨Lc5, hQ5, l5, y5, z5⟩, st5⟩ := X1.specialBack hx (y := (⟨"com/example/scalecast/scalecast/Resource", "<init>", "(II)V"⟩ : MethodName)) rfl hown (mvT hZ (hw _ (List.mem_of_getElem? (i := 3) rfl))) (mvT hZ (hw _ (List.mem_of_getElem? (i := 4) rfl))) (mvT hZ (hw _ (List.mem_of_getElem? (i := 5) rfl))) (by decide) (backOf (W := 1) (rm1 l Z A0 hw [] b1 p0 p1 h1 n0 zz3 A1 fn1_memoryMb fn1_vcores bo1) hZ (hw _ (List.mem_of_getElem? (i := 5) rfl)) (hw _ (List.mem_of_getElem? (i := 2) rfl)) (by decide) (by decide)) (g := (mkF m 6 #[vI p0, vI p1, vI p2, vI p3, .unset, .unset, .unset, .unset, .unset, .unset, .unset] [(.int p1), (.int p0), (.ref b1), (.ref b1)])) rfl (by rw [hml]; rfl) (Steps.refl _) (a := b1) (argsL := [(.int p0), (.int p1)]) (rest := [(.ref b1)]) (lenOf pd_1 rfl) rfl (by show 2 * 0 + _ ≤ _; exact Nat.le_of_eq rfl) (hb hby at_6) (fun _ _ => ⟨rfl, e1, (by decide : 1 + 0 ≤ _), (by decide : 2 + 0 ≤ _)⟩)
  dsimp only [Pt.U, Pt.locs, Pt.cells, Pt.slots] at X5 l5 y5 z5 st5 hQ5
  subst l5 y5 z5
  obtain ⟨rfl, Nq5, Kq5, nf5_0, nf5_1, nf5_2⟩ := hQ5
  have N5 := Fr.app N0 Nq5
  have pre5 : Go p.tables e below S0 T5 (mkF m 9 #[vI p0, vI p1, vI p2, vI p3, .unset, .unset, .unset, .unset, .unset, .unset, .unset] [(.ref b1)]) := fun t k => pre4 t (st5.trans k)
  have zz7 : n0 ≤ T5.heap.size := Nat.le_trans zz3 Kq5.1
  have pre8 : Go p.tables e below S0 T5 (mkF m 11 #[vI p0, vI p1, vI p2, vI p3, vR b1, .unset, .unset, .unset, .unset, .unset, .unset] []) := fun t k => pre5 t (by
    refine XS.astore X5.here hx rfl (hb hby at_9) rfl rfl (l' := #[vI p0, vI p1, vI p2, vI p3, vR b1, .unset, .unset, .unset, .unset, .unset, .unset]) rfl ?_
    show Steps p.tables e below (T5.setTop (mkF m 11 #[vI p0, vI p1, vI p2, vI p3, vR b1, .unset, .unset, .unset, .unset, .unset, .unset] [])) _
    exact k)
  obtain ⟨T9, h9, X9, e9, E9, A9, D9, -, st9⟩ := newO X5 hx hZ hown (hw _ (List.mem_of_getElem? (i := 0) rfl)) (hw _ (List.mem_of_getElem? (i := 1) rfl)) (hw _ (List.mem_of_getElem? (i := 2) rfl)) rfl (g := (mkF m 11 #[vI p0, vI p1, vI p2, vI p3, vR b1, .unset, .unset, .unset, .unset, .unset, .unset] [])) rfl (hb hby at_11) (by decide) (by decide)
  obtain ⟨b9, g9⟩ : ∃ z, z = T5.heap.size := ⟨_, rfl⟩
  rw [← g9] at A9 D9 st9
  have pre9 : Go p.tables e below S0 T9 (mkF m 14 #[vI p0, vI p1, vI p2, vI p3, vR b1, .unset, .unset, .unset, .unset, .unset, .unset] [(.ref b9)]) := fun t k => pre8 t (st9 t k)
  have ne10 : b1 ≠ b9 := Nat.ne_of_lt (Nat.lt_of_lt_of_le nf5_0.lt (Nat.le_of_eq g9.symm))
  have bo9 : n0 ≤ b9 := Nat.le_trans zz7 (Nat.le_of_eq g9.symm)
  have f11_1 := Exa.ext E9 nf5_0
  have f11_2 := Fld.ext E9 nf5_1
  have f11_3 := Fld.ext E9 nf5_2
  have zz12 : n0 ≤ h9.size := Nat.le_trans zz7 E9.1
  have fn9_memoryMb : Fld Z h9 b9 "com/example/scalecast/scalecast/Resource" "memoryMb" "I" (.int (0 : Int32)) := D9 (Or.inr (hw _ (List.mem_of_getElem? (i := 15) rfl))) (ty := .int) (by decide)
  have fn9_vcores : Fld Z h9 b9 "com/example/scalecast/scalecast/Resource" "vcores" "I" (.int (0 : Int32)) := D9 (Or.inr (hw _ (List.mem_of_getElem? (i := 17) rfl))) (ty := .int) (by decide)
  have pre13 : Go p.tables e below S0 T9 (mkF m 17 #[vI p0, vI p1, vI p2, vI p3, vR b1, .unset, .unset, .unset, .unset, .unset, .unset] [(.int p3), (.int p2), (.ref b9), (.ref b9)]) := fun t k => pre9 t (by
    refine XS.dup X9.here hx rfl (hb hby at_14) rfl rfl ?_
    show Steps p.tables e below (T9.setTop (mkF m 15 #[vI p0, vI p1, vI p2, vI p3, vR b1, .unset, .unset, .unset, .unset, .unset, .unset] [(.ref b9), (.ref b9)])) _
    refine XS.iloadN X9.here hx rfl (hb hby at_15) rfl ?_
    show Steps p.tables e below (T9.setTop (mkF m 16 #[vI p0, vI p1, vI p2, vI p3, vR b1, .unset, .unset, .unset, .unset, .unset, .unset] [(.int p2), (.ref b9), (.ref b9)])) _
    refine XS.iloadN X9.here hx rfl (hb hby at_16) rfl ?_
    show Steps p.tables e below (T9.setTop (mkF m 17 #[vI p0, vI p1, vI p2, vI p3, vR b1, .unset, .unset, .unset, .unset, .unset, .unset] [(.int p3), (.int p2), (.ref b9), (.ref b9)])) _
    exact k)
  obtain ⟨_, _, ⟨T14, L14, k14, n14⟩, -, X14, ⟨Lc14, hQ14, l14, y14, z14⟩, st14⟩ := X9.specialBack hx (y := (⟨"com/example/scalecast/scalecast/Resource", "<init>", "(II)V"⟩ : MethodName)) rfl hown (mvT hZ (hw _ (List.mem_of_getElem? (i := 3) rfl))) (mvT hZ (hw _ (List.mem_of_getElem? (i := 4) rfl))) (mvT hZ (hw _ (List.mem_of_getElem? (i := 5) rfl))) (by decide) (backOf (W := 1) (rm1 l Z A0 hw [] b9 p2 p3 h9 n0 zz12 A9 fn9_memoryMb fn9_vcores bo9) hZ (hw _ (List.mem_of_getElem? (i := 5) rfl)) (hw _ (List.mem_of_getElem? (i := 2) rfl)) (by decide) (by decide)) (g := (mkF m 17 #[vI p0, vI p1, vI p2, vI p3, vR b1, .unset, .unset, .unset, .unset, .unset, .unset] [(.int p3), (.int p2), (.ref b9), (.ref b9)])) rfl (by rw [hml]; rfl) (Steps.refl _) (a := b9) (argsL := [(.int p2), (.int p3)]) (rest := [(.ref b9)]) (lenOf pd_1 rfl) rfl (by show 2 * 0 + _ ≤ _; exact Nat.le_of_eq rfl) (hb hby at_17) (fun _ _ => ⟨rfl, e9, (by decide : 2 + 0 ≤ _), (by decide : 4 + 0 ≤ _)⟩)
  dsimp only [Pt.U, Pt.locs, Pt.cells, Pt.slots] at X14 l14 y14 z14 st14 hQ14
  subst l14 y14 z14
  obtain ⟨rfl, Nq14, Kq14, nf14_0, nf14_1, nf14_2⟩ := hQ14
  have N14 := Fr.app N5 Nq14
  have pre14 : Go p.tables e below S0 T14 (mkF m 20 #[vI p0, vI p1, vI p2, vI p3, vR b1, .unset, .unset, .unset, .unset, .unset, .unset] [(.ref b9)]) := fun t k => pre13 t (st14.trans k)
  have f15_1 := Exa.keep f11_1 Kq14
  have f15_2 := Fld.keep f11_2 Kq14 (ninS ne10 nin0)
  have f15_3 := Fld.keep f11_3 Kq14 (ninS ne10 nin0)
  have zz16 : n0 ≤ T14.heap.size := Nat.le_trans zz12 Kq14.1
  have pre17 : Go p.tables e below S0 T14 (mkF m 26 #[vI p0, vI p1, vI p2, vI p3, vR b1, vR b9, .unset, .unset, .unset, .unset, .unset] [(.ref b9), (.ref b1)]) := fun t k => pre14 t (by
    refine XS.astore X14.here hx rfl (hb hby at_20) rfl rfl (l' := #[vI p0, vI p1, vI p2, vI p3, vR b1, vR b9, .unset, .unset, .unset, .unset, .unset]) rfl ?_
    show Steps p.tables e below (T14.setTop (mkF m 22 #[vI p0, vI p1, vI p2, vI p3, vR b1, vR b9, .unset, .unset, .unset, .unset, .unset] [])) _
    refine XS.aload X14.here hx rfl (hb hby at_22) rfl rfl ?_
    show Steps p.tables e below (T14.setTop (mkF m 24 #[vI p0, vI p1, vI p2, vI p3, vR b1, vR b9, .unset, .unset, .unset, .unset, .unset] [(.ref b1)])) _
    refine XS.aload X14.here hx rfl (hb hby at_24) rfl rfl ?_
    show Steps p.tables e below (T14.setTop (mkF m 26 #[vI p0, vI p1, vI p2, vI p3, vR b1, vR b9, .unset, .unset, .unset, .unset, .unset] [(.ref b9), (.ref b1)])) _
    exact k)
  obtain ⟨cq18, kq18, qa18, qb18, qc18⟩ := isOf hZ rfl f15_1
  obtain ⟨_, _, ⟨T18, L18, k18, n18⟩, -, X18, ⟨Lc18, hQ18, l18, y18, z18⟩, st18⟩ := X14.virtualBack hx (y := (⟨"com/example/scalecast/scalecast/Resource", "fitsIn", "(Lcom/example/scalecast/scalecast/Resource;)Z"⟩ : MethodName)) (z := (⟨"com/example/scalecast/scalecast/Resource", "fitsIn", "(Lcom/example/scalecast/scalecast/Resource;)Z"⟩ : MethodName)) hown (mvT hZ (hw _ (List.mem_of_getElem? (i := 18) rfl))) (mvT hZ (hw _ (List.mem_of_getElem? (i := 19) rfl))) (notFace_of_selects (args := #[]) (mvT hZ (hw _ (List.mem_of_getElem? (i := 21) rfl)))) (mvT hZ (hw _ (List.mem_of_getElem? (i := 21) rfl))) (mvT hZ (hw _ (List.mem_of_getElem? (i := 20) rfl))) (by decide) (backOf (W := 0) (rm4 l Z A0 hw [] b1 b9 p0 p1 p2 p3 T14.heap n0 zz16 f15_2 f15_3 nf14_1 nf14_2) hZ (hw _ (List.mem_of_getElem? (i := 22) rfl)) (hw _ (List.mem_of_getElem? (i := 2) rfl)) (by decide) (by decide)) qa18 qc18 (g := (mkF m 26 #[vI p0, vI p1, vI p2, vI p3, vR b1, vR b9, .unset, .unset, .unset, .unset, .unset] [(.ref b9), (.ref b1)])) rfl (by rw [hml]; rfl) (Steps.refl _) (argsL := [(.ref b9)]) (rest := []) (lenOf pd_2 rfl) rfl (by show 2 * 0 + _ ≤ _; exact Nat.le_of_eq rfl) (hb hby at_26) (fun _ _ => ⟨rfl, rfl, (by decide : 2 + 0 ≤ _), (by decide : 4 + 0 ≤ _)⟩)
  dsimp only [Pt.U, Pt.locs, Pt.cells, Pt.slots] at X18 l18 y18 z18 st18 hQ18
  subst l18 y18 z18
  obtain ⟨rfl, Nq18, eq18⟩ := hQ18
  have N18 := Fr.app N14 Nq18
  have pre18 : Go p.tables e below S0 T18 (mkF m 29 #[vI p0, vI p1, vI p2, vI p3, vR b1, vR b9, .unset, .unset, .unset, .unset, .unset] [(.int (own_fits p0 p1 p2 p3))]) := fun t k => pre17 t (st18.trans k)
  have pre19 : Go p.tables e below S0 T18 (mkF m 35 #[vI p0, vI p1, vI p2, vI p3, vR b1, vR b9, vI (own_fits p0 p1 p2 p3), .unset, .unset, .unset, .unset] [(.ref b1), (.ref b9)]) := fun t k => pre18 t (by
    refine XS.istore X18.here hx rfl (hb hby at_29) rfl (l' := #[vI p0, vI p1, vI p2, vI p3, vR b1, vR b9, vI (own_fits p0 p1 p2 p3), .unset, .unset, .unset, .unset]) rfl ?_
    show Steps p.tables e below (T18.setTop (mkF m 31 #[vI p0, vI p1, vI p2, vI p3, vR b1, vR b9, vI (own_fits p0 p1 p2 p3), .unset, .unset, .unset, .unset] [])) _
    refine XS.aload X18.here hx rfl (hb hby at_31) rfl rfl ?_
    show Steps p.tables e below (T18.setTop (mkF m 33 #[vI p0, vI p1, vI p2, vI p3, vR b1, vR b9, vI (own_fits p0 p1 p2 p3), .unset, .unset, .unset, .unset] [(.ref b9)])) _
    refine XS.aload X18.here hx rfl (hb hby at_33) rfl rfl ?_
    show Steps p.tables e below (T18.setTop (mkF m 35 #[vI p0, vI p1, vI p2, vI p3, vR b1, vR b9, vI (own_fits p0 p1 p2 p3), .unset, .unset, .unset, .unset] [(.ref b1), (.ref b9)])) _
    exact k)
  obtain ⟨cq20, kq20, qa20, qb20, qc20⟩ := isOf hZ eq18 nf14_0
  obtain ⟨_, _, ⟨T20, L20, k20, n20⟩, -, X20, ⟨Lc20, hQ20, l20, y20, z20⟩, st20⟩ := X18.virtualBack hx (y := (⟨"com/example/scalecast/scalecast/Resource", "fitsIn", "(Lcom/example/scalecast/scalecast/Resource;)Z"⟩ : MethodName)) (z := (⟨"com/example/scalecast/scalecast/Resource", "fitsIn", "(Lcom/example/scalecast/scalecast/Resource;)Z"⟩ : MethodName)) hown (mvT hZ (hw _ (List.mem_of_getElem? (i := 18) rfl))) (mvT hZ (hw _ (List.mem_of_getElem? (i := 19) rfl))) (notFace_of_selects (args := #[]) (mvT hZ (hw _ (List.mem_of_getElem? (i := 21) rfl)))) (mvT hZ (hw _ (List.mem_of_getElem? (i := 21) rfl))) (mvT hZ (hw _ (List.mem_of_getElem? (i := 20) rfl))) (by decide) (backOf (W := 0) (rm4 l Z A0 hw [] b9 b1 p2 p3 p0 p1 T14.heap n0 zz16 nf14_1 nf14_2 f15_2 f15_3) hZ (hw _ (List.mem_of_getElem? (i := 22) rfl)) (hw _ (List.mem_of_getElem? (i := 2) rfl)) (by decide) (by decide)) qa20 qc20 (g := (mkF m 35 #[vI p0, vI p1, vI p2, vI p3, vR b1, vR b9, vI (own_fits p0 p1 p2 p3), .unset, .unset, .unset, .unset] [(.ref b1), (.ref b9)])) rfl (by rw [hml]; rfl) (Steps.refl _) (argsL := [(.ref b1)]) (rest := []) (lenOf pd_2 rfl) rfl (by show 2 * 0 + _ ≤ _; exact Nat.le_of_eq rfl) (hb hby at_35) (fun _ _ => ⟨rfl, eq18, (by decide : 2 + 0 ≤ _), (by decide : 4 + 0 ≤ _)⟩)
  dsimp only [Pt.U, Pt.locs, Pt.cells, Pt.slots] at X20 l20 y20 z20 st20 hQ20
  subst l20 y20 z20
  obtain ⟨rfl, Nq20, eq20⟩ := hQ20
  have N20 := Fr.app N18 Nq20
  have pre20 : Go p.tables e below S0 T20 (mkF m 38 #[vI p0, vI p1, vI p2, vI p3, vR b1, vR b9, vI (own_fits p0 p1 p2 p3), .unset, .unset, .unset, .unset] [(.int (own_fits p2 p3 p0 p1))]) := fun t k => pre19 t (st20.trans k)
  have pre21 : Go p.tables e below S0 T20 (mkF m 44 #[vI p0, vI p1, vI p2, vI p3, vR b1, vR b9, vI (own_fits p0 p1 p2 p3), vI (own_fits p2 p3 p0 p1), .unset, .unset, .unset] [(.ref b1), (.ref b1)]) := fun t k => pre20 t (by
    refine XS.istore X20.here hx rfl (hb hby at_38) rfl (l' := #[vI p0, vI p1, vI p2, vI p3, vR b1, vR b9, vI (own_fits p0 p1 p2 p3), vI (own_fits p2 p3 p0 p1), .unset, .unset, .unset]) rfl ?_
    show Steps p.tables e below (T20.setTop (mkF m 40 #[vI p0, vI p1, vI p2, vI p3, vR b1, vR b9, vI (own_fits p0 p1 p2 p3), vI (own_fits p2 p3 p0 p1), .unset, .unset, .unset] [])) _
    refine XS.aload X20.here hx rfl (hb hby at_40) rfl rfl ?_
    show Steps p.tables e below (T20.setTop (mkF m 42 #[vI p0, vI p1, vI p2, vI p3, vR b1, vR b9, vI (own_fits p0 p1 p2 p3), vI (own_fits p2 p3 p0 p1), .unset, .unset, .unset] [(.ref b1)])) _
    refine XS.aload X20.here hx rfl (hb hby at_42) rfl rfl ?_
    show Steps p.tables e below (T20.setTop (mkF m 44 #[vI p0, vI p1, vI p2, vI p3, vR b1, vR b9, vI (own_fits p0 p1 p2 p3), vI (own_fits p2 p3 p0 p1), .unset, .unset, .unset] [(.ref b1), (.ref b1)])) _
    exact k)
  obtain ⟨cq22, kq22, qa22, qb22, qc22⟩ := isOf hZ eq20 f15_1
  obtain ⟨_, _, ⟨T22, L22, k22, n22⟩, -, X22, ⟨Lc22, hQ22, l22, y22, z22⟩, st22⟩ := X20.virtualBack hx (y := (⟨"com/example/scalecast/scalecast/Resource", "fitsIn", "(Lcom/example/scalecast/scalecast/Resource;)Z"⟩ : MethodName)) (z := (⟨"com/example/scalecast/scalecast/Resource", "fitsIn", "(Lcom/example/scalecast/scalecast/Resource;)Z"⟩ : MethodName)) hown (mvT hZ (hw _ (List.mem_of_getElem? (i := 18) rfl))) (mvT hZ (hw _ (List.mem_of_getElem? (i := 19) rfl))) (notFace_of_selects (args := #[]) (mvT hZ (hw _ (List.mem_of_getElem? (i := 21) rfl)))) (mvT hZ (hw _ (List.mem_of_getElem? (i := 21) rfl))) (mvT hZ (hw _ (List.mem_of_getElem? (i := 20) rfl))) (by decide) (backOf (W := 0) (rm4 l Z A0 hw [] b1 b1 p0 p1 p0 p1 T14.heap n0 zz16 f15_2 f15_3 f15_2 f15_3) hZ (hw _ (List.mem_of_getElem? (i := 22) rfl)) (hw _ (List.mem_of_getElem? (i := 2) rfl)) (by decide) (by decide)) qa22 qc22 (g := (mkF m 44 #[vI p0, vI p1, vI p2, vI p3, vR b1, vR b9, vI (own_fits p0 p1 p2 p3), vI (own_fits p2 p3 p0 p1), .unset, .unset, .unset] [(.ref b1), (.ref b1)])) rfl (by rw [hml]; rfl) (Steps.refl _) (argsL := [(.ref b1)]) (rest := []) (lenOf pd_2 rfl) rfl (by show 2 * 0 + _ ≤ _; exact Nat.le_of_eq rfl) (hb hby at_44) (fun _ _ => ⟨rfl, eq20, (by decide : 2 + 0 ≤ _), (by decide : 4 + 0 ≤ _)⟩)
  dsimp only [Pt.U, Pt.locs, Pt.cells, Pt.slots] at X22 l22 y22 z22 st22 hQ22
  subst l22 y22 z22
  obtain ⟨rfl, Nq22, eq22⟩ := hQ22
  have N22 := Fr.app N20 Nq22
  have pre22 : Go p.tables e below S0 T22 (mkF m 47 #[vI p0, vI p1, vI p2, vI p3, vR b1, vR b9, vI (own_fits p0 p1 p2 p3), vI (own_fits p2 p3 p0 p1), .unset, .unset, .unset] [(.int (own_fits p0 p1 p0 p1))]) := fun t k => pre21 t (st22.trans k)
  have pre23 : Go p.tables e below S0 T22 (mkF m 51 #[vI p0, vI p1, vI p2, vI p3, vR b1, vR b9, vI (own_fits p0 p1 p2 p3), vI (own_fits p2 p3 p0 p1), vI (own_fits p0 p1 p0 p1), .unset, .unset] [(.int p2), (.int p0)]) := fun t k => pre22 t (by
    refine XS.istore X22.here hx rfl (hb hby at_47) rfl (l' := #[vI p0, vI p1, vI p2, vI p3, vR b1, vR b9, vI (own_fits p0 p1 p2 p3), vI (own_fits p2 p3 p0 p1), vI (own_fits p0 p1 p0 p1), .unset, .unset]) rfl ?_
    show Steps p.tables e below (T22.setTop (mkF m 49 #[vI p0, vI p1, vI p2, vI p3, vR b1, vR b9, vI (own_fits p0 p1 p2 p3), vI (own_fits p2 p3 p0 p1), vI (own_fits p0 p1 p0 p1), .unset, .unset] [])) _
    refine XS.iloadN X22.here hx rfl (hb hby at_49) rfl ?_
    show Steps p.tables e below (T22.setTop (mkF m 50 #[vI p0, vI p1, vI p2, vI p3, vR b1, vR b9, vI (own_fits p0 p1 p2 p3), vI (own_fits p2 p3 p0 p1), vI (own_fits p0 p1 p0 p1), .unset, .unset] [(.int p0)])) _
    refine XS.iloadN X22.here hx rfl (hb hby at_50) rfl ?_
    show Steps p.tables e below (T22.setTop (mkF m 51 #[vI p0, vI p1, vI p2, vI p3, vR b1, vR b9, vI (own_fits p0 p1 p2 p3), vI (own_fits p2 p3 p0 p1), vI (own_fits p0 p1 p0 p1), .unset, .unset] [(.int p2), (.int p0)])) _
    exact k)
  obtain ⟨_, _, ⟨T24, L24, k24, n24⟩, -, X24, ⟨Lc24, hQ24, l24, y24, z24⟩, st24⟩ := Jvm.LawKit.callS X22 hx (y := (⟨"java/lang/Math", "max", "(II)I"⟩ : MethodName)) hown (mvT hZ (hw _ (List.mem_of_getElem? (i := 23) rfl))) (mvT hZ (hw _ (List.mem_of_getElem? (i := 24) rfl))) (mvT hZ (hw _ (List.mem_of_getElem? (i := 25) rfl))) (mvT hZ (hw _ (List.mem_of_getElem? (i := 26) rfl))) (by decide) (backOf (W := 0) (rm5 l Z A0 hw [] p0 p2 T14.heap n0 zz16) hZ (hw _ (List.mem_of_getElem? (i := 26) rfl)) (hw _ (List.mem_of_getElem? (i := 25) rfl)) (by decide) (by decide)) (g := (mkF m 51 #[vI p0, vI p1, vI p2, vI p3, vR b1, vR b9, vI (own_fits p0 p1 p2 p3), vI (own_fits p2 p3 p0 p1), vI (own_fits p0 p1 p0 p1), .unset, .unset] [(.int p2), (.int p0)])) rfl (by rw [hml]; rfl) (argsL := [(.int p0), (.int p2)]) (rest := []) (lenOf pd_3 rfl) rfl (by show 2 * 0 + _ ≤ _; exact Nat.le_of_eq rfl) (hb hby at_51) (fun _ _ => ⟨rfl, eq22, (by decide : 2 + 0 ≤ _), (by decide : 4 + 0 ≤ _)⟩)
  dsimp only [Pt.U, Pt.locs, Pt.cells, Pt.slots] at X24 l24 y24 z24 st24 hQ24
  subst l24 y24 z24
  obtain ⟨rfl, Nq24, eq24⟩ := hQ24
  have N24 := Fr.app N22 Nq24
  have pre24 : Go p.tables e below S0 T24 (mkF m 54 #[vI p0, vI p1, vI p2, vI p3, vR b1, vR b9, vI (own_fits p0 p1 p2 p3), vI (own_fits p2 p3 p0 p1), vI (own_fits p0 p1 p0 p1), .unset, .unset] [(.int (own_max p0 p2))]) := fun t k => pre23 t (st24 t k)
  have pre25 : Go p.tables e below S0 T24 (mkF m 55 #[vI p0, vI p1, vI p2, vI p3, vR b1, vR b9, vI (own_fits p0 p1 p2 p3), vI (own_fits p2 p3 p0 p1), vI (own_fits p0 p1 p0 p1), .unset, .unset] [(.int p2), (.int (own_max p0 p2))]) := fun t k => pre24 t (by
    refine XS.iloadN X24.here hx rfl (hb hby at_54) rfl ?_
    show Steps p.tables e below (T24.setTop (mkF m 55 #[vI p0, vI p1, vI p2, vI p3, vR b1, vR b9, vI (own_fits p0 p1 p2 p3), vI (own_fits p2 p3 p0 p1), vI (own_fits p0 p1 p0 p1), .unset, .unset] [(.int p2), (.int (own_max p0 p2))])) _
    exact k)
  refine cps (A := ∃ (T35 : State) (Lo35 : List Loc) (j72_s0_34 : Int32), (Stand p l e room_1 s m #[(.int p0), (.int p1), (.int p2), (.int p3)] below meth c T35 Lo35 2 4) ∧ (T35.heap = T14.heap) ∧ (Fr n0 Lo35) ∧ (((j72_s0_34 = (1 : Int32)) ∧ ((own_max p0 p2) = p2) ∧ ((own_max p1 p3) = p3)) ∨ ((j72_s0_34 = (0 : Int32)) ∧ ((own_max p0 p2) = p2) ∧ (¬ ((own_max p1 p3) = p3))) ∨ ((j72_s0_34 = (0 : Int32)) ∧ (¬ ((own_max p0 p2) = p2)))) ∧ (Go p.tables e below S0 T35 (mkF m 72 #[vI p0, vI p1, vI p2, vI p3, vR b1, vR b9, vI (own_fits p0 p1 p2 p3), vI (own_fits p2 p3 p0 p1), vI (own_fits p0 p1 p0 p1), .unset, .unset] [(.int j72_s0_34)]))) (fun tail38 => ?_) ?_
  · skip
    by_cases c55_26 : (own_max p0 p2) = p2
    · skip
      have pre27 : Go p.tables e below S0 T24 (mkF m 60 #[vI p0, vI p1, vI p2, vI p3, vR b1, vR b9, vI (own_fits p0 p1 p2 p3), vI (own_fits p2 p3 p0 p1), vI (own_fits p0 p1 p0 p1), .unset, .unset] [(.int p3), (.int p1)]) := fun t k => pre25 t (by
        refine XS.icmpNo X24.here hx rfl (hb hby at_55) rfl (teq c55_26).2 ?_
        show Steps p.tables e below (T24.setTop (mkF m 58 #[vI p0, vI p1, vI p2, vI p3, vR b1, vR b9, vI (own_fits p0 p1 p2 p3), vI (own_fits p2 p3 p0 p1), vI (own_fits p0 p1 p0 p1), .unset, .unset] [])) _
        refine XS.iloadN X24.here hx rfl (hb hby at_58) rfl ?_
        show Steps p.tables e below (T24.setTop (mkF m 59 #[vI p0, vI p1, vI p2, vI p3, vR b1, vR b9, vI (own_fits p0 p1 p2 p3), vI (own_fits p2 p3 p0 p1), vI (own_fits p0 p1 p0 p1), .unset, .unset] [(.int p1)])) _
        refine XS.iloadN X24.here hx rfl (hb hby at_59) rfl ?_
        show Steps p.tables e below (T24.setTop (mkF m 60 #[vI p0, vI p1, vI p2, vI p3, vR b1, vR b9, vI (own_fits p0 p1 p2 p3), vI (own_fits p2 p3 p0 p1), vI (own_fits p0 p1 p0 p1), .unset, .unset] [(.int p3), (.int p1)])) _
        exact k)
      obtain ⟨_, _, ⟨T28, L28, k28, n28⟩, -, X28, ⟨Lc28, hQ28, l28, y28, z28⟩, st28⟩ := Jvm.LawKit.callS X24 hx (y := (⟨"java/lang/Math", "max", "(II)I"⟩ : MethodName)) hown (mvT hZ (hw _ (List.mem_of_getElem? (i := 23) rfl))) (mvT hZ (hw _ (List.mem_of_getElem? (i := 24) rfl))) (mvT hZ (hw _ (List.mem_of_getElem? (i := 25) rfl))) (mvT hZ (hw _ (List.mem_of_getElem? (i := 26) rfl))) (by decide) (backOf (W := 0) (rm5 l Z A0 hw [] p1 p3 T14.heap n0 zz16) hZ (hw _ (List.mem_of_getElem? (i := 26) rfl)) (hw _ (List.mem_of_getElem? (i := 25) rfl)) (by decide) (by decide)) (g := (mkF m 60 #[vI p0, vI p1, vI p2, vI p3, vR b1, vR b9, vI (own_fits p0 p1 p2 p3), vI (own_fits p2 p3 p0 p1), vI (own_fits p0 p1 p0 p1), .unset, .unset] [(.int p3), (.int p1)])) rfl (by rw [hml]; rfl) (argsL := [(.int p1), (.int p3)]) (rest := []) (lenOf pd_3 rfl) rfl (by show 2 * 0 + _ ≤ _; exact Nat.le_of_eq rfl) (hb hby at_60) (fun _ _ => ⟨rfl, eq24, (by decide : 2 + 0 ≤ _), (by decide : 4 + 0 ≤ _)⟩)
      dsimp only [Pt.U, Pt.locs, Pt.cells, Pt.slots] at X28 l28 y28 z28 st28 hQ28
      subst l28 y28 z28
      obtain ⟨rfl, Nq28, eq28⟩ := hQ28
      have N28 := Fr.app N24 Nq28
      have pre28 : Go p.tables e below S0 T28 (mkF m 63 #[vI p0, vI p1, vI p2, vI p3, vR b1, vR b9, vI (own_fits p0 p1 p2 p3), vI (own_fits p2 p3 p0 p1), vI (own_fits p0 p1 p0 p1), .unset, .unset] [(.int (own_max p1 p3))]) := fun t k => pre27 t (st28 t k)
      have pre29 : Go p.tables e below S0 T28 (mkF m 64 #[vI p0, vI p1, vI p2, vI p3, vR b1, vR b9, vI (own_fits p0 p1 p2 p3), vI (own_fits p2 p3 p0 p1), vI (own_fits p0 p1 p0 p1), .unset, .unset] [(.int p3), (.int (own_max p1 p3))]) := fun t k => pre28 t (by
        refine XS.iloadN X28.here hx rfl (hb hby at_63) rfl ?_
        show Steps p.tables e below (T28.setTop (mkF m 64 #[vI p0, vI p1, vI p2, vI p3, vR b1, vR b9, vI (own_fits p0 p1 p2 p3), vI (own_fits p2 p3 p0 p1), vI (own_fits p0 p1 p0 p1), .unset, .unset] [(.int p3), (.int (own_max p1 p3))])) _
        exact k)
      by_cases c64_30 : (own_max p1 p3) = p3
      · skip
        have pre31 : Go p.tables e below S0 T28 (mkF m 72 #[vI p0, vI p1, vI p2, vI p3, vR b1, vR b9, vI (own_fits p0 p1 p2 p3), vI (own_fits p2 p3 p0 p1), vI (own_fits p0 p1 p0 p1), .unset, .unset] [(.int (1 : Int32))]) := fun t k => pre29 t (by
          refine XS.icmpNo X28.here hx rfl (hb hby at_64) rfl (teq c64_30).2 ?_
          show Steps p.tables e below (T28.setTop (mkF m 67 #[vI p0, vI p1, vI p2, vI p3, vR b1, vR b9, vI (own_fits p0 p1 p2 p3), vI (own_fits p2 p3 p0 p1), vI (own_fits p0 p1 p0 p1), .unset, .unset] [])) _
          refine XS.iconst X28.here hx rfl (hb hby at_67) ?_
          show Steps p.tables e below (T28.setTop (mkF m 68 #[vI p0, vI p1, vI p2, vI p3, vR b1, vR b9, vI (own_fits p0 p1 p2 p3), vI (own_fits p2 p3 p0 p1), vI (own_fits p0 p1 p0 p1), .unset, .unset] [(.int (1 : Int32))])) _
          refine XS.goto X28.here hx rfl (pc0 := 68) (pc' := 72) rfl (hb hby at_68) (by decide) (by decide) ?_
          show Steps p.tables e below (T28.setTop (mkF m 72 #[vI p0, vI p1, vI p2, vI p3, vR b1, vR b9, vI (own_fits p0 p1 p2 p3), vI (own_fits p2 p3 p0 p1), vI (own_fits p0 p1 p0 p1), .unset, .unset] [(.int (1 : Int32))])) _
          exact k)
        exact tail38 ⟨T28, _, (1 : Int32), X28.more (by decide) (by decide), eq28, N28, (Or.inl ⟨rfl, c55_26, c64_30⟩), pre31⟩
      · skip
        have pre32 : Go p.tables e below S0 T28 (mkF m 72 #[vI p0, vI p1, vI p2, vI p3, vR b1, vR b9, vI (own_fits p0 p1 p2 p3), vI (own_fits p2 p3 p0 p1), vI (own_fits p0 p1 p0 p1), .unset, .unset] [(.int (0 : Int32))]) := fun t k => pre29 t (by
          refine XS.icmpYes X28.here hx rfl (pc0 := 64) (pc' := 71) rfl (hb hby at_64) rfl (feq c64_30).2 (by decide) (by decide) ?_
          show Steps p.tables e below (T28.setTop (mkF m 71 #[vI p0, vI p1, vI p2, vI p3, vR b1, vR b9, vI (own_fits p0 p1 p2 p3), vI (own_fits p2 p3 p0 p1), vI (own_fits p0 p1 p0 p1), .unset, .unset] [])) _
          refine XS.iconst X28.here hx rfl (hb hby at_71) ?_
          show Steps p.tables e below (T28.setTop (mkF m 72 #[vI p0, vI p1, vI p2, vI p3, vR b1, vR b9, vI (own_fits p0 p1 p2 p3), vI (own_fits p2 p3 p0 p1), vI (own_fits p0 p1 p0 p1), .unset, .unset] [(.int (0 : Int32))])) _
          exact k)
        exact tail38 ⟨T28, _, (0 : Int32), X28.more (by decide) (by decide), eq28, N28, (Or.inr (Or.inl ⟨rfl, c55_26, c64_30⟩)), pre32⟩
    · skip
      have pre33 : Go p.tables e below S0 T24 (mkF m 72 #[vI p0, vI p1, vI p2, vI p3, vR b1, vR b9, vI (own_fits p0 p1 p2 p3), vI (own_fits p2 p3 p0 p1), vI (own_fits p0 p1 p0 p1), .unset, .unset] [(.int (0 : Int32))]) := fun t k => pre25 t (by
        refine XS.icmpYes X24.here hx rfl (pc0 := 55) (pc' := 71) rfl (hb hby at_55) rfl (feq c55_26).2 (by decide) (by decide) ?_
        show Steps p.tables e below (T24.setTop (mkF m 71 #[vI p0, vI p1, vI p2, vI p3, vR b1, vR b9, vI (own_fits p0 p1 p2 p3), vI (own_fits p2 p3 p0 p1), vI (own_fits p0 p1 p0 p1), .unset, .unset] [])) _
        refine XS.iconst X24.here hx rfl (hb hby at_71) ?_
        show Steps p.tables e below (T24.setTop (mkF m 72 #[vI p0, vI p1, vI p2, vI p3, vR b1, vR b9, vI (own_fits p0 p1 p2 p3), vI (own_fits p2 p3 p0 p1), vI (own_fits p0 p1 p0 p1), .unset, .unset] [(.int (0 : Int32))])) _
        exact k)
      exact tail38 ⟨T24, _, (0 : Int32), X24.more (by decide) (by decide), eq24, N24, (Or.inr (Or.inr ⟨rfl, c55_26⟩)), pre33⟩
  rintro ⟨T35, Lo35, j72_s0_34, X35, e35, N35, hj72_36, pre37⟩
  have key1 : own_fits p0 p1 p2 p3 = j72_s0_34 := own_k1 _ _ _ _ _ hj72_36
  have pre39 : Go p.tables e below S0 T35 (mkF m 76 #[vI p0, vI p1, vI p2, vI p3, vR b1, vR b9, vI (own_fits p0 p1 p2 p3), vI (own_fits p2 p3 p0 p1), vI (own_fits p0 p1 p0 p1), vI j72_s0_34, .unset] [(.int (own_fits p0 p1 p2 p3))]) := fun t k => pre37 t (by
    refine XS.istore X35.here hx rfl (hb hby at_72) rfl (l' := #[vI p0, vI p1, vI p2, vI p3, vR b1, vR b9, vI (own_fits p0 p1 p2 p3), vI (own_fits p2 p3 p0 p1), vI (own_fits p0 p1 p0 p1), vI j72_s0_34, .unset]) rfl ?_
    show Steps p.tables e below (T35.setTop (mkF m 74 #[vI p0, vI p1, vI p2, vI p3, vR b1, vR b9, vI (own_fits p0 p1 p2 p3), vI (own_fits p2 p3 p0 p1), vI (own_fits p0 p1 p0 p1), vI j72_s0_34, .unset] [])) _
    refine XS.iload X35.here hx rfl (hb hby at_74) rfl ?_
    show Steps p.tables e below (T35.setTop (mkF m 76 #[vI p0, vI p1, vI p2, vI p3, vR b1, vR b9, vI (own_fits p0 p1 p2 p3), vI (own_fits p2 p3 p0 p1), vI (own_fits p0 p1 p0 p1), vI j72_s0_34, .unset] [(.int (own_fits p0 p1 p2 p3))])) _
    exact k)
  refine cps (A := ∃ (j99_s0_52 : Int32), (((j99_s0_52 = (1 : Int32)) ∧ ((own_fits p0 p1 p2 p3) = (0 : Int32))) ∨ ((j99_s0_52 = (1 : Int32)) ∧ (¬ ((own_fits p0 p1 p2 p3) = (0 : Int32))) ∧ ((own_fits p2 p3 p0 p1) = (0 : Int32))) ∨ ((j99_s0_52 = (1 : Int32)) ∧ (¬ ((own_fits p0 p1 p2 p3) = (0 : Int32))) ∧ (¬ ((own_fits p2 p3 p0 p1) = (0 : Int32))) ∧ (p0 = p2) ∧ (p1 = p3)) ∨ ((j99_s0_52 = (0 : Int32)) ∧ (¬ ((own_fits p0 p1 p2 p3) = (0 : Int32))) ∧ (¬ ((own_fits p2 p3 p0 p1) = (0 : Int32))) ∧ (p0 = p2) ∧ (¬ (p1 = p3))) ∨ ((j99_s0_52 = (0 : Int32)) ∧ (¬ ((own_fits p0 p1 p2 p3) = (0 : Int32))) ∧ (¬ ((own_fits p2 p3 p0 p1) = (0 : Int32))) ∧ (¬ (p0 = p2)))) ∧ (Go p.tables e below S0 T35 (mkF m 99 #[vI p0, vI p1, vI p2, vI p3, vR b1, vR b9, vI (own_fits p0 p1 p2 p3), vI (own_fits p2 p3 p0 p1), vI (own_fits p0 p1 p0 p1), vI j72_s0_34, .unset] [(.int j99_s0_52)]))) (fun tail55 => ?_) ?_
  · skip
    by_cases c76_40 : (own_fits p0 p1 p2 p3) = (0 : Int32)
    · skip
      have pre41 : Go p.tables e below S0 T35 (mkF m 99 #[vI p0, vI p1, vI p2, vI p3, vR b1, vR b9, vI (own_fits p0 p1 p2 p3), vI (own_fits p2 p3 p0 p1), vI (own_fits p0 p1 p0 p1), vI j72_s0_34, .unset] [(.int (1 : Int32))]) := fun t k => pre39 t (by
        refine XS.ifYes X35.here hx rfl (pc0 := 76) (pc' := 94) rfl (hb hby at_76) rfl ((if0 _ _).trans (teq c76_40).1) (by decide) (by decide) ?_
        show Steps p.tables e below (T35.setTop (mkF m 94 #[vI p0, vI p1, vI p2, vI p3, vR b1, vR b9, vI (own_fits p0 p1 p2 p3), vI (own_fits p2 p3 p0 p1), vI (own_fits p0 p1 p0 p1), vI j72_s0_34, .unset] [])) _
        refine XS.iconst X35.here hx rfl (hb hby at_94) ?_
        show Steps p.tables e below (T35.setTop (mkF m 95 #[vI p0, vI p1, vI p2, vI p3, vR b1, vR b9, vI (own_fits p0 p1 p2 p3), vI (own_fits p2 p3 p0 p1), vI (own_fits p0 p1 p0 p1), vI j72_s0_34, .unset] [(.int (1 : Int32))])) _
        refine XS.goto X35.here hx rfl (pc0 := 95) (pc' := 99) rfl (hb hby at_95) (by decide) (by decide) ?_
        show Steps p.tables e below (T35.setTop (mkF m 99 #[vI p0, vI p1, vI p2, vI p3, vR b1, vR b9, vI (own_fits p0 p1 p2 p3), vI (own_fits p2 p3 p0 p1), vI (own_fits p0 p1 p0 p1), vI j72_s0_34, .unset] [(.int (1 : Int32))])) _
        exact k)
      exact tail55 ⟨(1 : Int32), (Or.inl ⟨rfl, c76_40⟩), pre41⟩
    · skip
      have pre42 : Go p.tables e below S0 T35 (mkF m 81 #[vI p0, vI p1, vI p2, vI p3, vR b1, vR b9, vI (own_fits p0 p1 p2 p3), vI (own_fits p2 p3 p0 p1), vI (own_fits p0 p1 p0 p1), vI j72_s0_34, .unset] [(.int (own_fits p2 p3 p0 p1))]) := fun t k => pre39 t (by
        refine XS.ifNo X35.here hx rfl (hb hby at_76) rfl ((if0 _ _).trans (feq c76_40).1) ?_
        show Steps p.tables e below (T35.setTop (mkF m 79 #[vI p0, vI p1, vI p2, vI p3, vR b1, vR b9, vI (own_fits p0 p1 p2 p3), vI (own_fits p2 p3 p0 p1), vI (own_fits p0 p1 p0 p1), vI j72_s0_34, .unset] [])) _
        refine XS.iload X35.here hx rfl (hb hby at_79) rfl ?_
        show Steps p.tables e below (T35.setTop (mkF m 81 #[vI p0, vI p1, vI p2, vI p3, vR b1, vR b9, vI (own_fits p0 p1 p2 p3), vI (own_fits p2 p3 p0 p1), vI (own_fits p0 p1 p0 p1), vI j72_s0_34, .unset] [(.int (own_fits p2 p3 p0 p1))])) _
        exact k)
      by_cases c81_43 : (own_fits p2 p3 p0 p1) = (0 : Int32)
      · skip
        have pre44 : Go p.tables e below S0 T35 (mkF m 99 #[vI p0, vI p1, vI p2, vI p3, vR b1, vR b9, vI (own_fits p0 p1 p2 p3), vI (own_fits p2 p3 p0 p1), vI (own_fits p0 p1 p0 p1), vI j72_s0_34, .unset] [(.int (1 : Int32))]) := fun t k => pre42 t (by
          refine XS.ifYes X35.here hx rfl (pc0 := 81) (pc' := 94) rfl (hb hby at_81) rfl ((if0 _ _).trans (teq c81_43).1) (by decide) (by decide) ?_
          show Steps p.tables e below (T35.setTop (mkF m 94 #[vI p0, vI p1, vI p2, vI p3, vR b1, vR b9, vI (own_fits p0 p1 p2 p3), vI (own_fits p2 p3 p0 p1), vI (own_fits p0 p1 p0 p1), vI j72_s0_34, .unset] [])) _
          refine XS.iconst X35.here hx rfl (hb hby at_94) ?_
          show Steps p.tables e below (T35.setTop (mkF m 95 #[vI p0, vI p1, vI p2, vI p3, vR b1, vR b9, vI (own_fits p0 p1 p2 p3), vI (own_fits p2 p3 p0 p1), vI (own_fits p0 p1 p0 p1), vI j72_s0_34, .unset] [(.int (1 : Int32))])) _
          refine XS.goto X35.here hx rfl (pc0 := 95) (pc' := 99) rfl (hb hby at_95) (by decide) (by decide) ?_
          show Steps p.tables e below (T35.setTop (mkF m 99 #[vI p0, vI p1, vI p2, vI p3, vR b1, vR b9, vI (own_fits p0 p1 p2 p3), vI (own_fits p2 p3 p0 p1), vI (own_fits p0 p1 p0 p1), vI j72_s0_34, .unset] [(.int (1 : Int32))])) _
          exact k)
        exact tail55 ⟨(1 : Int32), (Or.inr (Or.inl ⟨rfl, c76_40, c81_43⟩)), pre44⟩
      · skip
        have pre45 : Go p.tables e below S0 T35 (mkF m 86 #[vI p0, vI p1, vI p2, vI p3, vR b1, vR b9, vI (own_fits p0 p1 p2 p3), vI (own_fits p2 p3 p0 p1), vI (own_fits p0 p1 p0 p1), vI j72_s0_34, .unset] [(.int p2), (.int p0)]) := fun t k => pre42 t (by
          refine XS.ifNo X35.here hx rfl (hb hby at_81) rfl ((if0 _ _).trans (feq c81_43).1) ?_
          show Steps p.tables e below (T35.setTop (mkF m 84 #[vI p0, vI p1, vI p2, vI p3, vR b1, vR b9, vI (own_fits p0 p1 p2 p3), vI (own_fits p2 p3 p0 p1), vI (own_fits p0 p1 p0 p1), vI j72_s0_34, .unset] [])) _
          refine XS.iloadN X35.here hx rfl (hb hby at_84) rfl ?_
          show Steps p.tables e below (T35.setTop (mkF m 85 #[vI p0, vI p1, vI p2, vI p3, vR b1, vR b9, vI (own_fits p0 p1 p2 p3), vI (own_fits p2 p3 p0 p1), vI (own_fits p0 p1 p0 p1), vI j72_s0_34, .unset] [(.int p0)])) _
          refine XS.iloadN X35.here hx rfl (hb hby at_85) rfl ?_
          show Steps p.tables e below (T35.setTop (mkF m 86 #[vI p0, vI p1, vI p2, vI p3, vR b1, vR b9, vI (own_fits p0 p1 p2 p3), vI (own_fits p2 p3 p0 p1), vI (own_fits p0 p1 p0 p1), vI j72_s0_34, .unset] [(.int p2), (.int p0)])) _
          exact k)
        by_cases c86_46 : p0 = p2
        · skip
          have pre47 : Go p.tables e below S0 T35 (mkF m 91 #[vI p0, vI p1, vI p2, vI p3, vR b1, vR b9, vI (own_fits p0 p1 p2 p3), vI (own_fits p2 p3 p0 p1), vI (own_fits p0 p1 p0 p1), vI j72_s0_34, .unset] [(.int p3), (.int p1)]) := fun t k => pre45 t (by
            refine XS.icmpNo X35.here hx rfl (hb hby at_86) rfl (teq c86_46).2 ?_
            show Steps p.tables e below (T35.setTop (mkF m 89 #[vI p0, vI p1, vI p2, vI p3, vR b1, vR b9, vI (own_fits p0 p1 p2 p3), vI (own_fits p2 p3 p0 p1), vI (own_fits p0 p1 p0 p1), vI j72_s0_34, .unset] [])) _
            refine XS.iloadN X35.here hx rfl (hb hby at_89) rfl ?_
            show Steps p.tables e below (T35.setTop (mkF m 90 #[vI p0, vI p1, vI p2, vI p3, vR b1, vR b9, vI (own_fits p0 p1 p2 p3), vI (own_fits p2 p3 p0 p1), vI (own_fits p0 p1 p0 p1), vI j72_s0_34, .unset] [(.int p1)])) _
            refine XS.iloadN X35.here hx rfl (hb hby at_90) rfl ?_
            show Steps p.tables e below (T35.setTop (mkF m 91 #[vI p0, vI p1, vI p2, vI p3, vR b1, vR b9, vI (own_fits p0 p1 p2 p3), vI (own_fits p2 p3 p0 p1), vI (own_fits p0 p1 p0 p1), vI j72_s0_34, .unset] [(.int p3), (.int p1)])) _
            exact k)
          by_cases c91_48 : p1 = p3
          · skip
            have pre49 : Go p.tables e below S0 T35 (mkF m 99 #[vI p0, vI p1, vI p2, vI p3, vR b1, vR b9, vI (own_fits p0 p1 p2 p3), vI (own_fits p2 p3 p0 p1), vI (own_fits p0 p1 p0 p1), vI j72_s0_34, .unset] [(.int (1 : Int32))]) := fun t k => pre47 t (by
              refine XS.icmpNo X35.here hx rfl (hb hby at_91) rfl (teq c91_48).2 ?_
              show Steps p.tables e below (T35.setTop (mkF m 94 #[vI p0, vI p1, vI p2, vI p3, vR b1, vR b9, vI (own_fits p0 p1 p2 p3), vI (own_fits p2 p3 p0 p1), vI (own_fits p0 p1 p0 p1), vI j72_s0_34, .unset] [])) _
              refine XS.iconst X35.here hx rfl (hb hby at_94) ?_
              show Steps p.tables e below (T35.setTop (mkF m 95 #[vI p0, vI p1, vI p2, vI p3, vR b1, vR b9, vI (own_fits p0 p1 p2 p3), vI (own_fits p2 p3 p0 p1), vI (own_fits p0 p1 p0 p1), vI j72_s0_34, .unset] [(.int (1 : Int32))])) _
              refine XS.goto X35.here hx rfl (pc0 := 95) (pc' := 99) rfl (hb hby at_95) (by decide) (by decide) ?_
              show Steps p.tables e below (T35.setTop (mkF m 99 #[vI p0, vI p1, vI p2, vI p3, vR b1, vR b9, vI (own_fits p0 p1 p2 p3), vI (own_fits p2 p3 p0 p1), vI (own_fits p0 p1 p0 p1), vI j72_s0_34, .unset] [(.int (1 : Int32))])) _
              exact k)
            exact tail55 ⟨(1 : Int32), (Or.inr (Or.inr (Or.inl ⟨rfl, c76_40, c81_43, c86_46, c91_48⟩))), pre49⟩
          · skip
            have pre50 : Go p.tables e below S0 T35 (mkF m 99 #[vI p0, vI p1, vI p2, vI p3, vR b1, vR b9, vI (own_fits p0 p1 p2 p3), vI (own_fits p2 p3 p0 p1), vI (own_fits p0 p1 p0 p1), vI j72_s0_34, .unset] [(.int (0 : Int32))]) := fun t k => pre47 t (by
              refine XS.icmpYes X35.here hx rfl (pc0 := 91) (pc' := 98) rfl (hb hby at_91) rfl (feq c91_48).2 (by decide) (by decide) ?_
              show Steps p.tables e below (T35.setTop (mkF m 98 #[vI p0, vI p1, vI p2, vI p3, vR b1, vR b9, vI (own_fits p0 p1 p2 p3), vI (own_fits p2 p3 p0 p1), vI (own_fits p0 p1 p0 p1), vI j72_s0_34, .unset] [])) _
              refine XS.iconst X35.here hx rfl (hb hby at_98) ?_
              show Steps p.tables e below (T35.setTop (mkF m 99 #[vI p0, vI p1, vI p2, vI p3, vR b1, vR b9, vI (own_fits p0 p1 p2 p3), vI (own_fits p2 p3 p0 p1), vI (own_fits p0 p1 p0 p1), vI j72_s0_34, .unset] [(.int (0 : Int32))])) _
              exact k)
            exact tail55 ⟨(0 : Int32), (Or.inr (Or.inr (Or.inr (Or.inl ⟨rfl, c76_40, c81_43, c86_46, c91_48⟩)))), pre50⟩
        · skip
          have pre51 : Go p.tables e below S0 T35 (mkF m 99 #[vI p0, vI p1, vI p2, vI p3, vR b1, vR b9, vI (own_fits p0 p1 p2 p3), vI (own_fits p2 p3 p0 p1), vI (own_fits p0 p1 p0 p1), vI j72_s0_34, .unset] [(.int (0 : Int32))]) := fun t k => pre45 t (by
            refine XS.icmpYes X35.here hx rfl (pc0 := 86) (pc' := 98) rfl (hb hby at_86) rfl (feq c86_46).2 (by decide) (by decide) ?_
            show Steps p.tables e below (T35.setTop (mkF m 98 #[vI p0, vI p1, vI p2, vI p3, vR b1, vR b9, vI (own_fits p0 p1 p2 p3), vI (own_fits p2 p3 p0 p1), vI (own_fits p0 p1 p0 p1), vI j72_s0_34, .unset] [])) _
            refine XS.iconst X35.here hx rfl (hb hby at_98) ?_
            show Steps p.tables e below (T35.setTop (mkF m 99 #[vI p0, vI p1, vI p2, vI p3, vR b1, vR b9, vI (own_fits p0 p1 p2 p3), vI (own_fits p2 p3 p0 p1), vI (own_fits p0 p1 p0 p1), vI j72_s0_34, .unset] [(.int (0 : Int32))])) _
            exact k)
          exact tail55 ⟨(0 : Int32), (Or.inr (Or.inr (Or.inr (Or.inr ⟨rfl, c76_40, c81_43, c86_46⟩)))), pre51⟩
  rintro ⟨j99_s0_52, hj99_53, pre54⟩
  have key3 : ¬ (j99_s0_52 = (0 : Int32)) := by
    rcases hj99_53 with ⟨rfl, a⟩ | ⟨rfl, a, b⟩ | ⟨rfl, a, b, c, d⟩ | ⟨rfl, a, b, c, d⟩ | ⟨rfl, a, b, c⟩
    · decide
    · decide
    · decide
    · exact absurd (own_anti _ _ _ _ a b).2 d
    · exact absurd (own_anti _ _ _ _ a b).1 c
  have pre56 : Go p.tables e below S0 T35 (mkF m 105 #[vI p0, vI p1, vI p2, vI p3, vR b1, vR b9, vI (own_fits p0 p1 p2 p3), vI (own_fits p2 p3 p0 p1), vI (own_fits p0 p1 p0 p1), vI j72_s0_34, vI j99_s0_52] [(.int j72_s0_34), (.int (own_fits p0 p1 p2 p3))]) := fun t k => pre54 t (by
    refine XS.istore X35.here hx rfl (hb hby at_99) rfl (l' := #[vI p0, vI p1, vI p2, vI p3, vR b1, vR b9, vI (own_fits p0 p1 p2 p3), vI (own_fits p2 p3 p0 p1), vI (own_fits p0 p1 p0 p1), vI j72_s0_34, vI j99_s0_52]) rfl ?_
    show Steps p.tables e below (T35.setTop (mkF m 101 #[vI p0, vI p1, vI p2, vI p3, vR b1, vR b9, vI (own_fits p0 p1 p2 p3), vI (own_fits p2 p3 p0 p1), vI (own_fits p0 p1 p0 p1), vI j72_s0_34, vI j99_s0_52] [])) _
    refine XS.iload X35.here hx rfl (hb hby at_101) rfl ?_
    show Steps p.tables e below (T35.setTop (mkF m 103 #[vI p0, vI p1, vI p2, vI p3, vR b1, vR b9, vI (own_fits p0 p1 p2 p3), vI (own_fits p2 p3 p0 p1), vI (own_fits p0 p1 p0 p1), vI j72_s0_34, vI j99_s0_52] [(.int (own_fits p0 p1 p2 p3))])) _
    refine XS.iload X35.here hx rfl (hb hby at_103) rfl ?_
    show Steps p.tables e below (T35.setTop (mkF m 105 #[vI p0, vI p1, vI p2, vI p3, vR b1, vR b9, vI (own_fits p0 p1 p2 p3), vI (own_fits p2 p3 p0 p1), vI (own_fits p0 p1 p0 p1), vI j72_s0_34, vI j99_s0_52] [(.int j72_s0_34), (.int (own_fits p0 p1 p2 p3))])) _
    exact k)
  have cc57 : (own_fits p0 p1 p2 p3) = j72_s0_34 := key1
  have pre58 : Go p.tables e below S0 T35 (mkF m 110 #[vI p0, vI p1, vI p2, vI p3, vR b1, vR b9, vI (own_fits p0 p1 p2 p3), vI (own_fits p2 p3 p0 p1), vI (own_fits p0 p1 p0 p1), vI j72_s0_34, vI j99_s0_52] [(.int (own_fits p0 p1 p0 p1))]) := fun t k => pre56 t (by
    refine XS.icmpNo X35.here hx rfl (hb hby at_105) rfl (teq cc57).2 ?_
    show Steps p.tables e below (T35.setTop (mkF m 108 #[vI p0, vI p1, vI p2, vI p3, vR b1, vR b9, vI (own_fits p0 p1 p2 p3), vI (own_fits p2 p3 p0 p1), vI (own_fits p0 p1 p0 p1), vI j72_s0_34, vI j99_s0_52] [])) _
    refine XS.iload X35.here hx rfl (hb hby at_108) rfl ?_
    show Steps p.tables e below (T35.setTop (mkF m 110 #[vI p0, vI p1, vI p2, vI p3, vR b1, vR b9, vI (own_fits p0 p1 p2 p3), vI (own_fits p2 p3 p0 p1), vI (own_fits p0 p1 p0 p1), vI j72_s0_34, vI j99_s0_52] [(.int (own_fits p0 p1 p0 p1))])) _
    exact k)
  have cc59 : ¬ ((own_fits p0 p1 p0 p1) = (0 : Int32)) := own_refl _ _
  have pre60 : Go p.tables e below S0 T35 (mkF m 115 #[vI p0, vI p1, vI p2, vI p3, vR b1, vR b9, vI (own_fits p0 p1 p2 p3), vI (own_fits p2 p3 p0 p1), vI (own_fits p0 p1 p0 p1), vI j72_s0_34, vI j99_s0_52] [(.int j99_s0_52)]) := fun t k => pre58 t (by
    refine XS.ifNo X35.here hx rfl (hb hby at_110) rfl ((if0 _ _).trans (feq cc59).1) ?_
    show Steps p.tables e below (T35.setTop (mkF m 113 #[vI p0, vI p1, vI p2, vI p3, vR b1, vR b9, vI (own_fits p0 p1 p2 p3), vI (own_fits p2 p3 p0 p1), vI (own_fits p0 p1 p0 p1), vI j72_s0_34, vI j99_s0_52] [])) _
    refine XS.iload X35.here hx rfl (hb hby at_113) rfl ?_
    show Steps p.tables e below (T35.setTop (mkF m 115 #[vI p0, vI p1, vI p2, vI p3, vR b1, vR b9, vI (own_fits p0 p1 p2 p3), vI (own_fits p2 p3 p0 p1), vI (own_fits p0 p1 p0 p1), vI j72_s0_34, vI j99_s0_52] [(.int j99_s0_52)])) _
    exact k)
  have cc61 : ¬ (j99_s0_52 = (0 : Int32)) := key3
  have pre62 : Go p.tables e below S0 T35 (mkF m 123 #[vI p0, vI p1, vI p2, vI p3, vR b1, vR b9, vI (own_fits p0 p1 p2 p3), vI (own_fits p2 p3 p0 p1), vI (own_fits p0 p1 p0 p1), vI j72_s0_34, vI j99_s0_52] [(.int (1 : Int32))]) := fun t k => pre60 t (by
    refine XS.ifNo X35.here hx rfl (hb hby at_115) rfl ((if0 _ _).trans (feq cc61).1) ?_
    show Steps p.tables e below (T35.setTop (mkF m 118 #[vI p0, vI p1, vI p2, vI p3, vR b1, vR b9, vI (own_fits p0 p1 p2 p3), vI (own_fits p2 p3 p0 p1), vI (own_fits p0 p1 p0 p1), vI j72_s0_34, vI j99_s0_52] [])) _
    refine XS.iconst X35.here hx rfl (hb hby at_118) ?_
    show Steps p.tables e below (T35.setTop (mkF m 119 #[vI p0, vI p1, vI p2, vI p3, vR b1, vR b9, vI (own_fits p0 p1 p2 p3), vI (own_fits p2 p3 p0 p1), vI (own_fits p0 p1 p0 p1), vI j72_s0_34, vI j99_s0_52] [(.int (1 : Int32))])) _
    refine XS.goto X35.here hx rfl (pc0 := 119) (pc' := 123) rfl (hb hby at_119) (by decide) (by decide) ?_
    show Steps p.tables e below (T35.setTop (mkF m 123 #[vI p0, vI p1, vI p2, vI p3, vR b1, vR b9, vI (own_fits p0 p1 p2 p3), vI (own_fits p2 p3 p0 p1), vI (own_fits p0 p1 p0 p1), vI j72_s0_34, vI j99_s0_52] [(.int (1 : Int32))])) _
    exact k)
  obtain ⟨fs, hr, hrun, hended, hW, hsame⟩ := X35.leave (v := some (.int (1 : Int32))) (fun h => by rw [Bd.returns] at h; cases h)
  exact ⟨_, _, pre62.fin hS0 (retN X35 hx (t := .boolean) Bd.returns (by simp) (hb hby at_123) hr), hrun, hended, _, _, rfl, (by
    show Q0 Z p0 p1 p2 p3 h0 n0 _ T35.heap _
    rw [e35]
    exact ⟨rfl, N35⟩), ⟨_, rfl⟩, hW, hsame.mono (by decide) (by decide)⟩
set_option maxRecDepth 65536 in
set_option maxHeartbeats 40000000 in
theorem comes_1 {Post : Tables → Env → Array Value → State → Outcome → State → Prop} (hpost : ∀ tb e args s v u, (limb_1_1.after args s (.returned v) u = true ∧ limb_1_2.after args s (.returned v) u = true ∧ True) → FrameEnd s (.returned v) u (Jvm.fieldLocs frame_1_writes args s ++ Jvm.arrayLocs frame_1_arrays args s ++ Jvm.staticLocs frame_1_statics s) 16 128 → Post tb e args s (.returned v) u) :
    ArmFor flags0 classFile x code maxLocals ret World_1 tables_1 room_1 Calls_1 rest_1 Pre_1 Post := by
  intro l hfl _ _ p e ha hc hk s m args below hf hA hF happ hP
  obtain ⟨hcalls, hrest, hpre⟩ := hP
  obtain ⟨-, -, -, hnamed, -, -, -, hat⟩ := (Spec.applies_iff hf).mp happ
  obtain ⟨hg, hn⟩ := and_e (Cond.before_iff.mp (show (Jvm.Cond.and given_1 narrow_1).before args s = true from hpre))
  obtain ⟨g0, r0⟩ := and_e hg
  obtain ⟨g1, r1⟩ := and_e r0
  obtain ⟨g2, r2⟩ := and_e r1
  obtain ⟨g3, r3⟩ := and_e r2
  obtain ⟨w0, w1, w2, w3, rfl⟩ : ∃ w0 w1 w2 w3 : Value, args = #[w0, w1, w2, w3] := by
    have hs : args.size = 4 := by simpa [Cond.value, given_1] using g0
    obtain ⟨L⟩ := args
    match L, hs with
    | [w0, w1, w2, w3], _ => exact ⟨w0, w1, w2, w3, rfl⟩
  have hw := fun d (hd : d ∈ tables_1) => atoms_spec (ws := Jvm.Cond.code x code maxLocals ret :: tables_1) hat d (List.mem_cons_of_mem _ hd)
  obtain ⟨i0, ei0⟩ := is_v g1
  obtain rfl : w0 = (.int i0) := Option.some.inj ei0
  obtain ⟨i1, ei1⟩ := is_v g2
  obtain rfl : w1 = (.int i1) := Option.some.inj ei1
  obtain ⟨i2, ei2⟩ := is_v g3
  obtain rfl : w2 = (.int i2) := Option.some.inj ei2
  obtain ⟨i3, ei3⟩ := is_v r3
  obtain rfl : w3 = (.int i3) := Option.some.inj ei3
  obtain ⟨n, o, h1, h2, h3, _, L, rfl, ⟨rfl, N⟩, hq⟩ := rm0 l s _ hw tables_1 i0 i1 i2 i3  s.heap s.heap.size (Nat.le_refl _) p e ha hc hk s m _ below hf ((Spec.applies_iff_loose hf).mp happ).1 ⟨rfl, State.Warmed39.refl s, rfl⟩ trivial
  refine ⟨n, _, h1, h2, h3, hpost _ _ _ _ _ _ ⟨Cond.after_iff.mpr rfl, Cond.after_iff.mpr (eq_i res_at (Term.int_eval (1)) rfl), trivial⟩ ⟨hq.1, hq.2.1, (hq.2.2.sift fun y hy => Or.inr (N y hy)).mono (by decide) (by decide)⟩⟩
theorem main_1_1 : Claimed_1_1 := comes_1 fun _ _ _ _ _ _ h hF => ⟨h.1, hF⟩
theorem main_1_2 : Claimed_1_2 := comes_1 fun _ _ _ _ _ _ h hF => ⟨h.2.1, hF⟩
end Jvm.Pilot.@@N@@
namespace Jvm.Pilot.@@N@@
open Jvm Jvm.ClassFile Sem Op Lib Jvm.Free Jvm.Stand Jvm.Pilot.@@N@@.Jvm.D
/-! MADE BY PROGRAM (witnessworld.py) out of the Statement's table words and the real class files: 11 classes; the members and pool entries that the words name. The judged class is class 1, her method 1. -/
namespace start1
open Jvm.ClassFile
def u (s : String) : CpInfo := .utf8 (stringToUtf16 s)
/-- a pool by its gaps: so many unusable entries, then the entry; so many at the end -/
def gap : Nat → List CpInfo → List CpInfo
  | 0, r => r
  | n + 1, r => .unusable :: gap n r
def poolList (es : List (Nat × CpInfo)) (last : Nat) : List CpInfo := es.foldr (fun e r => gap e.1 (e.2 :: r)) (gap last [])
def pool (es : List (Nat × CpInfo)) (last : Nat) : Array CpInfo := ⟨poolList es last⟩
def fileOf (pool : Array CpInfo) (this : Nat) (attrs : Array Attribute := #[]) (ms : Array MethodInfo := #[]) (fl : Nat := 33) (sup : Nat := 0) (ifs : Array Nat := #[]) (fds : Array FieldInfo := #[]) : ClassFile where
  minorVersion := 0
  majorVersion := 65
  constantPool := pool
  accessFlags := fl
  thisClass := this
  superClass := sup
  interfaces := ifs
  fields := fds
  methods := ms
  attributes := attrs
def plain (name : String) (sup : Option ClassId) : Class where
  name := name
  kind := .ordinary
  loader := none
  accessFlags := 33
  super := sup
  interfaces := #[]
  cf := none
  fields := #[]
  methods := #[]
  instanceTypes := #[]
  staticTypes := #[]
  resolved := #[]
  callSites := []
  init := .initialized
  statics := none
  mirror := none

def pool0 : Array CpInfo := pool [(5, u "<init>"), (0, u "()V"), (1, .class_ 10), (1, u "java/lang/Object")] 113

def k0c0 : Code := { maxStack := 0, maxLocals := 1, code := object_method_1_code, exceptionTable := #[], attributes := #[] }
def k0m0 : Method := { name := "<init>", desc := "()V", sig := { parameters := [], returnType := none }, accessFlags := 1, code := some k0c0 }
/-- java/lang/Object -/
def k0 : Class := { plain "java/lang/Object" none with
  accessFlags := 33
  interfaces := #[]
  cf := some (fileOf pool0 8 #[] #[{ accessFlags := 1, nameIndex := 5, descriptorIndex := 6, attributes := #[] }] 33 0 #[] #[])
  fields := #[]
  methods := #[k0m0]
  instanceTypes := #[]
  staticTypes := #[]
  resolved := Array.replicate 124 none
  statics := none }

def pool1 : Array CpInfo := pool [(2, .class_ 4), (1, u "java/lang/Object"), (0, u "<init>"), (0, u "()V"), (0, .class_ 8), (0, u "com/example/scalecast/scalecast/Resource"), (0, .methodref 7 10), (0, .nameAndType 5 11), (0, u "(II)V"), (0, .methodref 7 13), (0, .nameAndType 14 15), (0, u "fitsIn"), (0, u "(Lcom/example/scalecast/scalecast/Resource;)Z"), (0, .methodref 17 18), (0, .class_ 19), (0, .nameAndType 20 21), (0, u "java/lang/Math"), (0, u "max"), (0, u "(II)I"), (0, .class_ 23), (0, u "com/example/scalecast/scalecast/ResourceFitsInPinLaw"), (2, u "law"), (0, u "(IIII)Z")] 3

def k1m0 : Method := { name := "<init>", desc := "()V", sig := { parameters := [], returnType := none }, accessFlags := 1, code := none }
def k1c1 : Code := { maxStack := 4, maxLocals := 11, code := code, exceptionTable := #[], attributes := #[] }
def k1m1 : Method := { name := "law", desc := "(IIII)Z", sig := { parameters := [.int, .int, .int, .int], returnType := some .boolean }, accessFlags := 9, code := some k1c1 }
/-- com/example/scalecast/scalecast/ResourceFitsInPinLaw -/
def k1 : Class := { plain "com/example/scalecast/scalecast/ResourceFitsInPinLaw" (some 0) with
  accessFlags := 49
  interfaces := #[]
  cf := some (fileOf pool1 22 #[] #[{ accessFlags := 1, nameIndex := 5, descriptorIndex := 6, attributes := #[] }, { accessFlags := 9, nameIndex := 26, descriptorIndex := 27, attributes := #[] }] 49 2 #[] #[])
  fields := #[]
  methods := #[k1m0, k1m1]
  instanceTypes := #[]
  staticTypes := #[]
  resolved := Array.replicate 31 none
  statics := none }

def pool2 : Array CpInfo := pool [(1, .methodref 2 3), (0, .class_ 4), (0, .nameAndType 5 6), (0, u "java/lang/Object"), (0, u "<init>"), (0, u "()V"), (0, .class_ 8), (0, u "java/lang/Record")] 13

def k2c0 : Code := { maxStack := 1, maxLocals := 1, code := jdk_30_method_1_code, exceptionTable := #[], attributes := #[] }
def k2m0 : Method := { name := "<init>", desc := "()V", sig := { parameters := [], returnType := none }, accessFlags := 4, code := some k2c0 }
/-- java/lang/Record -/
def k2 : Class := { plain "java/lang/Record" (some 0) with
  accessFlags := 1057
  interfaces := #[]
  cf := some (fileOf pool2 7 #[] #[{ accessFlags := 4, nameIndex := 5, descriptorIndex := 6, attributes := #[] }] 1057 2 #[] #[])
  fields := #[]
  methods := #[k2m0]
  instanceTypes := #[]
  staticTypes := #[]
  resolved := Array.replicate 22 none
  statics := none }

def pool3 : Array CpInfo := pool [(1, .methodref 2 3), (0, .class_ 4), (0, .nameAndType 5 6), (0, u "java/lang/Record"), (0, u "<init>"), (0, u "()V"), (0, .fieldref 8 9), (0, .class_ 10), (0, .nameAndType 11 12), (0, u "com/example/scalecast/scalecast/Resource"), (0, u "memoryMb"), (0, u "I"), (0, .fieldref 8 14), (0, .nameAndType 15 12), (0, u "vcores"), (16, u "(II)V"), (3, u "fitsIn"), (0, u "(Lcom/example/scalecast/scalecast/Resource;)Z")] 36

def k3c0 : Code := { maxStack := 2, maxLocals := 3, code := prog_31_method_1_code, exceptionTable := #[], attributes := #[] }
def k3m0 : Method := { name := "<init>", desc := "(II)V", sig := { parameters := [.int, .int], returnType := none }, accessFlags := 0, code := some k3c0 }
def k3c1 : Code := { maxStack := 2, maxLocals := 2, code := prog_31_method_2_code, exceptionTable := #[], attributes := #[] }
def k3m1 : Method := { name := "fitsIn", desc := "(Lcom/example/scalecast/scalecast/Resource;)Z", sig := { parameters := [(.object "com/example/scalecast/scalecast/Resource")], returnType := some .boolean }, accessFlags := 0, code := some k3c1 }
/-- com/example/scalecast/scalecast/Resource -/
def k3 : Class := { plain "com/example/scalecast/scalecast/Resource" (some 2) with
  accessFlags := 48
  interfaces := #[]
  cf := some (fileOf pool3 8 #[] #[{ accessFlags := 0, nameIndex := 5, descriptorIndex := 32, attributes := #[] }, { accessFlags := 0, nameIndex := 36, descriptorIndex := 37, attributes := #[] }] 48 2 #[] #[{ accessFlags := 18, nameIndex := 11, descriptorIndex := 12, attributes := #[] }, { accessFlags := 18, nameIndex := 15, descriptorIndex := 12, attributes := #[] }])
  fields := #[{ name := "memoryMb", type := .int, accessFlags := 18, slot := 0, constantValue := 0 }, { name := "vcores", type := .int, accessFlags := 18, slot := 1, constantValue := 0 }]
  methods := #[k3m0, k3m1]
  instanceTypes := #[.int, .int]
  staticTypes := #[]
  resolved := Array.replicate 74 none
  statics := none }

def pool4 : Array CpInfo := pool [(1, .class_ 2), (0, u "java/lang/Math"), (1, .class_ 6), (1, u "java/lang/Object"), (0, u "<init>"), (0, u "()V"), (89, .class_ 100), (1, u "java/lang/Math$RandomNumberGeneratorHolder"), (71, u "negativeZeroFloatBits"), (0, u "J"), (2, u "negativeZeroDoubleBits"), (21, u "max"), (46, u "$assertionsDisabled"), (0, u "Z"), (88, u "(II)I"), (2, u "twoToTheDoubleScaleDown"), (0, u "D"), (4, u "twoToTheDoubleScaleUp"), (9, u "E"), (3, u "PI"), (2, u "TAU"), (2, u "DEGREES_TO_RADIANS"), (0, u "RADIANS_TO_DEGREES")] 94

def k4m0 : Method := { name := "<init>", desc := "()V", sig := { parameters := [], returnType := none }, accessFlags := 2, code := none }
def k4c1 : Code := { maxStack := 2, maxLocals := 2, code := jdk_29_method_65_code, exceptionTable := #[], attributes := #[] }
def k4m1 : Method := { name := "max", desc := "(II)I", sig := { parameters := [.int, .int], returnType := some .int }, accessFlags := 9, code := some k4c1 }
/-- java/lang/Math -/
def k4 : Class := { plain "java/lang/Math" (some 0) with
  accessFlags := 49
  interfaces := #[]
  cf := some (fileOf pool4 1 #[.nestMembers #[98]] #[{ accessFlags := 2, nameIndex := 7, descriptorIndex := 8, attributes := #[] }, { accessFlags := 9, nameIndex := 198, descriptorIndex := 335, attributes := #[] }] 49 4 #[] #[{ accessFlags := 25, nameIndex := 354, descriptorIndex := 339, attributes := #[] }, { accessFlags := 25, nameIndex := 358, descriptorIndex := 339, attributes := #[] }, { accessFlags := 25, nameIndex := 361, descriptorIndex := 339, attributes := #[] }, { accessFlags := 26, nameIndex := 364, descriptorIndex := 339, attributes := #[] }, { accessFlags := 26, nameIndex := 365, descriptorIndex := 339, attributes := #[] }, { accessFlags := 26, nameIndex := 172, descriptorIndex := 173, attributes := #[] }, { accessFlags := 26, nameIndex := 176, descriptorIndex := 173, attributes := #[] }, { accessFlags := 8, nameIndex := 344, descriptorIndex := 339, attributes := #[] }, { accessFlags := 8, nameIndex := 338, descriptorIndex := 339, attributes := #[] }, { accessFlags := 4120, nameIndex := 245, descriptorIndex := 246, attributes := #[] }])
  fields := #[{ name := "E", type := .double, accessFlags := 25, slot := 0, constantValue := 0 }, { name := "PI", type := .double, accessFlags := 25, slot := 1, constantValue := 0 }, { name := "TAU", type := .double, accessFlags := 25, slot := 2, constantValue := 0 }, { name := "DEGREES_TO_RADIANS", type := .double, accessFlags := 26, slot := 3, constantValue := 0 }, { name := "RADIANS_TO_DEGREES", type := .double, accessFlags := 26, slot := 4, constantValue := 0 }, { name := "negativeZeroFloatBits", type := .long, accessFlags := 26, slot := 5, constantValue := 0 }, { name := "negativeZeroDoubleBits", type := .long, accessFlags := 26, slot := 6, constantValue := 0 }, { name := "twoToTheDoubleScaleUp", type := .double, accessFlags := 8, slot := 7, constantValue := 0 }, { name := "twoToTheDoubleScaleDown", type := .double, accessFlags := 8, slot := 8, constantValue := 0 }, { name := "$assertionsDisabled", type := .boolean, accessFlags := 4120, slot := 9, constantValue := 0 }]
  methods := #[k4m0, k4m1]
  instanceTypes := #[]
  staticTypes := #[.double, .double, .double, .double, .double, .long, .long, .double, .double, .boolean]
  resolved := Array.replicate 460 none
  statics := none }

def pool5 : Array CpInfo := pool [(1, u "java/lang/Cloneable"), (0, .class_ 1), (0, u "java/lang/Object"), (0, .class_ 3)] 3

/-- java/lang/Cloneable -/
def k5 : Class := { plain "java/lang/Cloneable" (some 0) with
  accessFlags := 1537
  interfaces := #[]
  cf := some (fileOf pool5 2 #[] #[] 1537 4 #[] #[])
  fields := #[]
  methods := #[]
  instanceTypes := #[]
  staticTypes := #[]
  resolved := Array.replicate 8 none
  statics := none }

def pool6 : Array CpInfo := pool [(1, u "java/io/Serializable"), (0, .class_ 1), (0, u "java/lang/Object"), (0, .class_ 3)] 3

/-- java/io/Serializable -/
def k6 : Class := { plain "java/io/Serializable" (some 0) with
  accessFlags := 1537
  interfaces := #[]
  cf := some (fileOf pool6 2 #[] #[] 1537 4 #[] #[])
  fields := #[]
  methods := #[]
  instanceTypes := #[]
  staticTypes := #[]
  resolved := Array.replicate 8 none
  statics := none }

/-- the primitive byte -/
def k7 : Class := { plain "byte" none with kind := .primitive 'B', accessFlags := 0x411 }
/-- [B -/
def k8 : Class := { plain "[B" (some 0) with kind := .array 7 .byte, interfaces := #[5, 6], accessFlags := 1041 }

/-- the primitive int -/
def k9 : Class := { plain "int" none with kind := .primitive 'I', accessFlags := 0x411 }
/-- [I -/
def k10 : Class := { plain "[I" (some 0) with kind := .array 9 .int, interfaces := #[5, 6], accessFlags := 1041 }

def heap : Heap := #[]
def classes : Array Class := #[k0, k1, k2, k3, k4, k5, k6, k7, k8, k9, k10]
def interned : List (Array UInt16 × Addr) := []
def slotsUsed : Nat := 0
def theMethod : MethodId := ⟨1, 1⟩
def args0 : Array Value := #[.int 5, .int 6, .int 7, .int 8]
def aboutOver (below : List Frame) : State where
  vm := { classes := classes, interned := interned.toArray }
  heap := heap
  slotsUsed := slotsUsed
  threads := #[{ frames := .invoking theMethod args0 :: below }]
def below0 : List Frame := [.native { method := ⟨0, 0⟩, args := #[] }]
def about1 : State := aboutOver below0
def p0 : Program := .bare "" "" ""
def e0 : Env := launch0.env 0 0 0
theorem w_frames : about1.frames = Frame.invoking theMethod args0 :: below0 := rfl
set_option maxRecDepth 65536 in
theorem w_args : argsFit about1.vm theMethod args0 = true := by decide +kernel
set_option maxRecDepth 65536 in
theorem w_heap : heapFits about1 = true := by decide +kernel
set_option maxRecDepth 65536 in
theorem w_runnable : about1.curStatus? = some .runnable := by decide +kernel
set_option maxRecDepth 65536 in
theorem w_alone : about1.alone = true := by decide +kernel
set_option maxRecDepth 65536 in
theorem w_named : about1.methodNamed? x = some theMethod := by decide +kernel
set_option maxRecDepth 65536 in
theorem w_hears : about1.hears theMethod below0 = true := by decide +kernel
set_option maxRecDepth 65536 in
theorem w_ripe : about1.ripe theMethod args0 below0 = true := by decide +kernel
theorem w_running : about1.status = .running := rfl
set_option maxRecDepth 65536 in
theorem w_room : about1.hasRoom e0.platform room_1 = true :=
  launch0.hasRoom_least _ room_1 (by decide +kernel) (by decide +kernel) (by decide +kernel) (by decide +kernel) (by decide +kernel) (by decide +kernel)
theorem allAtoms_all (ts : List Jvm.Cond) (a : Array Jvm.Value) (st : Jvm.State) : (allAtoms ts).before a st = ts.all (fun c => c.before a st) := by
  induction ts with
  | nil => rfl
  | cons c t ih =>
    show (Jvm.Cond.and c (allAtoms t)).before a st = _
    rw [Jvm.Cond.before_and, ih, List.all_cons]
def words1 : List Jvm.Cond := Jvm.Cond.code x code maxLocals ret :: tables_1
/-- a 'code' word, met by the world's own term for the bytes: nothing is compared byte by byte -/
theorem code_word {y : MethodName} {bytes : ByteArray} {mx : Nat} {rt : Option FieldType} {a : Array Value} {s : State} {m : MethodId} {meth : Method} {c : Code} (h1 : s.methodNamed? y = some m) (h2 : s.vm.method? m = some meth) (h3 : meth.code = some c) (h4 : c.code = bytes)
    (h5 : (c.maxLocals == mx && c.exceptionTable.isEmpty && decide (c.maxStack ≤ mostOperands) && decide (meth.sig.returnType = rt) && !meth.locks && decide (parseMethodDescriptor y.desc = some meth.sig)) = true) : (Jvm.Cond.code y bytes mx rt).before a s = true := by
  simp only [Bool.and_eq_true, beq_iff_eq, Bool.not_eq_true', decide_eq_true_eq] at h5
  obtain ⟨⟨⟨⟨⟨g1, g2⟩, g3⟩, g4⟩, g5⟩, g6⟩ := h5
  simp [Cond.before, Cond.holds, Cond.value, h1, h2, h3, h4, g1, g2, g3, g4, g5, g6]
def isCode : Jvm.Cond → Bool
  | .code _ _ _ _ => true
  | _ => false
theorem all_split {L : List Jvm.Cond} {P : Jvm.Cond → Bool} (h1 : L.all (fun c => isCode c || P c) = true) (h2 : ∀ c ∈ L.filter isCode, P c = true) : L.all P = true := by
  refine List.all_eq_true.mpr fun c hc => ?_
  have h := List.all_eq_true.mp h1 c hc
  rcases Bool.eq_false_or_eq_true (isCode c) with hi | hi
  · exact h2 c (List.mem_filter.mpr ⟨hc, hi⟩)
  · simpa [hi] using h
set_option maxRecDepth 65536 in
theorem w_c0 : (Jvm.Cond.code x code maxLocals ret).before args0 about1 = true := code_word (m := ⟨1, 1⟩) (meth := k1m1) (c := k1c1) (by decide +kernel) rfl rfl rfl (by decide +kernel)
set_option maxRecDepth 65536 in
theorem w_c1 : (Jvm.Cond.code ({ cls := "com/example/scalecast/scalecast/Resource", name := "<init>", desc := "(II)V" } : Jvm.MethodName) prog_31_method_1_code (3 : Nat) (Option.none : Option Jvm.ClassFile.FieldType)).before args0 about1 = true := code_word (m := ⟨3, 0⟩) (meth := k3m0) (c := k3c0) (by decide +kernel) rfl rfl rfl (by decide +kernel)
set_option maxRecDepth 65536 in
theorem w_c2 : (Jvm.Cond.code ({ cls := "java/lang/Record", name := "<init>", desc := "()V" } : Jvm.MethodName) jdk_30_method_1_code (1 : Nat) (Option.none : Option Jvm.ClassFile.FieldType)).before args0 about1 = true := code_word (m := ⟨2, 0⟩) (meth := k2m0) (c := k2c0) (by decide +kernel) rfl rfl rfl (by decide +kernel)
set_option maxRecDepth 65536 in
theorem w_c3 : (Jvm.Cond.code ({ cls := "java/lang/Object", name := "<init>", desc := "()V" } : Jvm.MethodName) object_method_1_code (1 : Nat) (Option.none : Option Jvm.ClassFile.FieldType)).before args0 about1 = true := code_word (m := ⟨0, 0⟩) (meth := k0m0) (c := k0c0) (by decide +kernel) rfl rfl rfl (by decide +kernel)
set_option maxRecDepth 65536 in
theorem w_c4 : (Jvm.Cond.code ({ cls := "com/example/scalecast/scalecast/Resource", name := "fitsIn", desc := "(Lcom/example/scalecast/scalecast/Resource;)Z" } : Jvm.MethodName) prog_31_method_2_code (2 : Nat) (Option.some Jvm.ClassFile.FieldType.boolean)).before args0 about1 = true := code_word (m := ⟨3, 1⟩) (meth := k3m1) (c := k3c1) (by decide +kernel) rfl rfl rfl (by decide +kernel)
set_option maxRecDepth 65536 in
theorem w_c5 : (Jvm.Cond.code ({ cls := "java/lang/Math", name := "max", desc := "(II)I" } : Jvm.MethodName) jdk_29_method_65_code (2 : Nat) (Option.some Jvm.ClassFile.FieldType.int)).before args0 about1 = true := code_word (m := ⟨4, 1⟩) (meth := k4m1) (c := k4c1) (by decide +kernel) rfl rfl rfl (by decide +kernel)
def codes1 : List Jvm.Cond := [Jvm.Cond.code x code maxLocals ret, Jvm.Cond.code ({ cls := "com/example/scalecast/scalecast/Resource", name := "<init>", desc := "(II)V" } : Jvm.MethodName) prog_31_method_1_code (3 : Nat) (Option.none : Option Jvm.ClassFile.FieldType), Jvm.Cond.code ({ cls := "java/lang/Record", name := "<init>", desc := "()V" } : Jvm.MethodName) jdk_30_method_1_code (1 : Nat) (Option.none : Option Jvm.ClassFile.FieldType), Jvm.Cond.code ({ cls := "java/lang/Object", name := "<init>", desc := "()V" } : Jvm.MethodName) object_method_1_code (1 : Nat) (Option.none : Option Jvm.ClassFile.FieldType), Jvm.Cond.code ({ cls := "com/example/scalecast/scalecast/Resource", name := "fitsIn", desc := "(Lcom/example/scalecast/scalecast/Resource;)Z" } : Jvm.MethodName) prog_31_method_2_code (2 : Nat) (Option.some Jvm.ClassFile.FieldType.boolean), Jvm.Cond.code ({ cls := "java/lang/Math", name := "max", desc := "(II)I" } : Jvm.MethodName) jdk_29_method_65_code (2 : Nat) (Option.some Jvm.ClassFile.FieldType.int)]
set_option maxRecDepth 65536 in
theorem codes_eq : words1.filter isCode = codes1 := rfl
theorem w_codes : ∀ c ∈ words1.filter isCode, c.before args0 about1 = true := by
  rw [codes_eq]
  intro c hc
  simp only [codes1, List.mem_cons, List.not_mem_nil, or_false] at hc
  rcases hc with rfl | rfl | rfl | rfl | rfl | rfl
  · exact w_c0
  · exact w_c1
  · exact w_c2
  · exact w_c3
  · exact w_c4
  · exact w_c5
set_option maxRecDepth 65536 in
theorem w_t1 : (words1.take 24).all (fun c => isCode c || c.before args0 about1) = true := by decide +kernel
set_option maxRecDepth 65536 in
theorem w_t2 : (words1.drop 24).all (fun c => isCode c || c.before args0 about1) = true := by decide +kernel
theorem w_tables : (allAtoms (Jvm.Cond.code x code maxLocals ret :: tables_1)).before args0 about1 = true := by
  rw [allAtoms_all]
  show words1.all (fun c => c.before args0 about1) = true
  refine all_split ?_ w_codes
  rw [← List.take_append_drop 24 words1, List.all_append, w_t1, w_t2]
  rfl
set_option maxRecDepth 65536 in
theorem w_case : (Jvm.Cond.and given_1 narrow_1).before args0 about1 = true := by decide +kernel
theorem w_applies : (headSpec (Jvm.Cond.code x code maxLocals ret :: tables_1) room_1).applies x e0.platform about1 = true :=
  (Spec.applies_iff w_frames).mpr ⟨w_running, w_runnable, w_alone, w_named, w_hears, w_ripe, w_room, w_tables⟩
theorem atStart : AtStart classFile x code maxLocals ret World_1 tables_1 room_1 Calls_1 rest_1 Pre_1 launch0 p0 e0 about1 theMethod args0 below0 :=
  ⟨lists_1, trivial, launch0.admits_env _ _ _, launch0.least_env, fairChoices_fair.cas, fairChoices_fair.clock, w_frames, w_args, w_heap, w_applies, trivial, trivial, w_case⟩
end start1
theorem witness_1 : WitnessClaimed_1 := ⟨start1.p0, start1.e0, start1.about1, start1.theMethod, start1.args0, start1.below0, start1.atStart⟩
end Jvm.Pilot.@@N@@
