import JvmDerived
import JvmDerived.Pilot.@@N@@Statement
import JvmDerived.Pilot.@@N@@Code
set_option linter.unusedVariables false
set_option linter.unusedSimpArgs false
namespace Jvm.RoadKit
open Sem ClassFile Op Lib Jvm.Stand Jvm.Free Jvm.LawKit
abbrev vI (x : Int32) : Slot := .val (.int x)
abbrev vJ (x : Int64) : Slot := .val (.long x)
abbrev vR (a : Addr) : Slot := .val (.ref a)
/-- from S0 the run comes to T with g on top -/
def Go (tb : Tables) (e : Env) (below : List Frame) (S0 T : State) (g : JFrame) : Prop := ∀ t, Steps tb e below (T.setTop g) t → Steps tb e below S0 t
theorem Go.fin {tb : Tables} {e : Env} {below : List Frame} {S0 S T t : State} {g : JFrame} (h : Go tb e below S0 T g) (q : S0 = S) (k : Steps tb e below (T.setTop g) t) : Steps tb e below S t := q ▸ h t k
section New
variable {p : Program} {l : Launch} {e : Env} {R : Room} {s : State} {m : MethodId} {args : Array Value} {below : List Frame} {meth : Method} {c : Code} {T : State} {locs : List Loc} {cells slots : Nat}
end New
end Jvm.RoadKit
namespace Jvm.Pilot.@@N@@
open Jvm Jvm.ClassFile Sem Op Lib Jvm.Free Jvm.Stand Jvm.LawKit Jvm.RoadKit Bundle Jvm.Pilot.@@N@@.Jvm.D
theorem ef_2 (m : MethodId) (x0 : Addr) : entryFrame m #[(.ref x0)] 1 = mkF m 0 #[.val (.ref x0)] [] := by first | (simp [entryFrame, mkF, argsToLocals, Value.category]; done) | rfl
theorem pn_0 : plainName "java/lang/Record" = true := by first | (simp [plainName, overriddenIn]; done) | decide +kernel
theorem d2_0 : decode jdk_30_method_1_code 0 = .ok (.aload_n 0, 1) := by decide +kernel
theorem d2_1 : decode jdk_30_method_1_code 1 = .ok (.invokespecial 1, 3) := by decide +kernel
theorem d2_4 : decode jdk_30_method_1_code 4 = .ok (.return_, 1) := by decide +kernel
def Q2 (Z : State) (a0 : Addr) (h0 : Heap) (n0 : Nat) (v : Option Value) (h : Heap) (L : List Loc) : Prop := v = none ∧ Fr n0 L ∧ h = h0
set_option maxRecDepth 65536 in
set_option maxHeartbeats 40000000 in
theorem rm2 (l : Launch) (Z : State) (A0 : Array Value) (hw : ∀ d ∈ tables_1, d.before A0 Z = true) (ws : List Jvm.Cond) (a0 : Addr)  (h0 : Heap) (n0 : Nat) (Z0 : n0 ≤ h0.size)  :
    MetFree l (⟨"java/lang/Record", "<init>", "()V"⟩ : MethodName) (head1 (Jvm.Cond.code (⟨"java/lang/Record", "<init>", "()V"⟩ : MethodName) jdk_30_method_1_code 1 none :: ws) ({ frames := 1, cells := 0, slots := 0, locals := 12 } : Room)) (fun a U => a = #[(.ref a0)] ∧ Z.Warmed39 U.vm ∧ U.heap = h0) (fun _ _ _ _ _ => True) (fun _ U o U' => ∃ v L, o = .returned v ∧ Q2 Z a0 h0 n0 v U'.heap L ∧ FrameEnd U o U' L ({ frames := 1, cells := 0, slots := 0, locals := 12 } : Room).cells ({ frames := 1, cells := 0, slots := 0, locals := 12 } : Room).slots) := by
  refine MetFree.of_bodySF (plainFor_of_name pn_0) hisR ?_
  intro p e s m args below meth c s₁ Bd hml0 hP hK
  obtain ⟨rfl, hZ, hh⟩ := hP
  have hx := Bd.exec
  have hby := Bd.bytes
  have hml : c.maxLocals = 1 := hml0
  have hown : s.vm.findClass "java/lang/Record" = some m.cls := findClass_of_methodNamed Bd.named
  have hnm := (name_of_methodNamed Bd.named Bd.method).1
  have X0 : Stand p l e ({ frames := 1, cells := 0, slots := 0, locals := 12 } : Room) s m #[(.ref a0)] below meth c s₁ [] 0 0 := Stand.of_body Bd
  have e0 : s₁.heap = h0 := by rw [← hh, Bd.state]; rfl
  have N0 := Fr.nil n0
  obtain ⟨S0, hS0⟩ : ∃ z, z = s₁.setTop (entryFrame m #[(.ref a0)] 1) := ⟨_, rfl⟩
  have pre0 : Go p.tables e below S0 s₁ (mkF m 0 #[vR a0] []) := fun t k => by rw [hS0]; exact castTop (ef_2 m a0) k
  have pre1 : Go p.tables e below S0 s₁ (mkF m 1 #[vR a0] [(.ref a0)]) := fun t k => pre0 t (by
    refine XS.aloadN X0.here hx rfl (hb hby d2_0) rfl rfl ?_
    show Steps p.tables e below (s₁.setTop (mkF m 1 #[vR a0] [(.ref a0)])) _
    exact k)
  obtain ⟨T2, X2, e2, st2⟩ := initO X0 hx hZ hown (hw _ (List.mem_of_getElem? (i := 15) rfl)) (hw _ (List.mem_of_getElem? (i := 16) rfl)) (hw _ (List.mem_of_getElem? (i := 17) rfl)) e0 (g := (mkF m 1 #[vR a0] [(.ref a0)])) rfl (by rw [hml]; rfl) rfl (hb hby d2_1) (by decide) (W := 0) (by show 2 * 0 + _ ≤ _; exact Nat.le_of_eq rfl) (by decide)
  have pre2 : Go p.tables e below S0 T2 (mkF m 4 #[vR a0] []) := fun t k => pre1 t (st2 t k)
  obtain ⟨fs, hr, hrun, hended, hW, hsame⟩ := X2.leave (v := none) (fun _ => rfl)
  exact ⟨_, _, pre2.fin hS0 (X2.returnOut hx Bd.returns (hb hby d2_4) hr), hrun, hended, _, _, rfl, (by
    show Q2 Z a0 h0 n0 _ T2.heap _
    rw [e2]
    exact ⟨rfl, N0, rfl⟩), ⟨_, rfl⟩, hW, hsame.mono (by decide) (by decide)⟩
theorem ef_1 (m : MethodId) (x0 : Addr) (x1 : Addr) : entryFrame m #[(.ref x0), (.ref x1)] 2 = mkF m 0 #[.val (.ref x0), .val (.ref x1)] [] := by first | (simp [entryFrame, mkF, argsToLocals, Value.category]; done) | rfl
theorem pn_1 : plainName "com/example/attest/attest/metadata/ScopeSyntax$Chars" = true := by first | (simp [plainName, overriddenIn]; done) | decide +kernel
theorem pd_0 : parseMethodDescriptor "()V" = some ⟨[], none⟩ := by decide +kernel
theorem d1_0 : decode prog_52_method_1_code 0 = .ok (.aload_n 0, 1) := by decide +kernel
theorem d1_1 : decode prog_52_method_1_code 1 = .ok (.invokespecial 1, 3) := by decide +kernel
theorem d1_4 : decode prog_52_method_1_code 4 = .ok (.aload_n 0, 1) := by decide +kernel
theorem d1_5 : decode prog_52_method_1_code 5 = .ok (.aload_n 1, 1) := by decide +kernel
theorem d1_6 : decode prog_52_method_1_code 6 = .ok (.putfield 7, 3) := by decide +kernel
theorem d1_9 : decode prog_52_method_1_code 9 = .ok (.return_, 1) := by decide +kernel
def Q1 (Z : State) (a0 : Addr) (r1 : Addr) (h0 : Heap) (n0 : Nat) (v : Option Value) (h : Heap) (L : List Loc) : Prop := v = none ∧ Fr n0 L ∧ Keep h0 h [a0] ∧ (Exa Z h a0 "com/example/attest/attest/metadata/ScopeSyntax$Chars") ∧ (Fld Z h a0 "com/example/attest/attest/metadata/ScopeSyntax$Chars" "ranges" "[I" (.ref r1))
set_option maxRecDepth 65536 in
set_option maxHeartbeats 40000000 in
theorem rm1 (l : Launch) (Z : State) (A0 : Array Value) (hw : ∀ d ∈ tables_1, d.before A0 Z = true) (ws : List Jvm.Cond) (a0 : Addr) (r1 : Addr)  (h0 : Heap) (n0 : Nat) (Z0 : n0 ≤ h0.size) (E0 : Exa Z h0 a0 "com/example/attest/attest/metadata/ScopeSyntax$Chars") (F_ranges : Fld Z h0 a0 "com/example/attest/attest/metadata/ScopeSyntax$Chars" "ranges" "[I" .null) (g0 : n0 ≤ a0) :
    MetFree l (⟨"com/example/attest/attest/metadata/ScopeSyntax$Chars", "<init>", "([I)V"⟩ : MethodName) (head1 (Jvm.Cond.code (⟨"com/example/attest/attest/metadata/ScopeSyntax$Chars", "<init>", "([I)V"⟩ : MethodName) prog_52_method_1_code 2 none :: ws) ({ frames := 2, cells := 0, slots := 0, locals := 24 } : Room)) (fun a U => a = #[(.ref a0), (.ref r1)] ∧ Z.Warmed39 U.vm ∧ U.heap = h0) (fun _ _ _ _ _ => True) (fun _ U o U' => ∃ v L, o = .returned v ∧ Q1 Z a0 r1 h0 n0 v U'.heap L ∧ FrameEnd U o U' L ({ frames := 2, cells := 0, slots := 0, locals := 24 } : Room).cells ({ frames := 2, cells := 0, slots := 0, locals := 24 } : Room).slots) := by
  refine MetFree.of_bodySF (plainFor_of_name pn_1) hisR ?_
  intro p e s m args below meth c s₁ Bd hml0 hP hK
  obtain ⟨rfl, hZ, hh⟩ := hP
  have hx := Bd.exec
  have hby := Bd.bytes
  have hml : c.maxLocals = 2 := hml0
  have hown : s.vm.findClass "com/example/attest/attest/metadata/ScopeSyntax$Chars" = some m.cls := findClass_of_methodNamed Bd.named
  have hnm := (name_of_methodNamed Bd.named Bd.method).1
  have X0 : Stand p l e ({ frames := 2, cells := 0, slots := 0, locals := 24 } : Room) s m #[(.ref a0), (.ref r1)] below meth c s₁ [] 0 0 := Stand.of_body Bd
  have e0 : s₁.heap = h0 := by rw [← hh, Bd.state]; rfl
  have N0 := Fr.nil n0
  have kp0 : Keep h0 h0 [a0] := Keep.refl _ _
  obtain ⟨S0, hS0⟩ : ∃ z, z = s₁.setTop (entryFrame m #[(.ref a0), (.ref r1)] 2) := ⟨_, rfl⟩
  have pre0 : Go p.tables e below S0 s₁ (mkF m 0 #[vR a0, vR r1] []) := fun t k => by rw [hS0]; exact castTop (ef_1 m a0 r1) k
  have pre1 : Go p.tables e below S0 s₁ (mkF m 1 #[vR a0, vR r1] [(.ref a0)]) := fun t k => pre0 t (by
    refine XS.aloadN X0.here hx rfl (hb hby d1_0) rfl rfl ?_
    show Steps p.tables e below (s₁.setTop (mkF m 1 #[vR a0, vR r1] [(.ref a0)])) _
    exact k)
  obtain ⟨_, _, ⟨T2, L2, k2, n2⟩, -, X2, ⟨Lc2, hQ2, l2, y2, z2⟩, st2⟩ := X0.specialBack hx (y := (⟨"java/lang/Record", "<init>", "()V"⟩ : MethodName)) rfl hown (mvT hZ (hw _ (List.mem_of_getElem? (i := 10) rfl))) (mvT hZ (hw _ (List.mem_of_getElem? (i := 11) rfl))) (mvT hZ (hw _ (List.mem_of_getElem? (i := 14) rfl))) (by decide) (backOf (W := 0) (rm2 l Z A0 hw [] a0 h0 n0 Z0) hZ (hw _ (List.mem_of_getElem? (i := 14) rfl)) (hw _ (List.mem_of_getElem? (i := 13) rfl)) (by decide) (by decide)) (g := (mkF m 1 #[vR a0, vR r1] [(.ref a0)])) rfl (by rw [hml]; rfl) (Steps.refl _) (a := a0) (argsL := []) (rest := []) (lenOf pd_0 rfl) rfl (by show 2 * 0 + _ ≤ _; exact Nat.le_of_eq rfl) (hb hby d1_1) (fun _ _ => ⟨rfl, e0, (by decide : 0 + 0 ≤ _), (by decide : 0 + 0 ≤ _)⟩)
  dsimp only [Pt.U, Pt.locs, Pt.cells, Pt.slots] at X2 l2 y2 z2 st2 hQ2
  subst l2 y2 z2
  obtain ⟨rfl, Nq2, eq2⟩ := hQ2
  have N2 := Fr.app N0 Nq2
  have pre2 : Go p.tables e below S0 T2 (mkF m 4 #[vR a0, vR r1] []) := fun t k => pre1 t (st2.trans k)
  have pre3 : Go p.tables e below S0 T2 (mkF m 6 #[vR a0, vR r1] [(.ref r1), (.ref a0)]) := fun t k => pre2 t (by
    refine XS.aloadN X2.here hx rfl (hb hby d1_4) rfl rfl ?_
    show Steps p.tables e below (T2.setTop (mkF m 5 #[vR a0, vR r1] [(.ref a0)])) _
    refine XS.aloadN X2.here hx rfl (hb hby d1_5) rfl rfl ?_
    show Steps p.tables e below (T2.setTop (mkF m 6 #[vR a0, vR r1] [(.ref r1), (.ref a0)])) _
    exact k)
  obtain ⟨T4, h4, X4, e4, W4, st4⟩ := putF X2 hx hZ hown (host := "") (Or.inl (hw _ (List.mem_of_getElem? (i := 18) rfl))) Via.refl eq2 F_ranges E0 (Or.inr ⟨(hw _ (List.mem_of_getElem? (i := 19) rfl)), rfl, hnm⟩) (hw _ (List.mem_of_getElem? (i := 5) rfl)) (ty := (.array .int)) (by decide) rfl rfl (g := (mkF m 6 #[vR a0, vR r1] [(.ref r1), (.ref a0)])) rfl rfl (hb hby d1_6)
  have pre4 : Go p.tables e below S0 T4 (mkF m 9 #[vR a0, vR r1] []) := fun t k => pre3 t (st4 t k)
  have N4 := Fr.snoc X4 N2 g0
  have fw4 : Fld Z h4 a0 "com/example/attest/attest/metadata/ScopeSyntax$Chars" "ranges" "[I" (.ref r1) := Fld.same W4 F_ranges
  have f5_1 := Exa.wr W4 E0
  have zz6 : n0 ≤ h4.size := Nat.le_trans Z0 (Keep.of_wr W4).1
  have kp7 : Keep h0 h4 [a0] := kp0.wr W4 (Or.inl (List.mem_of_getElem? (i := 0) rfl))
  obtain ⟨fs, hr, hrun, hended, hW, hsame⟩ := X4.leave (v := none) (fun _ => rfl)
  exact ⟨_, _, pre4.fin hS0 (X4.returnOut hx Bd.returns (hb hby d1_9) hr), hrun, hended, _, _, rfl, (by
    show Q1 Z a0 r1 h0 n0 _ T4.heap _
    rw [e4]
    exact ⟨rfl, N4, kp7, f5_1, fw4⟩), ⟨_, rfl⟩, hW, hsame.mono (by decide) (by decide)⟩
def own_sing (x0 x1 : Int32) : Int32 := if x0 = x1 then 1 else 0
theorem ef_4A (m : MethodId) (x0 : Addr) : entryFrame m #[(.ref x0)] 1 = mkF m 0 #[.val (.ref x0)] [] := by first | (simp [entryFrame, mkF, argsToLocals, Value.category]; done) | rfl
theorem d4_0 : decode prog_52_method_5_code 0 = .ok (.aload_n 0, 1) := by decide +kernel
theorem d4_1 : decode prog_52_method_5_code 1 = .ok (.getfield 7, 3) := by decide +kernel
theorem d4_4 : decode prog_52_method_5_code 4 = .ok (.arraylength, 1) := by decide +kernel
theorem d4_5 : decode prog_52_method_5_code 5 = .ok (.iconst 2, 1) := by decide +kernel
theorem d4_6 : decode prog_52_method_5_code 6 = .ok (.if_icmp .ne 22, 3) := by decide +kernel
theorem d4_28 : decode prog_52_method_5_code 28 = .ok (.iconst 0, 1) := by decide +kernel
theorem d4_29 : decode prog_52_method_5_code 29 = .ok (.ireturn, 1) := by decide +kernel
def Q4A (Z : State) (a0 : Addr) (r : Addr) (k0 : ClassId) (n : Int32) (xs : List Value) (h0 : Heap) (n0 : Nat) (v : Option Value) (h : Heap) (L : List Loc) : Prop := v = some (.int 0) ∧ Fr n0 L ∧ h = h0
set_option maxRecDepth 65536 in
set_option maxHeartbeats 40000000 in
theorem rm4A (l : Launch) (Z : State) (A0 : Array Value) (hw : ∀ d ∈ tables_1, d.before A0 Z = true) (ws : List Jvm.Cond) (a0 : Addr) (r : Addr) (k0 : ClassId) (n : Int32) (xs : List Value) (h0 : Heap) (n0 : Nat) (Z0 : n0 ≤ h0.size) (F0 : Fld Z h0 a0 "com/example/attest/attest/metadata/ScopeSyntax$Chars" "ranges" "[I" (.ref r)) (V0 : Arv Z h0 r k0 .int n xs (.int (0 : Int32))) (hn : ¬ (n = (2 : Int32))) :
    MetFree l (⟨"com/example/attest/attest/metadata/ScopeSyntax$Chars", "single", "()Z"⟩ : MethodName) (head1 (Jvm.Cond.code (⟨"com/example/attest/attest/metadata/ScopeSyntax$Chars", "single", "()Z"⟩ : MethodName) prog_52_method_5_code 1 (some .boolean) :: ws) ({ frames := 0, cells := 0, slots := 0, locals := 0 } : Room)) (fun a U => a = #[(.ref a0)] ∧ Z.Warmed39 U.vm ∧ U.heap = h0) (fun _ _ _ _ _ => True) (fun _ U o U' => ∃ v L, o = .returned v ∧ Q4A Z a0 r k0 n xs h0 n0 v U'.heap L ∧ FrameEnd U o U' L ({ frames := 0, cells := 0, slots := 0, locals := 0 } : Room).cells ({ frames := 0, cells := 0, slots := 0, locals := 0 } : Room).slots) := by
  refine MetFree.of_bodySF (plainFor_of_name pn_1) hisR ?_
  intro p e s m args below meth c s₁ Bd hml0 hP hK
  obtain ⟨rfl, hZ, hh⟩ := hP
  have hx := Bd.exec
  have hby := Bd.bytes
  have hml : c.maxLocals = 1 := hml0
  have hown : s.vm.findClass "com/example/attest/attest/metadata/ScopeSyntax$Chars" = some m.cls := findClass_of_methodNamed Bd.named
  have hnm := (name_of_methodNamed Bd.named Bd.method).1
  have X0 : Stand p l e ({ frames := 0, cells := 0, slots := 0, locals := 0 } : Room) s m #[(.ref a0)] below meth c s₁ [] 0 0 := Stand.of_body Bd
  have e0 : s₁.heap = h0 := by rw [← hh, Bd.state]; rfl
  have N0 := Fr.nil n0
  obtain ⟨S0, hS0⟩ : ∃ z, z = s₁.setTop (entryFrame m #[(.ref a0)] 1) := ⟨_, rfl⟩
  have pre0 : Go p.tables e below S0 s₁ (mkF m 0 #[vR a0] []) := fun t k => by rw [hS0]; exact castTop (ef_4A m a0) k
  have pre1 : Go p.tables e below S0 s₁ (mkF m 1 #[vR a0] [(.ref a0)]) := fun t k => pre0 t (by
    refine XS.aloadN X0.here hx rfl (hb hby d4_0) rfl rfl ?_
    show Steps p.tables e below (s₁.setTop (mkF m 1 #[vR a0] [(.ref a0)])) _
    exact k)
  obtain ⟨T2, X2, e2, st2⟩ := getF X0 hx hZ hown (host := "") (Or.inl (hw _ (List.mem_of_getElem? (i := 18) rfl))) Via.refl e0 F0 (g := (mkF m 1 #[vR a0] [(.ref a0)])) rfl rfl (hb hby d4_1)
  have pre2 : Go p.tables e below S0 T2 (mkF m 4 #[vR a0] [(.ref r)]) := fun t k => pre1 t (st2 t k)
  obtain ⟨cl3, Ar3, q3, S3, M3, H3, G3⟩ := id V0
  have pre4 : Go p.tables e below S0 T2 (mkF m 6 #[vR a0] [(.int (2 : Int32)), (.int n)]) := fun t k => pre2 t (by
    refine X2.arraylength hx (by rw [e2]; exact Ar3.1) (State.isArrayOf_alike hZ.alike Ar3.2.1) (g := (mkF m 4 #[vR a0] [(.ref r)])) rfl rfl (hb hby d4_4) _ ?_
    rw [len_of S3 M3]
    show Steps p.tables e below (T2.setTop (mkF m 5 #[vR a0] [(.int n)])) _
    refine XS.iconst X2.here hx rfl (hb hby d4_5) ?_
    show Steps p.tables e below (T2.setTop (mkF m 6 #[vR a0] [(.int (2 : Int32)), (.int n)])) _
    exact k)
  have cc5 : ¬ (n = (2 : Int32)) := hn
  have pre6 : Go p.tables e below S0 T2 (mkF m 29 #[vR a0] [(.int (0 : Int32))]) := fun t k => pre4 t (by
    refine XS.icmpYes X2.here hx rfl (pc0 := 6) (pc' := 28) rfl (hb hby d4_6) rfl (feq cc5).2 (by decide) (by decide) ?_
    show Steps p.tables e below (T2.setTop (mkF m 28 #[vR a0] [])) _
    refine XS.iconst X2.here hx rfl (hb hby d4_28) ?_
    show Steps p.tables e below (T2.setTop (mkF m 29 #[vR a0] [(.int (0 : Int32))])) _
    exact k)
  obtain ⟨fs, hr, hrun, hended, hW, hsame⟩ := X2.leave (v := some (.int (0 : Int32))) (fun h => by rw [Bd.returns] at h; cases h)
  exact ⟨_, _, pre6.fin hS0 (retN X2 hx (t := .boolean) Bd.returns (by simp) (hb hby d4_29) hr), hrun, hended, _, _, rfl, (by
    show Q4A Z a0 r k0 n xs h0 n0 _ T2.heap _
    rw [e2]
    exact ⟨rfl, N0, rfl⟩), ⟨_, rfl⟩, hW, hsame.mono (by decide) (by decide)⟩
theorem ef_4B (m : MethodId) (x0 : Addr) : entryFrame m #[(.ref x0)] 1 = mkF m 0 #[.val (.ref x0)] [] := by first | (simp [entryFrame, mkF, argsToLocals, Value.category]; done) | rfl
theorem d4_9 : decode prog_52_method_5_code 9 = .ok (.aload_n 0, 1) := by decide +kernel
theorem d4_10 : decode prog_52_method_5_code 10 = .ok (.getfield 7, 3) := by decide +kernel
theorem d4_13 : decode prog_52_method_5_code 13 = .ok (.iconst 0, 1) := by decide +kernel
theorem d4_14 : decode prog_52_method_5_code 14 = .ok (.iaload, 1) := by decide +kernel
theorem d4_15 : decode prog_52_method_5_code 15 = .ok (.aload_n 0, 1) := by decide +kernel
theorem d4_16 : decode prog_52_method_5_code 16 = .ok (.getfield 7, 3) := by decide +kernel
theorem d4_19 : decode prog_52_method_5_code 19 = .ok (.iconst 1, 1) := by decide +kernel
theorem d4_20 : decode prog_52_method_5_code 20 = .ok (.iaload, 1) := by decide +kernel
theorem d4_21 : decode prog_52_method_5_code 21 = .ok (.if_icmp .ne 7, 3) := by decide +kernel
theorem d4_24 : decode prog_52_method_5_code 24 = .ok (.iconst 1, 1) := by decide +kernel
theorem d4_25 : decode prog_52_method_5_code 25 = .ok (.goto 4, 3) := by decide +kernel
def Q4B (Z : State) (a0 : Addr) (r : Addr) (k0 : ClassId) (x0 x1 : Int32) (h0 : Heap) (n0 : Nat) (v : Option Value) (h : Heap) (L : List Loc) : Prop := v = some (.int (own_sing x0 x1)) ∧ Fr n0 L ∧ h = h0
set_option maxRecDepth 65536 in
set_option maxHeartbeats 40000000 in
theorem rm4B (l : Launch) (Z : State) (A0 : Array Value) (hw : ∀ d ∈ tables_1, d.before A0 Z = true) (ws : List Jvm.Cond) (a0 : Addr) (r : Addr) (k0 : ClassId) (x0 x1 : Int32) (h0 : Heap) (n0 : Nat) (Z0 : n0 ≤ h0.size) (F0 : Fld Z h0 a0 "com/example/attest/attest/metadata/ScopeSyntax$Chars" "ranges" "[I" (.ref r)) (V0 : Arv Z h0 r k0 .int (2 : Int32) [(.int x0), (.int x1)] (.int (0 : Int32))) :
    MetFree l (⟨"com/example/attest/attest/metadata/ScopeSyntax$Chars", "single", "()Z"⟩ : MethodName) (head1 (Jvm.Cond.code (⟨"com/example/attest/attest/metadata/ScopeSyntax$Chars", "single", "()Z"⟩ : MethodName) prog_52_method_5_code 1 (some .boolean) :: ws) ({ frames := 0, cells := 0, slots := 0, locals := 0 } : Room)) (fun a U => a = #[(.ref a0)] ∧ Z.Warmed39 U.vm ∧ U.heap = h0) (fun _ _ _ _ _ => True) (fun _ U o U' => ∃ v L, o = .returned v ∧ Q4B Z a0 r k0 x0 x1 h0 n0 v U'.heap L ∧ FrameEnd U o U' L ({ frames := 0, cells := 0, slots := 0, locals := 0 } : Room).cells ({ frames := 0, cells := 0, slots := 0, locals := 0 } : Room).slots) := by
  refine MetFree.of_bodySF (plainFor_of_name pn_1) hisR ?_
  intro p e s m args below meth c s₁ Bd hml0 hP hK
  obtain ⟨rfl, hZ, hh⟩ := hP
  have hx := Bd.exec
  have hby := Bd.bytes
  have hml : c.maxLocals = 1 := hml0
  have hown : s.vm.findClass "com/example/attest/attest/metadata/ScopeSyntax$Chars" = some m.cls := findClass_of_methodNamed Bd.named
  have hnm := (name_of_methodNamed Bd.named Bd.method).1
  have X0 : Stand p l e ({ frames := 0, cells := 0, slots := 0, locals := 0 } : Room) s m #[(.ref a0)] below meth c s₁ [] 0 0 := Stand.of_body Bd
  have e0 : s₁.heap = h0 := by rw [← hh, Bd.state]; rfl
  have N0 := Fr.nil n0
  obtain ⟨S0, hS0⟩ : ∃ z, z = s₁.setTop (entryFrame m #[(.ref a0)] 1) := ⟨_, rfl⟩
  have pre0 : Go p.tables e below S0 s₁ (mkF m 0 #[vR a0] []) := fun t k => by rw [hS0]; exact castTop (ef_4B m a0) k
  have pre1 : Go p.tables e below S0 s₁ (mkF m 1 #[vR a0] [(.ref a0)]) := fun t k => pre0 t (by
    refine XS.aloadN X0.here hx rfl (hb hby d4_0) rfl rfl ?_
    show Steps p.tables e below (s₁.setTop (mkF m 1 #[vR a0] [(.ref a0)])) _
    exact k)
  obtain ⟨T2, X2, e2, st2⟩ := getF X0 hx hZ hown (host := "") (Or.inl (hw _ (List.mem_of_getElem? (i := 18) rfl))) Via.refl e0 F0 (g := (mkF m 1 #[vR a0] [(.ref a0)])) rfl rfl (hb hby d4_1)
  have pre2 : Go p.tables e below S0 T2 (mkF m 4 #[vR a0] [(.ref r)]) := fun t k => pre1 t (st2 t k)
  obtain ⟨cl3, Ar3, q3, S3, M3, H3, G3⟩ := id V0
  have pre4 : Go p.tables e below S0 T2 (mkF m 10 #[vR a0] [(.ref a0)]) := fun t k => pre2 t (by
    refine X2.arraylength hx (by rw [e2]; exact Ar3.1) (State.isArrayOf_alike hZ.alike Ar3.2.1) (g := (mkF m 4 #[vR a0] [(.ref r)])) rfl rfl (hb hby d4_4) _ ?_
    rw [len_of S3 M3]
    show Steps p.tables e below (T2.setTop (mkF m 5 #[vR a0] [(.int (2 : Int32))])) _
    refine XS.iconst X2.here hx rfl (hb hby d4_5) ?_
    show Steps p.tables e below (T2.setTop (mkF m 6 #[vR a0] [(.int (2 : Int32)), (.int (2 : Int32))])) _
    refine XS.icmpNo X2.here hx rfl (hb hby d4_6) rfl (teq (rfl : (2 : Int32) = (2 : Int32))).2 ?_
    show Steps p.tables e below (T2.setTop (mkF m 9 #[vR a0] [])) _
    refine XS.aloadN X2.here hx rfl (hb hby d4_9) rfl rfl ?_
    show Steps p.tables e below (T2.setTop (mkF m 10 #[vR a0] [(.ref a0)])) _
    exact k)
  obtain ⟨T5, X5, e5, st5⟩ := getF X2 hx hZ hown (host := "") (Or.inl (hw _ (List.mem_of_getElem? (i := 18) rfl))) Via.refl e2 F0 (g := (mkF m 10 #[vR a0] [(.ref a0)])) rfl rfl (hb hby d4_10)
  have pre5 : Go p.tables e below S0 T5 (mkF m 13 #[vR a0] [(.ref r)]) := fun t k => pre4 t (st5 t k)
  have pre6 : Go p.tables e below S0 T5 (mkF m 14 #[vR a0] [(.int (0 : Int32)), (.ref r)]) := fun t k => pre5 t (by
    refine XS.iconst X5.here hx rfl (hb hby d4_13) ?_
    show Steps p.tables e below (T5.setTop (mkF m 14 #[vR a0] [(.int (0 : Int32)), (.ref r)])) _
    exact k)
  obtain ⟨cl7, Ar7, q7, S7, M7, H7, G7⟩ := id V0
  have in7 : ¬ ((0 : Int32) < 0 ∨ cl7.slots.size ≤ ((0 : Int32)).toNatClampNeg) := inb_of S7 ⟨by decide, by decide⟩
  have at7 : cl7.slots[((0 : Int32)).toNatClampNeg]? = some (.int x0) := H7.at in7 rfl
  have pre8 : Go p.tables e below S0 T5 (mkF m 16 #[vR a0] [(.ref a0), (.int x0)]) := fun t k => pre6 t (by
    refine X5.iaload hx (j := (0 : Int32)) (v := (.int x0)) (by rw [e5]; exact Ar7.1) (State.isArrayOf_alike hZ.alike Ar7.2.1) Ar7.2.2 in7 at7 (g := (mkF m 14 #[vR a0] [(.int (0 : Int32)), (.ref r)])) rfl rfl (hb hby d4_14) _ ?_
    show Steps p.tables e below (T5.setTop (mkF m 15 #[vR a0] [(.int x0)])) _
    refine XS.aloadN X5.here hx rfl (hb hby d4_15) rfl rfl ?_
    show Steps p.tables e below (T5.setTop (mkF m 16 #[vR a0] [(.ref a0), (.int x0)])) _
    exact k)
  obtain ⟨T9, X9, e9, st9⟩ := getF X5 hx hZ hown (host := "") (Or.inl (hw _ (List.mem_of_getElem? (i := 18) rfl))) Via.refl e5 F0 (g := (mkF m 16 #[vR a0] [(.ref a0), (.int x0)])) rfl rfl (hb hby d4_16)
  have pre9 : Go p.tables e below S0 T9 (mkF m 19 #[vR a0] [(.ref r), (.int x0)]) := fun t k => pre8 t (st9 t k)
  have pre10 : Go p.tables e below S0 T9 (mkF m 20 #[vR a0] [(.int (1 : Int32)), (.ref r), (.int x0)]) := fun t k => pre9 t (by
    refine XS.iconst X9.here hx rfl (hb hby d4_19) ?_
    show Steps p.tables e below (T9.setTop (mkF m 20 #[vR a0] [(.int (1 : Int32)), (.ref r), (.int x0)])) _
    exact k)
  obtain ⟨cl11, Ar11, q11, S11, M11, H11, G11⟩ := id V0
  have in11 : ¬ ((1 : Int32) < 0 ∨ cl11.slots.size ≤ ((1 : Int32)).toNatClampNeg) := inb_of S11 ⟨by decide, by decide⟩
  have at11 : cl11.slots[((1 : Int32)).toNatClampNeg]? = some (.int x1) := H11.at in11 rfl
  have pre12 : Go p.tables e below S0 T9 (mkF m 21 #[vR a0] [(.int x1), (.int x0)]) := fun t k => pre10 t (by
    refine X9.iaload hx (j := (1 : Int32)) (v := (.int x1)) (by rw [e9]; exact Ar11.1) (State.isArrayOf_alike hZ.alike Ar11.2.1) Ar11.2.2 in11 at11 (g := (mkF m 20 #[vR a0] [(.int (1 : Int32)), (.ref r), (.int x0)])) rfl rfl (hb hby d4_20) _ ?_
    show Steps p.tables e below (T9.setTop (mkF m 21 #[vR a0] [(.int x1), (.int x0)])) _
    exact k)
  by_cases c21_13 : x0 = x1
  · skip
    have pre14 : Go p.tables e below S0 T9 (mkF m 29 #[vR a0] [(.int (1 : Int32))]) := fun t k => pre12 t (by
      refine XS.icmpNo X9.here hx rfl (hb hby d4_21) rfl (teq c21_13).2 ?_
      show Steps p.tables e below (T9.setTop (mkF m 24 #[vR a0] [])) _
      refine XS.iconst X9.here hx rfl (hb hby d4_24) ?_
      show Steps p.tables e below (T9.setTop (mkF m 25 #[vR a0] [(.int (1 : Int32))])) _
      refine XS.goto X9.here hx rfl (pc0 := 25) (pc' := 29) rfl (hb hby d4_25) (by decide) (by decide) ?_
      show Steps p.tables e below (T9.setTop (mkF m 29 #[vR a0] [(.int (1 : Int32))])) _
      exact k)
    obtain ⟨fs, hr, hrun, hended, hW, hsame⟩ := X9.leave (v := some (.int (1 : Int32))) (fun h => by rw [Bd.returns] at h; cases h)
    exact ⟨_, _, pre14.fin hS0 (retN X9 hx (t := .boolean) Bd.returns (by simp) (hb hby d4_29) hr), hrun, hended, _, _, rfl, (by
      show Q4B Z a0 r k0 x0 x1 h0 n0 _ T9.heap _
      rw [e9]
      exact ⟨congrArg (fun z => some (Value.int z)) (by simp [own_sing, c21_13]), N0, rfl⟩), ⟨_, rfl⟩, hW, hsame.mono (by decide) (by decide)⟩
  · skip
    have pre15 : Go p.tables e below S0 T9 (mkF m 29 #[vR a0] [(.int (0 : Int32))]) := fun t k => pre12 t (by
      refine XS.icmpYes X9.here hx rfl (pc0 := 21) (pc' := 28) rfl (hb hby d4_21) rfl (feq c21_13).2 (by decide) (by decide) ?_
      show Steps p.tables e below (T9.setTop (mkF m 28 #[vR a0] [])) _
      refine XS.iconst X9.here hx rfl (hb hby d4_28) ?_
      show Steps p.tables e below (T9.setTop (mkF m 29 #[vR a0] [(.int (0 : Int32))])) _
      exact k)
    obtain ⟨fs, hr, hrun, hended, hW, hsame⟩ := X9.leave (v := some (.int (0 : Int32))) (fun h => by rw [Bd.returns] at h; cases h)
    exact ⟨_, _, pre15.fin hS0 (retN X9 hx (t := .boolean) Bd.returns (by simp) (hb hby d4_29) hr), hrun, hended, _, _, rfl, (by
      show Q4B Z a0 r k0 x0 x1 h0 n0 _ T9.heap _
      rw [e9]
      exact ⟨congrArg (fun z => some (Value.int z)) (by simp [own_sing, c21_13]), N0, rfl⟩), ⟨_, rfl⟩, hW, hsame.mono (by decide) (by decide)⟩
theorem own_lo {a lo : Int32} (h : lo = (a &&& (2147483647 : Int32)) % (1114112 : Int32)) : 0 ≤ lo.toInt ∧ lo.toInt ≤ 1114111 := by
  have h0 : 0 ≤ (a &&& (2147483647 : Int32)).toInt := by rw [c_mask a (2147483647 : Int32) 31 (by decide) (by decide)]; omega
  have h1 := (c_iremV (a &&& (2147483647 : Int32)) (1114112 : Int32)).1 h0 (by decide)
  rw [← h] at h1
  have t : (1114112 : Int32).toInt = 1114112 := rfl
  omega
theorem own_gap {lo : Int32} (h : 0 ≤ lo.toInt ∧ lo.toInt ≤ 1114111) : ((1114112 : Int32) - lo).toInt = 1114112 - lo.toInt := by
  have a := c_isub (1114112 : Int32) lo
  have b := rng32 ((1114112 : Int32) - lo)
  have t : (1114112 : Int32).toInt = 1114112 := rfl
  omega
theorem own_gnz {lo : Int32} (h : 0 ≤ lo.toInt ∧ lo.toInt ≤ 1114111) : ((1114112 : Int32) - lo) ≠ 0 := fun q => by
  have := own_gap h
  rw [q] at this
  have t : (0 : Int32).toInt = 0 := rfl
  omega
theorem own_hi {b lo hi : Int32} (h : 0 ≤ lo.toInt ∧ lo.toInt ≤ 1114111) (e : hi = lo + ((b.toUInt32 >>> ((1 : Int32) &&& 31).toUInt32).toInt32) % ((1114112 : Int32) - lo)) : lo.toInt ≤ hi.toInt ∧ hi.toInt ≤ 1114111 := by
  have g := own_gap h
  have u := c_iushr b (1 : Int32) 1 (by decide) (by decide)
  have r := (c_iremV ((b.toUInt32 >>> ((1 : Int32) &&& 31).toUInt32).toInt32) ((1114112 : Int32) - lo)).1 (by rw [u]; omega) (by omega)
  have a := c_iadd lo (((b.toUInt32 >>> ((1 : Int32) &&& 31).toUInt32).toInt32) % ((1114112 : Int32) - lo))
  have k := rng32 hi
  rw [← e] at a
  omega
theorem own_n2 {lo hi : Int32} {c : Int64} {j : Int32} (h : lo.toInt ≤ hi.toInt) (e : c = (hi.toInt64 - lo.toInt64) + (1 : Int64)) (hj : (j = (1 : Int32) ∧ c = (1 : Int64)) ∨ (j = (0 : Int32) ∧ ¬ (c = (1 : Int64)))) : own_sing lo hi = j := by
  have a := c_lsub hi.toInt64 lo.toInt64
  have b := c_ladd (hi.toInt64 - lo.toInt64) (1 : Int64)
  rw [c_i2l, c_i2l] at a
  have r1 := rng32 lo
  have r2 := rng32 hi
  have r3 := rng64 (hi.toInt64 - lo.toInt64)
  have r4 := rng64 c
  have t : (1 : Int64).toInt = 1 := rfl
  rw [← e] at b
  rw [← Int64.toInt_inj, t] at hj
  unfold own_sing
  rcases hj with ⟨rfl, q⟩ | ⟨rfl, q⟩
  · rw [if_pos (Int32.toInt_inj.mp (by omega))]
  · rw [if_neg (fun z => by have := congrArg Int32.toInt z; omega)]
theorem own_n4 {lo hi c d : Int32} {lo2 hi2 n : Int64} {j : Int32} (h : 0 ≤ lo.toInt ∧ lo.toInt ≤ hi.toInt ∧ hi.toInt ≤ 1114111) (e1 : lo2 = (hi.toInt64 + (2 : Int64)) + ((((c.toUInt32 >>> ((2 : Int32) &&& 31).toUInt32).toInt32) &&& (255 : Int32)).toInt64))
    (e2 : hi2 = lo2 + ((d &&& (255 : Int32)).toInt64)) (e3 : n = ((hi.toInt64 - lo.toInt64) + (1 : Int64)) + ((hi2 - lo2) + (1 : Int64))) (hj : (j = (1 : Int32) ∧ n = (1 : Int64)) ∨ (j = (0 : Int32) ∧ ¬ (n = (1 : Int64)))) : (0 : Int32) = j := by
  have m1 := c_and ((c.toUInt32 >>> ((2 : Int32) &&& 31).toUInt32).toInt32) (255 : Int32) (by decide)
  have m2 := c_and d (255 : Int32) (by decide)
  have t255 : (255 : Int32).toInt = 255 := rfl
  have t2 : (2 : Int64).toInt = 2 := rfl
  have t1 : (1 : Int64).toInt = 1 := rfl
  have a1 := c_ladd hi.toInt64 (2 : Int64)
  have a2 := c_ladd (hi.toInt64 + (2 : Int64)) ((((c.toUInt32 >>> ((2 : Int32) &&& 31).toUInt32).toInt32) &&& (255 : Int32)).toInt64)
  have a3 := c_ladd lo2 ((d &&& (255 : Int32)).toInt64)
  have a4 := c_lsub hi.toInt64 lo.toInt64
  have a5 := c_ladd (hi.toInt64 - lo.toInt64) (1 : Int64)
  have a6 := c_lsub hi2 lo2
  have a7 := c_ladd (hi2 - lo2) (1 : Int64)
  have a8 := c_ladd ((hi.toInt64 - lo.toInt64) + (1 : Int64)) ((hi2 - lo2) + (1 : Int64))
  rw [c_i2l, t2] at a1
  rw [c_i2l, ← e1] at a2
  rw [c_i2l, ← e2] at a3
  rw [c_i2l, c_i2l] at a4
  rw [t1] at a5 a7
  rw [← e3] at a8
  have b1 := rng64 (hi.toInt64 + (2 : Int64))
  have b2 := rng64 lo2
  have b3 := rng64 hi2
  have b4 := rng64 (hi.toInt64 - lo.toInt64)
  have b5 := rng64 ((hi.toInt64 - lo.toInt64) + (1 : Int64))
  have b6 := rng64 (hi2 - lo2)
  have b7 := rng64 ((hi2 - lo2) + (1 : Int64))
  have b8 := rng64 n
  rw [← Int64.toInt_inj, t1] at hj
  rcases hj with ⟨rfl, q⟩ | ⟨rfl, q⟩
  · exfalso; omega
  · rfl
theorem ef_0 (m : MethodId) (x0 : Int32) (x1 : Int32) (x2 : Int32) (x3 : Int32) : entryFrame m #[(.int x0), (.int x1), (.int x2), (.int x3)] maxLocals = mkF m 0 #[.val (.int x0), .val (.int x1), .val (.int x2), .val (.int x3), .unset, .unset, .unset, .unset, .unset, .unset, .unset, .unset, .unset, .unset, .unset] [] := by first | (simp [entryFrame, mkF, argsToLocals, Value.category, maxLocals]; done) | rfl
theorem pn_2 : plainName "com/example/attest/attest/metadata/CharsSinglePinLaw" = true := by first | (simp [plainName, overriddenIn]; done) | decide +kernel
theorem pd_1 : parseMethodDescriptor "([I)V" = some ⟨[(.array .int)], none⟩ := by decide +kernel
theorem pd_2 : parseMethodDescriptor "()Z" = some ⟨[], some .boolean⟩ := by decide +kernel
def Q0 (Z : State) (p0 p1 p2 p3 : Int32) (h0 : Heap) (n0 : Nat) (v : Option Value) (h : Heap) (L : List Loc) : Prop := v = some (.int 1) ∧ Fr n0 L
set_option maxRecDepth 65536 in
set_option maxHeartbeats 40000000 in
theorem rm0 (l : Launch) (Z : State) (A0 : Array Value) (hw : ∀ d ∈ tables_1, d.before A0 Z = true) (ws : List Jvm.Cond) (p0 : Int32) (p1 : Int32) (p2 : Int32) (p3 : Int32)  (h0 : Heap) (n0 : Nat) (Z0 : n0 ≤ h0.size)  :
    MetFree l x (head1 (Jvm.Cond.code x code maxLocals ret :: ws) room_1) (fun a U => a = #[(.int p0), (.int p1), (.int p2), (.int p3)] ∧ Z.Warmed39 U.vm ∧ U.heap = h0) (fun _ _ _ _ _ => True) (fun _ U o U' => ∃ v L, o = .returned v ∧ Q0 Z p0 p1 p2 p3 h0 n0 v U'.heap L ∧ FrameEnd U o U' L 2 5) := by
  refine MetFree.of_bodySF (plainFor_of_name pn_2) hisR ?_
  intro p e s m args below meth c s₁ Bd hml0 hP hK
  obtain ⟨rfl, hZ, hh⟩ := hP
  have hx := Bd.exec
  have hby := Bd.bytes
  have hml : c.maxLocals = 15 := hml0
  have hown : s.vm.findClass "com/example/attest/attest/metadata/CharsSinglePinLaw" = some m.cls := findClass_of_methodNamed Bd.named
  have hnm := (name_of_methodNamed Bd.named Bd.method).1
  have X0 : Stand p l e room_1 s m #[(.int p0), (.int p1), (.int p2), (.int p3)] below meth c s₁ [] 0 0 := Stand.of_body Bd
  have e0 : s₁.heap = h0 := by rw [← hh, Bd.state]; rfl
  have N0 := Fr.nil n0
  obtain ⟨S0, hS0⟩ : ∃ z, z = s₁.setTop (entryFrame m #[(.int p0), (.int p1), (.int p2), (.int p3)] maxLocals) := ⟨_, rfl⟩
  have pre0 : Go p.tables e below S0 s₁ (mkF m 0 #[vI p0, vI p1, vI p2, vI p3, .unset, .unset, .unset, .unset, .unset, .unset, .unset, .unset, .unset, .unset, .unset] []) := fun t k => by rw [hS0]; exact castTop (ef_0 m p0 p1 p2 p3) k
  obtain ⟨v1, hv1, pre1⟩ : ∃ z : Int32, z = ((p0 &&& (2147483647 : Int32)) % (1114112 : Int32)) ∧ Go p.tables e below S0 s₁ (mkF m 15 #[vI p0, vI p1, vI p2, vI p3, vI (1114111 : Int32), vI z, .unset, .unset, .unset, .unset, .unset, .unset, .unset, .unset, .unset] []) := ⟨_, rfl, fun t k => pre0 t (by
    refine X0.ldcInt hx hown (mvT hZ (hw _ (List.mem_of_getElem? (i := 0) rfl))) (g := (mkF m 0 #[vI p0, vI p1, vI p2, vI p3, .unset, .unset, .unset, .unset, .unset, .unset, .unset, .unset, .unset, .unset, .unset] [])) rfl (hb hby at_0) _ ?_
    show Steps p.tables e below (s₁.setTop (mkF m 2 #[vI p0, vI p1, vI p2, vI p3, .unset, .unset, .unset, .unset, .unset, .unset, .unset, .unset, .unset, .unset, .unset] [(.int (1114111 : Int32))])) _
    refine XS.istore X0.here hx rfl (hb hby at_2) rfl (l' := #[vI p0, vI p1, vI p2, vI p3, vI (1114111 : Int32), .unset, .unset, .unset, .unset, .unset, .unset, .unset, .unset, .unset, .unset]) rfl ?_
    show Steps p.tables e below (s₁.setTop (mkF m 4 #[vI p0, vI p1, vI p2, vI p3, vI (1114111 : Int32), .unset, .unset, .unset, .unset, .unset, .unset, .unset, .unset, .unset, .unset] [])) _
    refine XS.iloadN X0.here hx rfl (hb hby at_4) rfl ?_
    show Steps p.tables e below (s₁.setTop (mkF m 5 #[vI p0, vI p1, vI p2, vI p3, vI (1114111 : Int32), .unset, .unset, .unset, .unset, .unset, .unset, .unset, .unset, .unset, .unset] [(.int p0)])) _
    refine X0.ldcInt hx hown (mvT hZ (hw _ (List.mem_of_getElem? (i := 1) rfl))) (g := (mkF m 5 #[vI p0, vI p1, vI p2, vI p3, vI (1114111 : Int32), .unset, .unset, .unset, .unset, .unset, .unset, .unset, .unset, .unset, .unset] [(.int p0)])) rfl (hb hby at_5) _ ?_
    show Steps p.tables e below (s₁.setTop (mkF m 7 #[vI p0, vI p1, vI p2, vI p3, vI (1114111 : Int32), .unset, .unset, .unset, .unset, .unset, .unset, .unset, .unset, .unset, .unset] [(.int (2147483647 : Int32)), (.int p0)])) _
    refine XS.iand X0.here hx rfl (hb hby at_7) rfl ?_
    show Steps p.tables e below (s₁.setTop (mkF m 8 #[vI p0, vI p1, vI p2, vI p3, vI (1114111 : Int32), .unset, .unset, .unset, .unset, .unset, .unset, .unset, .unset, .unset, .unset] [(.int (p0 &&& (2147483647 : Int32)))])) _
    refine XS.iload X0.here hx rfl (hb hby at_8) rfl ?_
    show Steps p.tables e below (s₁.setTop (mkF m 10 #[vI p0, vI p1, vI p2, vI p3, vI (1114111 : Int32), .unset, .unset, .unset, .unset, .unset, .unset, .unset, .unset, .unset, .unset] [(.int (1114111 : Int32)), (.int (p0 &&& (2147483647 : Int32)))])) _
    refine XS.iconst X0.here hx rfl (hb hby at_10) ?_
    show Steps p.tables e below (s₁.setTop (mkF m 11 #[vI p0, vI p1, vI p2, vI p3, vI (1114111 : Int32), .unset, .unset, .unset, .unset, .unset, .unset, .unset, .unset, .unset, .unset] [(.int (1 : Int32)), (.int (1114111 : Int32)), (.int (p0 &&& (2147483647 : Int32)))])) _
    refine XS.iadd X0.here hx rfl (hb hby at_11) rfl ?_
    show Steps p.tables e below (s₁.setTop (mkF m 12 #[vI p0, vI p1, vI p2, vI p3, vI (1114111 : Int32), .unset, .unset, .unset, .unset, .unset, .unset, .unset, .unset, .unset, .unset] [(.int (1114112 : Int32)), (.int (p0 &&& (2147483647 : Int32)))])) _
    refine iremM X0 hx rfl (hb hby at_12) rfl (by decide) ?_
    show Steps p.tables e below (s₁.setTop (mkF m 13 #[vI p0, vI p1, vI p2, vI p3, vI (1114111 : Int32), .unset, .unset, .unset, .unset, .unset, .unset, .unset, .unset, .unset, .unset] [(.int ((p0 &&& (2147483647 : Int32)) % (1114112 : Int32)))])) _
    refine XS.istore X0.here hx rfl (hb hby at_13) rfl (l' := #[vI p0, vI p1, vI p2, vI p3, vI (1114111 : Int32), vI ((p0 &&& (2147483647 : Int32)) % (1114112 : Int32)), .unset, .unset, .unset, .unset, .unset, .unset, .unset, .unset, .unset]) rfl ?_
    show Steps p.tables e below (s₁.setTop (mkF m 15 #[vI p0, vI p1, vI p2, vI p3, vI (1114111 : Int32), vI ((p0 &&& (2147483647 : Int32)) % (1114112 : Int32)), .unset, .unset, .unset, .unset, .unset, .unset, .unset, .unset, .unset] [])) _
    exact k)⟩
  have l1 := own_lo hv1
  have pre2 : Go p.tables e below S0 s₁ (mkF m 18 #[vI p0, vI p1, vI p2, vI p3, vI (1114111 : Int32), vI v1, .unset, .unset, .unset, .unset, .unset, .unset, .unset, .unset, .unset] [(.int (p1 &&& (1 : Int32)))]) := fun t k => pre1 t (by
    refine XS.iloadN X0.here hx rfl (hb hby at_15) rfl ?_
    show Steps p.tables e below (s₁.setTop (mkF m 16 #[vI p0, vI p1, vI p2, vI p3, vI (1114111 : Int32), vI v1, .unset, .unset, .unset, .unset, .unset, .unset, .unset, .unset, .unset] [(.int p1)])) _
    refine XS.iconst X0.here hx rfl (hb hby at_16) ?_
    show Steps p.tables e below (s₁.setTop (mkF m 17 #[vI p0, vI p1, vI p2, vI p3, vI (1114111 : Int32), vI v1, .unset, .unset, .unset, .unset, .unset, .unset, .unset, .unset, .unset] [(.int (1 : Int32)), (.int p1)])) _
    refine XS.iand X0.here hx rfl (hb hby at_17) rfl ?_
    show Steps p.tables e below (s₁.setTop (mkF m 18 #[vI p0, vI p1, vI p2, vI p3, vI (1114111 : Int32), vI v1, .unset, .unset, .unset, .unset, .unset, .unset, .unset, .unset, .unset] [(.int (p1 &&& (1 : Int32)))])) _
    exact k)
  refine cps (A := ∃ (j44_l6_8 : Int32), (v1.toInt ≤ (j44_l6_8).toInt ∧ (j44_l6_8).toInt ≤ 1114111) ∧ (Go p.tables e below S0 s₁ (mkF m 44 #[vI p0, vI p1, vI p2, vI p3, vI (1114111 : Int32), vI v1, vI j44_l6_8, .unset, .unset, .unset, .unset, .unset, .unset, .unset, .unset] []))) (fun tail11 => ?_) ?_
  · skip
    by_cases c18_3 : (p1 &&& (1 : Int32)) = (0 : Int32)
    · skip
      have pre4 : Go p.tables e below S0 s₁ (mkF m 44 #[vI p0, vI p1, vI p2, vI p3, vI (1114111 : Int32), vI v1, vI v1, .unset, .unset, .unset, .unset, .unset, .unset, .unset, .unset] []) := fun t k => pre2 t (by
        refine XS.ifNo X0.here hx rfl (hb hby at_18) rfl ((if0 _ _).trans (teq c18_3).2) ?_
        show Steps p.tables e below (s₁.setTop (mkF m 21 #[vI p0, vI p1, vI p2, vI p3, vI (1114111 : Int32), vI v1, .unset, .unset, .unset, .unset, .unset, .unset, .unset, .unset, .unset] [])) _
        refine XS.iload X0.here hx rfl (hb hby at_21) rfl ?_
        show Steps p.tables e below (s₁.setTop (mkF m 23 #[vI p0, vI p1, vI p2, vI p3, vI (1114111 : Int32), vI v1, .unset, .unset, .unset, .unset, .unset, .unset, .unset, .unset, .unset] [(.int v1)])) _
        refine XS.istore X0.here hx rfl (hb hby at_23) rfl (l' := #[vI p0, vI p1, vI p2, vI p3, vI (1114111 : Int32), vI v1, vI v1, .unset, .unset, .unset, .unset, .unset, .unset, .unset, .unset]) rfl ?_
        show Steps p.tables e below (s₁.setTop (mkF m 25 #[vI p0, vI p1, vI p2, vI p3, vI (1114111 : Int32), vI v1, vI v1, .unset, .unset, .unset, .unset, .unset, .unset, .unset, .unset] [])) _
        refine XS.goto X0.here hx rfl (pc0 := 25) (pc' := 44) rfl (hb hby at_25) (by decide) (by decide) ?_
        show Steps p.tables e below (s₁.setTop (mkF m 44 #[vI p0, vI p1, vI p2, vI p3, vI (1114111 : Int32), vI v1, vI v1, .unset, .unset, .unset, .unset, .unset, .unset, .unset, .unset] [])) _
        exact k)
      exact tail11 ⟨v1, (by exact ⟨Int.le_refl _, l1.2⟩), pre4⟩
    · skip
      have pre5 : Go p.tables e below S0 s₁ (mkF m 40 #[vI p0, vI p1, vI p2, vI p3, vI (1114111 : Int32), vI v1, .unset, .unset, .unset, .unset, .unset, .unset, .unset, .unset, .unset] [(.int ((1114112 : Int32) - v1)), (.int ((p1.toUInt32 >>> ((1 : Int32) &&& 31).toUInt32).toInt32)), (.int v1)]) := fun t k => pre2 t (by
        refine XS.ifYes X0.here hx rfl (pc0 := 18) (pc' := 28) rfl (hb hby at_18) rfl ((if0 _ _).trans (feq c18_3).2) (by decide) (by decide) ?_
        show Steps p.tables e below (s₁.setTop (mkF m 28 #[vI p0, vI p1, vI p2, vI p3, vI (1114111 : Int32), vI v1, .unset, .unset, .unset, .unset, .unset, .unset, .unset, .unset, .unset] [])) _
        refine XS.iload X0.here hx rfl (hb hby at_28) rfl ?_
        show Steps p.tables e below (s₁.setTop (mkF m 30 #[vI p0, vI p1, vI p2, vI p3, vI (1114111 : Int32), vI v1, .unset, .unset, .unset, .unset, .unset, .unset, .unset, .unset, .unset] [(.int v1)])) _
        refine XS.iloadN X0.here hx rfl (hb hby at_30) rfl ?_
        show Steps p.tables e below (s₁.setTop (mkF m 31 #[vI p0, vI p1, vI p2, vI p3, vI (1114111 : Int32), vI v1, .unset, .unset, .unset, .unset, .unset, .unset, .unset, .unset, .unset] [(.int p1), (.int v1)])) _
        refine XS.iconst X0.here hx rfl (hb hby at_31) ?_
        show Steps p.tables e below (s₁.setTop (mkF m 32 #[vI p0, vI p1, vI p2, vI p3, vI (1114111 : Int32), vI v1, .unset, .unset, .unset, .unset, .unset, .unset, .unset, .unset, .unset] [(.int (1 : Int32)), (.int p1), (.int v1)])) _
        refine XS.iushr X0.here hx rfl (hb hby at_32) rfl ?_
        show Steps p.tables e below (s₁.setTop (mkF m 33 #[vI p0, vI p1, vI p2, vI p3, vI (1114111 : Int32), vI v1, .unset, .unset, .unset, .unset, .unset, .unset, .unset, .unset, .unset] [(.int ((p1.toUInt32 >>> ((1 : Int32) &&& 31).toUInt32).toInt32)), (.int v1)])) _
        refine XS.iload X0.here hx rfl (hb hby at_33) rfl ?_
        show Steps p.tables e below (s₁.setTop (mkF m 35 #[vI p0, vI p1, vI p2, vI p3, vI (1114111 : Int32), vI v1, .unset, .unset, .unset, .unset, .unset, .unset, .unset, .unset, .unset] [(.int (1114111 : Int32)), (.int ((p1.toUInt32 >>> ((1 : Int32) &&& 31).toUInt32).toInt32)), (.int v1)])) _
        refine XS.iconst X0.here hx rfl (hb hby at_35) ?_
        show Steps p.tables e below (s₁.setTop (mkF m 36 #[vI p0, vI p1, vI p2, vI p3, vI (1114111 : Int32), vI v1, .unset, .unset, .unset, .unset, .unset, .unset, .unset, .unset, .unset] [(.int (1 : Int32)), (.int (1114111 : Int32)), (.int ((p1.toUInt32 >>> ((1 : Int32) &&& 31).toUInt32).toInt32)), (.int v1)])) _
        refine XS.iadd X0.here hx rfl (hb hby at_36) rfl ?_
        show Steps p.tables e below (s₁.setTop (mkF m 37 #[vI p0, vI p1, vI p2, vI p3, vI (1114111 : Int32), vI v1, .unset, .unset, .unset, .unset, .unset, .unset, .unset, .unset, .unset] [(.int (1114112 : Int32)), (.int ((p1.toUInt32 >>> ((1 : Int32) &&& 31).toUInt32).toInt32)), (.int v1)])) _
        refine XS.iload X0.here hx rfl (hb hby at_37) rfl ?_
        show Steps p.tables e below (s₁.setTop (mkF m 39 #[vI p0, vI p1, vI p2, vI p3, vI (1114111 : Int32), vI v1, .unset, .unset, .unset, .unset, .unset, .unset, .unset, .unset, .unset] [(.int v1), (.int (1114112 : Int32)), (.int ((p1.toUInt32 >>> ((1 : Int32) &&& 31).toUInt32).toInt32)), (.int v1)])) _
        refine XS.isub X0.here hx rfl (hb hby at_39) rfl ?_
        show Steps p.tables e below (s₁.setTop (mkF m 40 #[vI p0, vI p1, vI p2, vI p3, vI (1114111 : Int32), vI v1, .unset, .unset, .unset, .unset, .unset, .unset, .unset, .unset, .unset] [(.int ((1114112 : Int32) - v1)), (.int ((p1.toUInt32 >>> ((1 : Int32) &&& 31).toUInt32).toInt32)), (.int v1)])) _
        exact k)
      have nz6 : ((1114112 : Int32) - v1) ≠ 0 := own_gnz l1
      obtain ⟨v7, hv7, pre7⟩ : ∃ z : Int32, z = (v1 + (((p1.toUInt32 >>> ((1 : Int32) &&& 31).toUInt32).toInt32) % ((1114112 : Int32) - v1))) ∧ Go p.tables e below S0 s₁ (mkF m 44 #[vI p0, vI p1, vI p2, vI p3, vI (1114111 : Int32), vI v1, vI z, .unset, .unset, .unset, .unset, .unset, .unset, .unset, .unset] []) := ⟨_, rfl, fun t k => pre5 t (by
        refine iremM X0 hx rfl (hb hby at_40) rfl nz6 ?_
        show Steps p.tables e below (s₁.setTop (mkF m 41 #[vI p0, vI p1, vI p2, vI p3, vI (1114111 : Int32), vI v1, .unset, .unset, .unset, .unset, .unset, .unset, .unset, .unset, .unset] [(.int (((p1.toUInt32 >>> ((1 : Int32) &&& 31).toUInt32).toInt32) % ((1114112 : Int32) - v1))), (.int v1)])) _
        refine XS.iadd X0.here hx rfl (hb hby at_41) rfl ?_
        show Steps p.tables e below (s₁.setTop (mkF m 42 #[vI p0, vI p1, vI p2, vI p3, vI (1114111 : Int32), vI v1, .unset, .unset, .unset, .unset, .unset, .unset, .unset, .unset, .unset] [(.int (v1 + (((p1.toUInt32 >>> ((1 : Int32) &&& 31).toUInt32).toInt32) % ((1114112 : Int32) - v1))))])) _
        refine XS.istore X0.here hx rfl (hb hby at_42) rfl (l' := #[vI p0, vI p1, vI p2, vI p3, vI (1114111 : Int32), vI v1, vI (v1 + (((p1.toUInt32 >>> ((1 : Int32) &&& 31).toUInt32).toInt32) % ((1114112 : Int32) - v1))), .unset, .unset, .unset, .unset, .unset, .unset, .unset, .unset]) rfl ?_
        show Steps p.tables e below (s₁.setTop (mkF m 44 #[vI p0, vI p1, vI p2, vI p3, vI (1114111 : Int32), vI v1, vI (v1 + (((p1.toUInt32 >>> ((1 : Int32) &&& 31).toUInt32).toInt32) % ((1114112 : Int32) - v1))), .unset, .unset, .unset, .unset, .unset, .unset, .unset, .unset] [])) _
        exact k)⟩
      exact tail11 ⟨v7, (by exact own_hi l1 hv7), pre7⟩
  rintro ⟨j44_l6_8, hj44_9, pre10⟩
  have hi1 := hj44_9
  obtain ⟨v12, hv12, pre12⟩ : ∃ z : Int32, z = (p2 &&& (3 : Int32)) ∧ Go p.tables e below S0 s₁ (mkF m 49 #[vI p0, vI p1, vI p2, vI p3, vI (1114111 : Int32), vI v1, vI j44_l6_8, vI z, .unset, .unset, .unset, .unset, .unset, .unset, .unset] []) := ⟨_, rfl, fun t k => pre10 t (by
    refine XS.iloadN X0.here hx rfl (hb hby at_44) rfl ?_
    show Steps p.tables e below (s₁.setTop (mkF m 45 #[vI p0, vI p1, vI p2, vI p3, vI (1114111 : Int32), vI v1, vI j44_l6_8, .unset, .unset, .unset, .unset, .unset, .unset, .unset, .unset] [(.int p2)])) _
    refine XS.iconst X0.here hx rfl (hb hby at_45) ?_
    show Steps p.tables e below (s₁.setTop (mkF m 46 #[vI p0, vI p1, vI p2, vI p3, vI (1114111 : Int32), vI v1, vI j44_l6_8, .unset, .unset, .unset, .unset, .unset, .unset, .unset, .unset] [(.int (3 : Int32)), (.int p2)])) _
    refine XS.iand X0.here hx rfl (hb hby at_46) rfl ?_
    show Steps p.tables e below (s₁.setTop (mkF m 47 #[vI p0, vI p1, vI p2, vI p3, vI (1114111 : Int32), vI v1, vI j44_l6_8, .unset, .unset, .unset, .unset, .unset, .unset, .unset, .unset] [(.int (p2 &&& (3 : Int32)))])) _
    refine XS.istore X0.here hx rfl (hb hby at_47) rfl (l' := #[vI p0, vI p1, vI p2, vI p3, vI (1114111 : Int32), vI v1, vI j44_l6_8, vI (p2 &&& (3 : Int32)), .unset, .unset, .unset, .unset, .unset, .unset, .unset]) rfl ?_
    show Steps p.tables e below (s₁.setTop (mkF m 49 #[vI p0, vI p1, vI p2, vI p3, vI (1114111 : Int32), vI v1, vI j44_l6_8, vI (p2 &&& (3 : Int32)), .unset, .unset, .unset, .unset, .unset, .unset, .unset] [])) _
    exact k)⟩
  have pre13 : Go p.tables e below S0 s₁ (mkF m 51 #[vI p0, vI p1, vI p2, vI p3, vI (1114111 : Int32), vI v1, vI j44_l6_8, vI v12, .unset, .unset, .unset, .unset, .unset, .unset, .unset] [(.int v12)]) := fun t k => pre12 t (by
    refine XS.iload X0.here hx rfl (hb hby at_49) rfl ?_
    show Steps p.tables e below (s₁.setTop (mkF m 51 #[vI p0, vI p1, vI p2, vI p3, vI (1114111 : Int32), vI v1, vI j44_l6_8, vI v12, .unset, .unset, .unset, .unset, .unset, .unset, .unset] [(.int v12)])) _
    exact k)
  by_cases c51_14 : v12 = (0 : Int32)
  · skip
    have pre15 : Go p.tables e below S0 s₁ (mkF m 55 #[vI p0, vI p1, vI p2, vI p3, vI (1114111 : Int32), vI v1, vI j44_l6_8, vI v12, .unset, .unset, .unset, .unset, .unset, .unset, .unset] [(.int (0 : Int32))]) := fun t k => pre13 t (by
      refine XS.ifNo X0.here hx rfl (hb hby at_51) rfl ((if0 _ _).trans (teq c51_14).2) ?_
      show Steps p.tables e below (s₁.setTop (mkF m 54 #[vI p0, vI p1, vI p2, vI p3, vI (1114111 : Int32), vI v1, vI j44_l6_8, vI v12, .unset, .unset, .unset, .unset, .unset, .unset, .unset] [])) _
      refine XS.iconst X0.here hx rfl (hb hby at_54) ?_
      show Steps p.tables e below (s₁.setTop (mkF m 55 #[vI p0, vI p1, vI p2, vI p3, vI (1114111 : Int32), vI v1, vI j44_l6_8, vI v12, .unset, .unset, .unset, .unset, .unset, .unset, .unset] [(.int (0 : Int32))])) _
      exact k)
    obtain ⟨T16, h16, k16, X16, e16, E16, A16, st16⟩ := newP X0 hx hZ (hw _ (List.mem_of_getElem? (i := 3) rfl)) e0 (g := (mkF m 55 #[vI p0, vI p1, vI p2, vI p3, vI (1114111 : Int32), vI v1, vI j44_l6_8, vI v12, .unset, .unset, .unset, .unset, .unset, .unset, .unset] [(.int (0 : Int32))])) rfl (hb hby at_55) rfl (by decide) (cap := 0) (by decide) (by decide) (by decide) (by decide)
    obtain ⟨b16, g16⟩ : ∃ z, z = h0.size := ⟨_, rfl⟩
    rw [← g16] at A16 st16
    have pre16 : Go p.tables e below S0 T16 (mkF m 57 #[vI p0, vI p1, vI p2, vI p3, vI (1114111 : Int32), vI v1, vI j44_l6_8, vI v12, .unset, .unset, .unset, .unset, .unset, .unset, .unset] [(.ref b16)]) := fun t k => pre15 t (st16 t k)
    have bo16 : n0 ≤ b16 := Nat.le_trans Z0 (Nat.le_of_eq g16.symm)
    have zz18 : n0 ≤ h16.size := Nat.le_trans Z0 E16.1
    have av16 : Arv Z h16 b16 k16 .int (0 : Int32) [] (.int (0 : Int32)) := Arv.new A16 (by decide)
    have pre19 : Go p.tables e below S0 T16 (mkF m 200 #[vI p0, vI p1, vI p2, vI p3, vI (1114111 : Int32), vI v1, vI j44_l6_8, vI v12, vR b16, vJ (0 : Int64), .second, vI (0 : Int32), .unset, .unset, .unset] []) := fun t k => pre16 t (by
      refine XS.astore X16.here hx rfl (hb hby at_57) rfl rfl (l' := #[vI p0, vI p1, vI p2, vI p3, vI (1114111 : Int32), vI v1, vI j44_l6_8, vI v12, vR b16, .unset, .unset, .unset, .unset, .unset, .unset]) rfl ?_
      show Steps p.tables e below (T16.setTop (mkF m 59 #[vI p0, vI p1, vI p2, vI p3, vI (1114111 : Int32), vI v1, vI j44_l6_8, vI v12, vR b16, .unset, .unset, .unset, .unset, .unset, .unset] [])) _
      refine XS.lconst X16.here hx rfl (hb hby at_59) ?_
      show Steps p.tables e below (T16.setTop (mkF m 60 #[vI p0, vI p1, vI p2, vI p3, vI (1114111 : Int32), vI v1, vI j44_l6_8, vI v12, vR b16, .unset, .unset, .unset, .unset, .unset, .unset] [(.long (0 : Int64))])) _
      refine XS.lstore X16.here hx rfl (hb hby at_60) rfl (l' := #[vI p0, vI p1, vI p2, vI p3, vI (1114111 : Int32), vI v1, vI j44_l6_8, vI v12, vR b16, vJ (0 : Int64), .second, .unset, .unset, .unset, .unset]) rfl ?_
      show Steps p.tables e below (T16.setTop (mkF m 62 #[vI p0, vI p1, vI p2, vI p3, vI (1114111 : Int32), vI v1, vI j44_l6_8, vI v12, vR b16, vJ (0 : Int64), .second, .unset, .unset, .unset, .unset] [])) _
      refine XS.goto X16.here hx rfl (pc0 := 62) (pc' := 186) rfl (hb hby at_62) (by decide) (by decide) ?_
      show Steps p.tables e below (T16.setTop (mkF m 186 #[vI p0, vI p1, vI p2, vI p3, vI (1114111 : Int32), vI v1, vI j44_l6_8, vI v12, vR b16, vJ (0 : Int64), .second, .unset, .unset, .unset, .unset] [])) _
      refine XS.lload X16.here hx rfl (hb hby at_186) rfl ?_
      show Steps p.tables e below (T16.setTop (mkF m 188 #[vI p0, vI p1, vI p2, vI p3, vI (1114111 : Int32), vI v1, vI j44_l6_8, vI v12, vR b16, vJ (0 : Int64), .second, .unset, .unset, .unset, .unset] [(.long (0 : Int64))])) _
      refine XS.lconst X16.here hx rfl (hb hby at_188) ?_
      show Steps p.tables e below (T16.setTop (mkF m 189 #[vI p0, vI p1, vI p2, vI p3, vI (1114111 : Int32), vI v1, vI j44_l6_8, vI v12, vR b16, vJ (0 : Int64), .second, .unset, .unset, .unset, .unset] [(.long (1 : Int64)), (.long (0 : Int64))])) _
      refine XS.lcmp X16.here hx rfl (hb hby at_189) rfl ?_
      show Steps p.tables e below (T16.setTop (mkF m 190 #[vI p0, vI p1, vI p2, vI p3, vI (1114111 : Int32), vI v1, vI j44_l6_8, vI v12, vR b16, vJ (0 : Int64), .second, .unset, .unset, .unset, .unset] [(.int (lcmpW (0 : Int64) (1 : Int64)))])) _
      refine XS.ifYes X16.here hx rfl (pc0 := 190) (pc' := 197) rfl (hb hby at_190) rfl ((if0 _ _).trans (feq (fun q => (by decide : ¬ ((0 : Int64) = (1 : Int64))) ((lw_eq _ _).mp q))).2) (by decide) (by decide) ?_
      show Steps p.tables e below (T16.setTop (mkF m 197 #[vI p0, vI p1, vI p2, vI p3, vI (1114111 : Int32), vI v1, vI j44_l6_8, vI v12, vR b16, vJ (0 : Int64), .second, .unset, .unset, .unset, .unset] [])) _
      refine XS.iconst X16.here hx rfl (hb hby at_197) ?_
      show Steps p.tables e below (T16.setTop (mkF m 198 #[vI p0, vI p1, vI p2, vI p3, vI (1114111 : Int32), vI v1, vI j44_l6_8, vI v12, vR b16, vJ (0 : Int64), .second, .unset, .unset, .unset, .unset] [(.int (0 : Int32))])) _
      refine XS.istore X16.here hx rfl (hb hby at_198) rfl (l' := #[vI p0, vI p1, vI p2, vI p3, vI (1114111 : Int32), vI v1, vI j44_l6_8, vI v12, vR b16, vJ (0 : Int64), .second, vI (0 : Int32), .unset, .unset, .unset]) rfl ?_
      show Steps p.tables e below (T16.setTop (mkF m 200 #[vI p0, vI p1, vI p2, vI p3, vI (1114111 : Int32), vI v1, vI j44_l6_8, vI v12, vR b16, vJ (0 : Int64), .second, vI (0 : Int32), .unset, .unset, .unset] [])) _
      exact k)
    obtain ⟨T20, h20, X20, e20, E20, A20, D20, -, st20⟩ := newO X16 hx hZ hown (hw _ (List.mem_of_getElem? (i := 4) rfl)) (hw _ (List.mem_of_getElem? (i := 5) rfl)) (hw _ (List.mem_of_getElem? (i := 6) rfl)) e16 (g := (mkF m 200 #[vI p0, vI p1, vI p2, vI p3, vI (1114111 : Int32), vI v1, vI j44_l6_8, vI v12, vR b16, vJ (0 : Int64), .second, vI (0 : Int32), .unset, .unset, .unset] [])) rfl (hb hby at_200) (by decide) (by decide)
    obtain ⟨b20, g20⟩ : ∃ z, z = h16.size := ⟨_, rfl⟩
    rw [← g20] at A20 D20 st20
    have pre20 : Go p.tables e below S0 T20 (mkF m 203 #[vI p0, vI p1, vI p2, vI p3, vI (1114111 : Int32), vI v1, vI j44_l6_8, vI v12, vR b16, vJ (0 : Int64), .second, vI (0 : Int32), .unset, .unset, .unset] [(.ref b20)]) := fun t k => pre19 t (st20 t k)
    have ne21 : b16 ≠ b20 := Nat.ne_of_lt (Nat.lt_of_lt_of_le av16.lt (Nat.le_of_eq g20.symm))
    have bo20 : n0 ≤ b20 := Nat.le_trans zz18 (Nat.le_of_eq g20.symm)
    have f22_1 := av16.ext E20
    have zz23 : n0 ≤ h20.size := Nat.le_trans zz18 E20.1
    have fn20_ranges : Fld Z h20 b20 "com/example/attest/attest/metadata/ScopeSyntax$Chars" "ranges" "[I" .null := D20 (Or.inr (hw _ (List.mem_of_getElem? (i := 19) rfl))) (ty := (.array .int)) (by decide)
    have pre24 : Go p.tables e below S0 T20 (mkF m 206 #[vI p0, vI p1, vI p2, vI p3, vI (1114111 : Int32), vI v1, vI j44_l6_8, vI v12, vR b16, vJ (0 : Int64), .second, vI (0 : Int32), .unset, .unset, .unset] [(.ref b16), (.ref b20), (.ref b20)]) := fun t k => pre20 t (by
      refine XS.dup X20.here hx rfl (hb hby at_203) rfl rfl ?_
      show Steps p.tables e below (T20.setTop (mkF m 204 #[vI p0, vI p1, vI p2, vI p3, vI (1114111 : Int32), vI v1, vI j44_l6_8, vI v12, vR b16, vJ (0 : Int64), .second, vI (0 : Int32), .unset, .unset, .unset] [(.ref b20), (.ref b20)])) _
      refine XS.aload X20.here hx rfl (hb hby at_204) rfl rfl ?_
      show Steps p.tables e below (T20.setTop (mkF m 206 #[vI p0, vI p1, vI p2, vI p3, vI (1114111 : Int32), vI v1, vI j44_l6_8, vI v12, vR b16, vJ (0 : Int64), .second, vI (0 : Int32), .unset, .unset, .unset] [(.ref b16), (.ref b20), (.ref b20)])) _
      exact k)
    obtain ⟨_, _, ⟨T25, L25, k25, n25⟩, -, X25, ⟨Lc25, hQ25, l25, y25, z25⟩, st25⟩ := X20.specialBack hx (y := (⟨"com/example/attest/attest/metadata/ScopeSyntax$Chars", "<init>", "([I)V"⟩ : MethodName)) rfl hown (mvT hZ (hw _ (List.mem_of_getElem? (i := 7) rfl))) (mvT hZ (hw _ (List.mem_of_getElem? (i := 8) rfl))) (mvT hZ (hw _ (List.mem_of_getElem? (i := 9) rfl))) (by decide) (backOf (W := 1) (rm1 l Z A0 hw [] b20 b16 h20 n0 zz23 A20 fn20_ranges bo20) hZ (hw _ (List.mem_of_getElem? (i := 9) rfl)) (hw _ (List.mem_of_getElem? (i := 6) rfl)) (by decide) (by decide)) (g := (mkF m 206 #[vI p0, vI p1, vI p2, vI p3, vI (1114111 : Int32), vI v1, vI j44_l6_8, vI v12, vR b16, vJ (0 : Int64), .second, vI (0 : Int32), .unset, .unset, .unset] [(.ref b16), (.ref b20), (.ref b20)])) rfl (by rw [hml]; rfl) (Steps.refl _) (a := b20) (argsL := [(.ref b16)]) (rest := [(.ref b20)]) (lenOf pd_1 rfl) rfl (by show 2 * 0 + _ ≤ _; exact Nat.le_of_eq rfl) (hb hby at_206) (fun _ _ => ⟨rfl, e20, (by decide : 2 + 0 ≤ _), (by decide : 1 + 0 ≤ _)⟩)
    dsimp only [Pt.U, Pt.locs, Pt.cells, Pt.slots] at X25 l25 y25 z25 st25 hQ25
    subst l25 y25 z25
    obtain ⟨rfl, Nq25, Kq25, nf25_0, nf25_1⟩ := hQ25
    have N25 := Fr.app N0 Nq25
    have pre25 : Go p.tables e below S0 T25 (mkF m 209 #[vI p0, vI p1, vI p2, vI p3, vI (1114111 : Int32), vI v1, vI j44_l6_8, vI v12, vR b16, vJ (0 : Int64), .second, vI (0 : Int32), .unset, .unset, .unset] [(.ref b20)]) := fun t k => pre24 t (st25.trans k)
    have f26_1 := f22_1.keep Kq25 (ninS ne21 nin0)
    have zz27 : n0 ≤ T25.heap.size := Nat.le_trans zz23 Kq25.1
    have pre28 : Go p.tables e below S0 T25 (mkF m 213 #[vI p0, vI p1, vI p2, vI p3, vI (1114111 : Int32), vI v1, vI j44_l6_8, vI v12, vR b16, vJ (0 : Int64), .second, vI (0 : Int32), vR b20, .unset, .unset] [(.ref b20)]) := fun t k => pre25 t (by
      refine XS.astore X25.here hx rfl (hb hby at_209) rfl rfl (l' := #[vI p0, vI p1, vI p2, vI p3, vI (1114111 : Int32), vI v1, vI j44_l6_8, vI v12, vR b16, vJ (0 : Int64), .second, vI (0 : Int32), vR b20, .unset, .unset]) rfl ?_
      show Steps p.tables e below (T25.setTop (mkF m 211 #[vI p0, vI p1, vI p2, vI p3, vI (1114111 : Int32), vI v1, vI j44_l6_8, vI v12, vR b16, vJ (0 : Int64), .second, vI (0 : Int32), vR b20, .unset, .unset] [])) _
      refine XS.aload X25.here hx rfl (hb hby at_211) rfl rfl ?_
      show Steps p.tables e below (T25.setTop (mkF m 213 #[vI p0, vI p1, vI p2, vI p3, vI (1114111 : Int32), vI v1, vI j44_l6_8, vI v12, vR b16, vJ (0 : Int64), .second, vI (0 : Int32), vR b20, .unset, .unset] [(.ref b20)])) _
      exact k)
    obtain ⟨cq29, kq29, qa29, qb29, qc29⟩ := isOf hZ rfl nf25_0
    obtain ⟨_, _, ⟨T29, L29, k29, n29⟩, -, X29, ⟨Lc29, hQ29, l29, y29, z29⟩, st29⟩ := X25.virtualBack hx (y := (⟨"com/example/attest/attest/metadata/ScopeSyntax$Chars", "single", "()Z"⟩ : MethodName)) (z := (⟨"com/example/attest/attest/metadata/ScopeSyntax$Chars", "single", "()Z"⟩ : MethodName)) hown (mvT hZ (hw _ (List.mem_of_getElem? (i := 20) rfl))) (mvT hZ (hw _ (List.mem_of_getElem? (i := 21) rfl))) (notFace_of_selects (args := #[]) (mvT hZ (hw _ (List.mem_of_getElem? (i := 23) rfl)))) (mvT hZ (hw _ (List.mem_of_getElem? (i := 23) rfl))) (mvT hZ (hw _ (List.mem_of_getElem? (i := 22) rfl))) (by decide) (backOf (W := 0) (rm4A l Z A0 hw [] b20 b16 k16 (0 : Int32) [] T25.heap n0 zz27 nf25_1 f26_1 (by decide)) hZ (hw _ (List.mem_of_getElem? (i := 24) rfl)) (hw _ (List.mem_of_getElem? (i := 6) rfl)) (by decide) (by decide)) qa29 qc29 (g := (mkF m 213 #[vI p0, vI p1, vI p2, vI p3, vI (1114111 : Int32), vI v1, vI j44_l6_8, vI v12, vR b16, vJ (0 : Int64), .second, vI (0 : Int32), vR b20, .unset, .unset] [(.ref b20)])) rfl (by rw [hml]; rfl) (Steps.refl _) (argsL := []) (rest := []) (lenOf pd_2 rfl) rfl (by show 2 * 0 + _ ≤ _; exact Nat.le_of_eq rfl) (hb hby at_213) (fun _ _ => ⟨rfl, rfl, (by decide : 2 + 0 ≤ _), (by decide : 1 + 0 ≤ _)⟩)
    dsimp only [Pt.U, Pt.locs, Pt.cells, Pt.slots] at X29 l29 y29 z29 st29 hQ29
    subst l29 y29 z29
    obtain ⟨rfl, Nq29, eq29⟩ := hQ29
    have N29 := Fr.app N25 Nq29
    have pre29 : Go p.tables e below S0 T29 (mkF m 216 #[vI p0, vI p1, vI p2, vI p3, vI (1114111 : Int32), vI v1, vI j44_l6_8, vI v12, vR b16, vJ (0 : Int64), .second, vI (0 : Int32), vR b20, .unset, .unset] [(.int (0 : Int32))]) := fun t k => pre28 t (st29.trans k)
    have pre30 : Go p.tables e below S0 T29 (mkF m 226 #[vI p0, vI p1, vI p2, vI p3, vI (1114111 : Int32), vI v1, vI j44_l6_8, vI v12, vR b16, vJ (0 : Int64), .second, vI (0 : Int32), vR b20, .unset, .unset] [(.int (1 : Int32))]) := fun t k => pre29 t (by
      refine XS.iload X29.here hx rfl (hb hby at_216) rfl ?_
      show Steps p.tables e below (T29.setTop (mkF m 218 #[vI p0, vI p1, vI p2, vI p3, vI (1114111 : Int32), vI v1, vI j44_l6_8, vI v12, vR b16, vJ (0 : Int64), .second, vI (0 : Int32), vR b20, .unset, .unset] [(.int (0 : Int32)), (.int (0 : Int32))])) _
      refine XS.icmpNo X29.here hx rfl (hb hby at_218) rfl (teq (rfl : (0 : Int32) = (0 : Int32))).2 ?_
      show Steps p.tables e below (T29.setTop (mkF m 221 #[vI p0, vI p1, vI p2, vI p3, vI (1114111 : Int32), vI v1, vI j44_l6_8, vI v12, vR b16, vJ (0 : Int64), .second, vI (0 : Int32), vR b20, .unset, .unset] [])) _
      refine XS.iconst X29.here hx rfl (hb hby at_221) ?_
      show Steps p.tables e below (T29.setTop (mkF m 222 #[vI p0, vI p1, vI p2, vI p3, vI (1114111 : Int32), vI v1, vI j44_l6_8, vI v12, vR b16, vJ (0 : Int64), .second, vI (0 : Int32), vR b20, .unset, .unset] [(.int (1 : Int32))])) _
      refine XS.goto X29.here hx rfl (pc0 := 222) (pc' := 226) rfl (hb hby at_222) (by decide) (by decide) ?_
      show Steps p.tables e below (T29.setTop (mkF m 226 #[vI p0, vI p1, vI p2, vI p3, vI (1114111 : Int32), vI v1, vI j44_l6_8, vI v12, vR b16, vJ (0 : Int64), .second, vI (0 : Int32), vR b20, .unset, .unset] [(.int (1 : Int32))])) _
      exact k)
    obtain ⟨fs, hr, hrun, hended, hW, hsame⟩ := X29.leave (v := some (.int (1 : Int32))) (fun h => by rw [Bd.returns] at h; cases h)
    exact ⟨_, _, pre30.fin hS0 (retN X29 hx (t := .boolean) Bd.returns (by simp) (hb hby at_226) hr), hrun, hended, _, _, rfl, (by
      show Q0 Z p0 p1 p2 p3 h0 n0 _ T29.heap _
      rw [eq29]
      exact ⟨rfl, N29⟩), ⟨_, rfl⟩, hW, hsame.mono (by decide) (by decide)⟩
  · skip
    have pre31 : Go p.tables e below S0 s₁ (mkF m 68 #[vI p0, vI p1, vI p2, vI p3, vI (1114111 : Int32), vI v1, vI j44_l6_8, vI v12, .unset, .unset, .unset, .unset, .unset, .unset, .unset] [(.int (2 : Int32)), (.int v12)]) := fun t k => pre13 t (by
      refine XS.ifYes X0.here hx rfl (pc0 := 51) (pc' := 65) rfl (hb hby at_51) rfl ((if0 _ _).trans (feq c51_14).2) (by decide) (by decide) ?_
      show Steps p.tables e below (s₁.setTop (mkF m 65 #[vI p0, vI p1, vI p2, vI p3, vI (1114111 : Int32), vI v1, vI j44_l6_8, vI v12, .unset, .unset, .unset, .unset, .unset, .unset, .unset] [])) _
      refine XS.iload X0.here hx rfl (hb hby at_65) rfl ?_
      show Steps p.tables e below (s₁.setTop (mkF m 67 #[vI p0, vI p1, vI p2, vI p3, vI (1114111 : Int32), vI v1, vI j44_l6_8, vI v12, .unset, .unset, .unset, .unset, .unset, .unset, .unset] [(.int v12)])) _
      refine XS.iconst X0.here hx rfl (hb hby at_67) ?_
      show Steps p.tables e below (s₁.setTop (mkF m 68 #[vI p0, vI p1, vI p2, vI p3, vI (1114111 : Int32), vI v1, vI j44_l6_8, vI v12, .unset, .unset, .unset, .unset, .unset, .unset, .unset] [(.int (2 : Int32)), (.int v12)])) _
      exact k)
    by_cases c68_32 : v12 = (2 : Int32)
    · skip
      obtain ⟨v33, hv33, pre33⟩ : ∃ z : Int64, z = (((j44_l6_8.toInt64) + (2 : Int64)) + ((((p2.toUInt32 >>> ((2 : Int32) &&& 31).toUInt32).toInt32) &&& (255 : Int32)).toInt64)) ∧ Go p.tables e below S0 s₁ (mkF m 89 #[vI p0, vI p1, vI p2, vI p3, vI (1114111 : Int32), vI v1, vI j44_l6_8, vI v12, .unset, .unset, .unset, vJ z, .second, .unset, .unset] []) := ⟨_, rfl, fun t k => pre31 t (by
        refine XS.icmpNo X0.here hx rfl (hb hby at_68) rfl (teq c68_32).2 ?_
        show Steps p.tables e below (s₁.setTop (mkF m 71 #[vI p0, vI p1, vI p2, vI p3, vI (1114111 : Int32), vI v1, vI j44_l6_8, vI v12, .unset, .unset, .unset, .unset, .unset, .unset, .unset] [])) _
        refine XS.iload X0.here hx rfl (hb hby at_71) rfl ?_
        show Steps p.tables e below (s₁.setTop (mkF m 73 #[vI p0, vI p1, vI p2, vI p3, vI (1114111 : Int32), vI v1, vI j44_l6_8, vI v12, .unset, .unset, .unset, .unset, .unset, .unset, .unset] [(.int j44_l6_8)])) _
        refine XS.i2l X0.here hx rfl (hb hby at_73) rfl ?_
        show Steps p.tables e below (s₁.setTop (mkF m 74 #[vI p0, vI p1, vI p2, vI p3, vI (1114111 : Int32), vI v1, vI j44_l6_8, vI v12, .unset, .unset, .unset, .unset, .unset, .unset, .unset] [(.long (j44_l6_8.toInt64))])) _
        refine X0.ldc2Long hx hown (mvT hZ (hw _ (List.mem_of_getElem? (i := 2) rfl))) (g := (mkF m 74 #[vI p0, vI p1, vI p2, vI p3, vI (1114111 : Int32), vI v1, vI j44_l6_8, vI v12, .unset, .unset, .unset, .unset, .unset, .unset, .unset] [(.long (j44_l6_8.toInt64))])) rfl (hb hby at_74) _ ?_
        show Steps p.tables e below (s₁.setTop (mkF m 77 #[vI p0, vI p1, vI p2, vI p3, vI (1114111 : Int32), vI v1, vI j44_l6_8, vI v12, .unset, .unset, .unset, .unset, .unset, .unset, .unset] [(.long (2 : Int64)), (.long (j44_l6_8.toInt64))])) _
        refine XS.ladd X0.here hx rfl (hb hby at_77) rfl ?_
        show Steps p.tables e below (s₁.setTop (mkF m 78 #[vI p0, vI p1, vI p2, vI p3, vI (1114111 : Int32), vI v1, vI j44_l6_8, vI v12, .unset, .unset, .unset, .unset, .unset, .unset, .unset] [(.long ((j44_l6_8.toInt64) + (2 : Int64)))])) _
        refine XS.iloadN X0.here hx rfl (hb hby at_78) rfl ?_
        show Steps p.tables e below (s₁.setTop (mkF m 79 #[vI p0, vI p1, vI p2, vI p3, vI (1114111 : Int32), vI v1, vI j44_l6_8, vI v12, .unset, .unset, .unset, .unset, .unset, .unset, .unset] [(.int p2), (.long ((j44_l6_8.toInt64) + (2 : Int64)))])) _
        refine XS.iconst X0.here hx rfl (hb hby at_79) ?_
        show Steps p.tables e below (s₁.setTop (mkF m 80 #[vI p0, vI p1, vI p2, vI p3, vI (1114111 : Int32), vI v1, vI j44_l6_8, vI v12, .unset, .unset, .unset, .unset, .unset, .unset, .unset] [(.int (2 : Int32)), (.int p2), (.long ((j44_l6_8.toInt64) + (2 : Int64)))])) _
        refine XS.iushr X0.here hx rfl (hb hby at_80) rfl ?_
        show Steps p.tables e below (s₁.setTop (mkF m 81 #[vI p0, vI p1, vI p2, vI p3, vI (1114111 : Int32), vI v1, vI j44_l6_8, vI v12, .unset, .unset, .unset, .unset, .unset, .unset, .unset] [(.int ((p2.toUInt32 >>> ((2 : Int32) &&& 31).toUInt32).toInt32)), (.long ((j44_l6_8.toInt64) + (2 : Int64)))])) _
        refine XS.sipush X0.here hx rfl (hb hby at_81) ?_
        show Steps p.tables e below (s₁.setTop (mkF m 84 #[vI p0, vI p1, vI p2, vI p3, vI (1114111 : Int32), vI v1, vI j44_l6_8, vI v12, .unset, .unset, .unset, .unset, .unset, .unset, .unset] [(.int (255 : Int32)), (.int ((p2.toUInt32 >>> ((2 : Int32) &&& 31).toUInt32).toInt32)), (.long ((j44_l6_8.toInt64) + (2 : Int64)))])) _
        refine XS.iand X0.here hx rfl (hb hby at_84) rfl ?_
        show Steps p.tables e below (s₁.setTop (mkF m 85 #[vI p0, vI p1, vI p2, vI p3, vI (1114111 : Int32), vI v1, vI j44_l6_8, vI v12, .unset, .unset, .unset, .unset, .unset, .unset, .unset] [(.int (((p2.toUInt32 >>> ((2 : Int32) &&& 31).toUInt32).toInt32) &&& (255 : Int32))), (.long ((j44_l6_8.toInt64) + (2 : Int64)))])) _
        refine XS.i2l X0.here hx rfl (hb hby at_85) rfl ?_
        show Steps p.tables e below (s₁.setTop (mkF m 86 #[vI p0, vI p1, vI p2, vI p3, vI (1114111 : Int32), vI v1, vI j44_l6_8, vI v12, .unset, .unset, .unset, .unset, .unset, .unset, .unset] [(.long ((((p2.toUInt32 >>> ((2 : Int32) &&& 31).toUInt32).toInt32) &&& (255 : Int32)).toInt64)), (.long ((j44_l6_8.toInt64) + (2 : Int64)))])) _
        refine XS.ladd X0.here hx rfl (hb hby at_86) rfl ?_
        show Steps p.tables e below (s₁.setTop (mkF m 87 #[vI p0, vI p1, vI p2, vI p3, vI (1114111 : Int32), vI v1, vI j44_l6_8, vI v12, .unset, .unset, .unset, .unset, .unset, .unset, .unset] [(.long (((j44_l6_8.toInt64) + (2 : Int64)) + ((((p2.toUInt32 >>> ((2 : Int32) &&& 31).toUInt32).toInt32) &&& (255 : Int32)).toInt64)))])) _
        refine XS.lstore X0.here hx rfl (hb hby at_87) rfl (l' := #[vI p0, vI p1, vI p2, vI p3, vI (1114111 : Int32), vI v1, vI j44_l6_8, vI v12, .unset, .unset, .unset, vJ (((j44_l6_8.toInt64) + (2 : Int64)) + ((((p2.toUInt32 >>> ((2 : Int32) &&& 31).toUInt32).toInt32) &&& (255 : Int32)).toInt64)), .second, .unset, .unset]) rfl ?_
        show Steps p.tables e below (s₁.setTop (mkF m 89 #[vI p0, vI p1, vI p2, vI p3, vI (1114111 : Int32), vI v1, vI j44_l6_8, vI v12, .unset, .unset, .unset, vJ (((j44_l6_8.toInt64) + (2 : Int64)) + ((((p2.toUInt32 >>> ((2 : Int32) &&& 31).toUInt32).toInt32) &&& (255 : Int32)).toInt64)), .second, .unset, .unset] [])) _
        exact k)⟩
      obtain ⟨v34, hv34, pre34⟩ : ∃ z : Int64, z = (v33 + ((p3 &&& (255 : Int32)).toInt64)) ∧ Go p.tables e below S0 s₁ (mkF m 100 #[vI p0, vI p1, vI p2, vI p3, vI (1114111 : Int32), vI v1, vI j44_l6_8, vI v12, .unset, .unset, .unset, vJ v33, .second, vJ z, .second] []) := ⟨_, rfl, fun t k => pre33 t (by
        refine XS.lload X0.here hx rfl (hb hby at_89) rfl ?_
        show Steps p.tables e below (s₁.setTop (mkF m 91 #[vI p0, vI p1, vI p2, vI p3, vI (1114111 : Int32), vI v1, vI j44_l6_8, vI v12, .unset, .unset, .unset, vJ v33, .second, .unset, .unset] [(.long v33)])) _
        refine XS.iloadN X0.here hx rfl (hb hby at_91) rfl ?_
        show Steps p.tables e below (s₁.setTop (mkF m 92 #[vI p0, vI p1, vI p2, vI p3, vI (1114111 : Int32), vI v1, vI j44_l6_8, vI v12, .unset, .unset, .unset, vJ v33, .second, .unset, .unset] [(.int p3), (.long v33)])) _
        refine XS.sipush X0.here hx rfl (hb hby at_92) ?_
        show Steps p.tables e below (s₁.setTop (mkF m 95 #[vI p0, vI p1, vI p2, vI p3, vI (1114111 : Int32), vI v1, vI j44_l6_8, vI v12, .unset, .unset, .unset, vJ v33, .second, .unset, .unset] [(.int (255 : Int32)), (.int p3), (.long v33)])) _
        refine XS.iand X0.here hx rfl (hb hby at_95) rfl ?_
        show Steps p.tables e below (s₁.setTop (mkF m 96 #[vI p0, vI p1, vI p2, vI p3, vI (1114111 : Int32), vI v1, vI j44_l6_8, vI v12, .unset, .unset, .unset, vJ v33, .second, .unset, .unset] [(.int (p3 &&& (255 : Int32))), (.long v33)])) _
        refine XS.i2l X0.here hx rfl (hb hby at_96) rfl ?_
        show Steps p.tables e below (s₁.setTop (mkF m 97 #[vI p0, vI p1, vI p2, vI p3, vI (1114111 : Int32), vI v1, vI j44_l6_8, vI v12, .unset, .unset, .unset, vJ v33, .second, .unset, .unset] [(.long ((p3 &&& (255 : Int32)).toInt64)), (.long v33)])) _
        refine XS.ladd X0.here hx rfl (hb hby at_97) rfl ?_
        show Steps p.tables e below (s₁.setTop (mkF m 98 #[vI p0, vI p1, vI p2, vI p3, vI (1114111 : Int32), vI v1, vI j44_l6_8, vI v12, .unset, .unset, .unset, vJ v33, .second, .unset, .unset] [(.long (v33 + ((p3 &&& (255 : Int32)).toInt64)))])) _
        refine XS.lstore X0.here hx rfl (hb hby at_98) rfl (l' := #[vI p0, vI p1, vI p2, vI p3, vI (1114111 : Int32), vI v1, vI j44_l6_8, vI v12, .unset, .unset, .unset, vJ v33, .second, vJ (v33 + ((p3 &&& (255 : Int32)).toInt64)), .second]) rfl ?_
        show Steps p.tables e below (s₁.setTop (mkF m 100 #[vI p0, vI p1, vI p2, vI p3, vI (1114111 : Int32), vI v1, vI j44_l6_8, vI v12, .unset, .unset, .unset, vJ v33, .second, vJ (v33 + ((p3 &&& (255 : Int32)).toInt64)), .second] [])) _
        exact k)⟩
      have pre35 : Go p.tables e below S0 s₁ (mkF m 106 #[vI p0, vI p1, vI p2, vI p3, vI (1114111 : Int32), vI v1, vI j44_l6_8, vI v12, .unset, .unset, .unset, vJ v33, .second, vJ v34, .second] [(.int (lcmpW v34 ((1114111 : Int32).toInt64)))]) := fun t k => pre34 t (by
        refine XS.lload X0.here hx rfl (hb hby at_100) rfl ?_
        show Steps p.tables e below (s₁.setTop (mkF m 102 #[vI p0, vI p1, vI p2, vI p3, vI (1114111 : Int32), vI v1, vI j44_l6_8, vI v12, .unset, .unset, .unset, vJ v33, .second, vJ v34, .second] [(.long v34)])) _
        refine XS.iload X0.here hx rfl (hb hby at_102) rfl ?_
        show Steps p.tables e below (s₁.setTop (mkF m 104 #[vI p0, vI p1, vI p2, vI p3, vI (1114111 : Int32), vI v1, vI j44_l6_8, vI v12, .unset, .unset, .unset, vJ v33, .second, vJ v34, .second] [(.int (1114111 : Int32)), (.long v34)])) _
        refine XS.i2l X0.here hx rfl (hb hby at_104) rfl ?_
        show Steps p.tables e below (s₁.setTop (mkF m 105 #[vI p0, vI p1, vI p2, vI p3, vI (1114111 : Int32), vI v1, vI j44_l6_8, vI v12, .unset, .unset, .unset, vJ v33, .second, vJ v34, .second] [(.long ((1114111 : Int32).toInt64)), (.long v34)])) _
        refine XS.lcmp X0.here hx rfl (hb hby at_105) rfl ?_
        show Steps p.tables e below (s₁.setTop (mkF m 106 #[vI p0, vI p1, vI p2, vI p3, vI (1114111 : Int32), vI v1, vI j44_l6_8, vI v12, .unset, .unset, .unset, vJ v33, .second, vJ v34, .second] [(.int (lcmpW v34 ((1114111 : Int32).toInt64)))])) _
        exact k)
      by_cases c106_36 : ((1114111 : Int32).toInt64) < v34
      · skip
        have pre37 : Go p.tables e below S0 s₁ (mkF m 110 #[vI p0, vI p1, vI p2, vI p3, vI (1114111 : Int32), vI v1, vI j44_l6_8, vI v12, .unset, .unset, .unset, vJ v33, .second, vJ v34, .second] [(.int (1 : Int32))]) := fun t k => pre35 t (by
          refine XS.ifNo X0.here hx rfl (hb hby at_106) rfl ((if0 _ _).trans (tlt ((lw_gt _ _).mpr c106_36)).2.2.2) ?_
          show Steps p.tables e below (s₁.setTop (mkF m 109 #[vI p0, vI p1, vI p2, vI p3, vI (1114111 : Int32), vI v1, vI j44_l6_8, vI v12, .unset, .unset, .unset, vJ v33, .second, vJ v34, .second] [])) _
          refine XS.iconst X0.here hx rfl (hb hby at_109) ?_
          show Steps p.tables e below (s₁.setTop (mkF m 110 #[vI p0, vI p1, vI p2, vI p3, vI (1114111 : Int32), vI v1, vI j44_l6_8, vI v12, .unset, .unset, .unset, vJ v33, .second, vJ v34, .second] [(.int (1 : Int32))])) _
          exact k)
        obtain ⟨fs, hr, hrun, hended, hW, hsame⟩ := X0.leave (v := some (.int (1 : Int32))) (fun h => by rw [Bd.returns] at h; cases h)
        exact ⟨_, _, pre37.fin hS0 (retN X0 hx (t := .boolean) Bd.returns (by simp) (hb hby at_110) hr), hrun, hended, _, _, rfl, (by
          show Q0 Z p0 p1 p2 p3 h0 n0 _ s₁.heap _
          rw [e0]
          exact ⟨rfl, N0⟩), ⟨_, rfl⟩, hW, hsame.mono (by decide) (by decide)⟩
      · skip
        have pre38 : Go p.tables e below S0 s₁ (mkF m 112 #[vI p0, vI p1, vI p2, vI p3, vI (1114111 : Int32), vI v1, vI j44_l6_8, vI v12, .unset, .unset, .unset, vJ v33, .second, vJ v34, .second] [(.int (4 : Int32))]) := fun t k => pre35 t (by
          refine XS.ifYes X0.here hx rfl (pc0 := 106) (pc' := 111) rfl (hb hby at_106) rfl ((if0 _ _).trans (flt (fun q => c106_36 ((lw_gt _ _).mp q))).2.2.2) (by decide) (by decide) ?_
          show Steps p.tables e below (s₁.setTop (mkF m 111 #[vI p0, vI p1, vI p2, vI p3, vI (1114111 : Int32), vI v1, vI j44_l6_8, vI v12, .unset, .unset, .unset, vJ v33, .second, vJ v34, .second] [])) _
          refine XS.iconst X0.here hx rfl (hb hby at_111) ?_
          show Steps p.tables e below (s₁.setTop (mkF m 112 #[vI p0, vI p1, vI p2, vI p3, vI (1114111 : Int32), vI v1, vI j44_l6_8, vI v12, .unset, .unset, .unset, vJ v33, .second, vJ v34, .second] [(.int (4 : Int32))])) _
          exact k)
        obtain ⟨T39, h39, k39, X39, e39, E39, A39, st39⟩ := newP X0 hx hZ (hw _ (List.mem_of_getElem? (i := 3) rfl)) e0 (g := (mkF m 112 #[vI p0, vI p1, vI p2, vI p3, vI (1114111 : Int32), vI v1, vI j44_l6_8, vI v12, .unset, .unset, .unset, vJ v33, .second, vJ v34, .second] [(.int (4 : Int32))])) rfl (hb hby at_112) rfl (by decide) (cap := 4) (by decide) (by decide) (by decide) (by decide)
        obtain ⟨b39, g39⟩ : ∃ z, z = h0.size := ⟨_, rfl⟩
        rw [← g39] at A39 st39
        have pre39 : Go p.tables e below S0 T39 (mkF m 114 #[vI p0, vI p1, vI p2, vI p3, vI (1114111 : Int32), vI v1, vI j44_l6_8, vI v12, .unset, .unset, .unset, vJ v33, .second, vJ v34, .second] [(.ref b39)]) := fun t k => pre38 t (st39 t k)
        have bo39 : n0 ≤ b39 := Nat.le_trans Z0 (Nat.le_of_eq g39.symm)
        have zz41 : n0 ≤ h39.size := Nat.le_trans Z0 E39.1
        have av39 : Arv Z h39 b39 k39 .int (4 : Int32) [(.int (0 : Int32)), (.int (0 : Int32)), (.int (0 : Int32)), (.int (0 : Int32))] (.int (0 : Int32)) := (Arv.new A39 (by decide)).pad (pad_rep [] (.int (0 : Int32)) 4)
        have pre42 : Go p.tables e below S0 T39 (mkF m 118 #[vI p0, vI p1, vI p2, vI p3, vI (1114111 : Int32), vI v1, vI j44_l6_8, vI v12, .unset, .unset, .unset, vJ v33, .second, vJ v34, .second] [(.int v1), (.int (0 : Int32)), (.ref b39), (.ref b39)]) := fun t k => pre39 t (by
          refine XS.dup X39.here hx rfl (hb hby at_114) rfl rfl ?_
          show Steps p.tables e below (T39.setTop (mkF m 115 #[vI p0, vI p1, vI p2, vI p3, vI (1114111 : Int32), vI v1, vI j44_l6_8, vI v12, .unset, .unset, .unset, vJ v33, .second, vJ v34, .second] [(.ref b39), (.ref b39)])) _
          refine XS.iconst X39.here hx rfl (hb hby at_115) ?_
          show Steps p.tables e below (T39.setTop (mkF m 116 #[vI p0, vI p1, vI p2, vI p3, vI (1114111 : Int32), vI v1, vI j44_l6_8, vI v12, .unset, .unset, .unset, vJ v33, .second, vJ v34, .second] [(.int (0 : Int32)), (.ref b39), (.ref b39)])) _
          refine XS.iload X39.here hx rfl (hb hby at_116) rfl ?_
          show Steps p.tables e below (T39.setTop (mkF m 118 #[vI p0, vI p1, vI p2, vI p3, vI (1114111 : Int32), vI v1, vI j44_l6_8, vI v12, .unset, .unset, .unset, vJ v33, .second, vJ v34, .second] [(.int v1), (.int (0 : Int32)), (.ref b39), (.ref b39)])) _
          exact k)
        obtain ⟨cl43, Ar43, q43, S43, M43, H43, G43⟩ := id av39
        have in43 : ¬ ((0 : Int32) < 0 ∨ cl43.slots.size ≤ ((0 : Int32)).toNatClampNeg) := inb_of S43 ⟨by decide, by decide⟩
        obtain ⟨T43, h43, X43, e43, W43, st43⟩ := stI X39 hx hZ e39 Ar43 (j := (0 : Int32)) in43 (g := (mkF m 118 #[vI p0, vI p1, vI p2, vI p3, vI (1114111 : Int32), vI v1, vI j44_l6_8, vI v12, .unset, .unset, .unset, vJ v33, .second, vJ v34, .second] [(.int v1), (.int (0 : Int32)), (.ref b39), (.ref b39)])) rfl rfl (hb hby at_118)
        have pre43 : Go p.tables e below S0 T43 (mkF m 119 #[vI p0, vI p1, vI p2, vI p3, vI (1114111 : Int32), vI v1, vI j44_l6_8, vI v12, .unset, .unset, .unset, vJ v33, .second, vJ v34, .second] [(.ref b39)]) := fun t k => pre42 t (st43 t k)
        have N43 := Fr.snoc X43 N0 bo39
        have av43 : Arv Z h43 b39 k39 .int (4 : Int32) [(.int v1), (.int (0 : Int32)), (.int (0 : Int32)), (.int (0 : Int32))] (.int (0 : Int32)) := Arv.set Ar43 q43 S43 M43 H43 G43 rfl W43 0 rfl (Nat.le_of_ble_eq_true rfl)
        have zz45 : n0 ≤ h43.size := Nat.le_trans zz41 (Keep.of_wr W43).1
        have pre46 : Go p.tables e below S0 T43 (mkF m 123 #[vI p0, vI p1, vI p2, vI p3, vI (1114111 : Int32), vI v1, vI j44_l6_8, vI v12, .unset, .unset, .unset, vJ v33, .second, vJ v34, .second] [(.int j44_l6_8), (.int (1 : Int32)), (.ref b39), (.ref b39)]) := fun t k => pre43 t (by
          refine XS.dup X43.here hx rfl (hb hby at_119) rfl rfl ?_
          show Steps p.tables e below (T43.setTop (mkF m 120 #[vI p0, vI p1, vI p2, vI p3, vI (1114111 : Int32), vI v1, vI j44_l6_8, vI v12, .unset, .unset, .unset, vJ v33, .second, vJ v34, .second] [(.ref b39), (.ref b39)])) _
          refine XS.iconst X43.here hx rfl (hb hby at_120) ?_
          show Steps p.tables e below (T43.setTop (mkF m 121 #[vI p0, vI p1, vI p2, vI p3, vI (1114111 : Int32), vI v1, vI j44_l6_8, vI v12, .unset, .unset, .unset, vJ v33, .second, vJ v34, .second] [(.int (1 : Int32)), (.ref b39), (.ref b39)])) _
          refine XS.iload X43.here hx rfl (hb hby at_121) rfl ?_
          show Steps p.tables e below (T43.setTop (mkF m 123 #[vI p0, vI p1, vI p2, vI p3, vI (1114111 : Int32), vI v1, vI j44_l6_8, vI v12, .unset, .unset, .unset, vJ v33, .second, vJ v34, .second] [(.int j44_l6_8), (.int (1 : Int32)), (.ref b39), (.ref b39)])) _
          exact k)
        obtain ⟨cl47, Ar47, q47, S47, M47, H47, G47⟩ := id av43
        have in47 : ¬ ((1 : Int32) < 0 ∨ cl47.slots.size ≤ ((1 : Int32)).toNatClampNeg) := inb_of S47 ⟨by decide, by decide⟩
        obtain ⟨T47, h47, X47, e47, W47, st47⟩ := stI X43 hx hZ e43 Ar47 (j := (1 : Int32)) in47 (g := (mkF m 123 #[vI p0, vI p1, vI p2, vI p3, vI (1114111 : Int32), vI v1, vI j44_l6_8, vI v12, .unset, .unset, .unset, vJ v33, .second, vJ v34, .second] [(.int j44_l6_8), (.int (1 : Int32)), (.ref b39), (.ref b39)])) rfl rfl (hb hby at_123)
        have pre47 : Go p.tables e below S0 T47 (mkF m 124 #[vI p0, vI p1, vI p2, vI p3, vI (1114111 : Int32), vI v1, vI j44_l6_8, vI v12, .unset, .unset, .unset, vJ v33, .second, vJ v34, .second] [(.ref b39)]) := fun t k => pre46 t (st47 t k)
        have N47 := Fr.snoc X47 N43 bo39
        have av47 : Arv Z h47 b39 k39 .int (4 : Int32) [(.int v1), (.int j44_l6_8), (.int (0 : Int32)), (.int (0 : Int32))] (.int (0 : Int32)) := Arv.set Ar47 q47 S47 M47 H47 G47 rfl W47 1 rfl (Nat.le_of_ble_eq_true rfl)
        have zz49 : n0 ≤ h47.size := Nat.le_trans zz45 (Keep.of_wr W47).1
        have pre50 : Go p.tables e below S0 T47 (mkF m 129 #[vI p0, vI p1, vI p2, vI p3, vI (1114111 : Int32), vI v1, vI j44_l6_8, vI v12, .unset, .unset, .unset, vJ v33, .second, vJ v34, .second] [(.int (v33.toInt32)), (.int (2 : Int32)), (.ref b39), (.ref b39)]) := fun t k => pre47 t (by
          refine XS.dup X47.here hx rfl (hb hby at_124) rfl rfl ?_
          show Steps p.tables e below (T47.setTop (mkF m 125 #[vI p0, vI p1, vI p2, vI p3, vI (1114111 : Int32), vI v1, vI j44_l6_8, vI v12, .unset, .unset, .unset, vJ v33, .second, vJ v34, .second] [(.ref b39), (.ref b39)])) _
          refine XS.iconst X47.here hx rfl (hb hby at_125) ?_
          show Steps p.tables e below (T47.setTop (mkF m 126 #[vI p0, vI p1, vI p2, vI p3, vI (1114111 : Int32), vI v1, vI j44_l6_8, vI v12, .unset, .unset, .unset, vJ v33, .second, vJ v34, .second] [(.int (2 : Int32)), (.ref b39), (.ref b39)])) _
          refine XS.lload X47.here hx rfl (hb hby at_126) rfl ?_
          show Steps p.tables e below (T47.setTop (mkF m 128 #[vI p0, vI p1, vI p2, vI p3, vI (1114111 : Int32), vI v1, vI j44_l6_8, vI v12, .unset, .unset, .unset, vJ v33, .second, vJ v34, .second] [(.long v33), (.int (2 : Int32)), (.ref b39), (.ref b39)])) _
          refine XS.l2i X47.here hx rfl (hb hby at_128) rfl ?_
          show Steps p.tables e below (T47.setTop (mkF m 129 #[vI p0, vI p1, vI p2, vI p3, vI (1114111 : Int32), vI v1, vI j44_l6_8, vI v12, .unset, .unset, .unset, vJ v33, .second, vJ v34, .second] [(.int (v33.toInt32)), (.int (2 : Int32)), (.ref b39), (.ref b39)])) _
          exact k)
        obtain ⟨cl51, Ar51, q51, S51, M51, H51, G51⟩ := id av47
        have in51 : ¬ ((2 : Int32) < 0 ∨ cl51.slots.size ≤ ((2 : Int32)).toNatClampNeg) := inb_of S51 ⟨by decide, by decide⟩
        obtain ⟨T51, h51, X51, e51, W51, st51⟩ := stI X47 hx hZ e47 Ar51 (j := (2 : Int32)) in51 (g := (mkF m 129 #[vI p0, vI p1, vI p2, vI p3, vI (1114111 : Int32), vI v1, vI j44_l6_8, vI v12, .unset, .unset, .unset, vJ v33, .second, vJ v34, .second] [(.int (v33.toInt32)), (.int (2 : Int32)), (.ref b39), (.ref b39)])) rfl rfl (hb hby at_129)
        have pre51 : Go p.tables e below S0 T51 (mkF m 130 #[vI p0, vI p1, vI p2, vI p3, vI (1114111 : Int32), vI v1, vI j44_l6_8, vI v12, .unset, .unset, .unset, vJ v33, .second, vJ v34, .second] [(.ref b39)]) := fun t k => pre50 t (st51 t k)
        have N51 := Fr.snoc X51 N47 bo39
        have av51 : Arv Z h51 b39 k39 .int (4 : Int32) [(.int v1), (.int j44_l6_8), (.int (v33.toInt32)), (.int (0 : Int32))] (.int (0 : Int32)) := Arv.set Ar51 q51 S51 M51 H51 G51 rfl W51 2 rfl (Nat.le_of_ble_eq_true rfl)
        have zz53 : n0 ≤ h51.size := Nat.le_trans zz49 (Keep.of_wr W51).1
        have pre54 : Go p.tables e below S0 T51 (mkF m 135 #[vI p0, vI p1, vI p2, vI p3, vI (1114111 : Int32), vI v1, vI j44_l6_8, vI v12, .unset, .unset, .unset, vJ v33, .second, vJ v34, .second] [(.int (v34.toInt32)), (.int (3 : Int32)), (.ref b39), (.ref b39)]) := fun t k => pre51 t (by
          refine XS.dup X51.here hx rfl (hb hby at_130) rfl rfl ?_
          show Steps p.tables e below (T51.setTop (mkF m 131 #[vI p0, vI p1, vI p2, vI p3, vI (1114111 : Int32), vI v1, vI j44_l6_8, vI v12, .unset, .unset, .unset, vJ v33, .second, vJ v34, .second] [(.ref b39), (.ref b39)])) _
          refine XS.iconst X51.here hx rfl (hb hby at_131) ?_
          show Steps p.tables e below (T51.setTop (mkF m 132 #[vI p0, vI p1, vI p2, vI p3, vI (1114111 : Int32), vI v1, vI j44_l6_8, vI v12, .unset, .unset, .unset, vJ v33, .second, vJ v34, .second] [(.int (3 : Int32)), (.ref b39), (.ref b39)])) _
          refine XS.lload X51.here hx rfl (hb hby at_132) rfl ?_
          show Steps p.tables e below (T51.setTop (mkF m 134 #[vI p0, vI p1, vI p2, vI p3, vI (1114111 : Int32), vI v1, vI j44_l6_8, vI v12, .unset, .unset, .unset, vJ v33, .second, vJ v34, .second] [(.long v34), (.int (3 : Int32)), (.ref b39), (.ref b39)])) _
          refine XS.l2i X51.here hx rfl (hb hby at_134) rfl ?_
          show Steps p.tables e below (T51.setTop (mkF m 135 #[vI p0, vI p1, vI p2, vI p3, vI (1114111 : Int32), vI v1, vI j44_l6_8, vI v12, .unset, .unset, .unset, vJ v33, .second, vJ v34, .second] [(.int (v34.toInt32)), (.int (3 : Int32)), (.ref b39), (.ref b39)])) _
          exact k)
        obtain ⟨cl55, Ar55, q55, S55, M55, H55, G55⟩ := id av51
        have in55 : ¬ ((3 : Int32) < 0 ∨ cl55.slots.size ≤ ((3 : Int32)).toNatClampNeg) := inb_of S55 ⟨by decide, by decide⟩
        obtain ⟨T55, h55, X55, e55, W55, st55⟩ := stI X51 hx hZ e51 Ar55 (j := (3 : Int32)) in55 (g := (mkF m 135 #[vI p0, vI p1, vI p2, vI p3, vI (1114111 : Int32), vI v1, vI j44_l6_8, vI v12, .unset, .unset, .unset, vJ v33, .second, vJ v34, .second] [(.int (v34.toInt32)), (.int (3 : Int32)), (.ref b39), (.ref b39)])) rfl rfl (hb hby at_135)
        have pre55 : Go p.tables e below S0 T55 (mkF m 136 #[vI p0, vI p1, vI p2, vI p3, vI (1114111 : Int32), vI v1, vI j44_l6_8, vI v12, .unset, .unset, .unset, vJ v33, .second, vJ v34, .second] [(.ref b39)]) := fun t k => pre54 t (st55 t k)
        have N55 := Fr.snoc X55 N51 bo39
        have av55 : Arv Z h55 b39 k39 .int (4 : Int32) [(.int v1), (.int j44_l6_8), (.int (v33.toInt32)), (.int (v34.toInt32))] (.int (0 : Int32)) := Arv.set Ar55 q55 S55 M55 H55 G55 rfl W55 3 rfl (Nat.le_of_ble_eq_true rfl)
        have zz57 : n0 ≤ h55.size := Nat.le_trans zz53 (Keep.of_wr W55).1
        obtain ⟨v58, hv58, pre58⟩ : ∃ z : Int64, z = ((((j44_l6_8.toInt64) - (v1.toInt64)) + (1 : Int64)) + ((v34 - v33) + (1 : Int64))) ∧ Go p.tables e below S0 T55 (mkF m 157 #[vI p0, vI p1, vI p2, vI p3, vI (1114111 : Int32), vI v1, vI j44_l6_8, vI v12, vR b39, vJ z, .second, vJ v33, .second, vJ v34, .second] []) := ⟨_, rfl, fun t k => pre55 t (by
          refine XS.astore X55.here hx rfl (hb hby at_136) rfl rfl (l' := #[vI p0, vI p1, vI p2, vI p3, vI (1114111 : Int32), vI v1, vI j44_l6_8, vI v12, vR b39, .unset, .unset, vJ v33, .second, vJ v34, .second]) rfl ?_
          show Steps p.tables e below (T55.setTop (mkF m 138 #[vI p0, vI p1, vI p2, vI p3, vI (1114111 : Int32), vI v1, vI j44_l6_8, vI v12, vR b39, .unset, .unset, vJ v33, .second, vJ v34, .second] [])) _
          refine XS.iload X55.here hx rfl (hb hby at_138) rfl ?_
          show Steps p.tables e below (T55.setTop (mkF m 140 #[vI p0, vI p1, vI p2, vI p3, vI (1114111 : Int32), vI v1, vI j44_l6_8, vI v12, vR b39, .unset, .unset, vJ v33, .second, vJ v34, .second] [(.int j44_l6_8)])) _
          refine XS.i2l X55.here hx rfl (hb hby at_140) rfl ?_
          show Steps p.tables e below (T55.setTop (mkF m 141 #[vI p0, vI p1, vI p2, vI p3, vI (1114111 : Int32), vI v1, vI j44_l6_8, vI v12, vR b39, .unset, .unset, vJ v33, .second, vJ v34, .second] [(.long (j44_l6_8.toInt64))])) _
          refine XS.iload X55.here hx rfl (hb hby at_141) rfl ?_
          show Steps p.tables e below (T55.setTop (mkF m 143 #[vI p0, vI p1, vI p2, vI p3, vI (1114111 : Int32), vI v1, vI j44_l6_8, vI v12, vR b39, .unset, .unset, vJ v33, .second, vJ v34, .second] [(.int v1), (.long (j44_l6_8.toInt64))])) _
          refine XS.i2l X55.here hx rfl (hb hby at_143) rfl ?_
          show Steps p.tables e below (T55.setTop (mkF m 144 #[vI p0, vI p1, vI p2, vI p3, vI (1114111 : Int32), vI v1, vI j44_l6_8, vI v12, vR b39, .unset, .unset, vJ v33, .second, vJ v34, .second] [(.long (v1.toInt64)), (.long (j44_l6_8.toInt64))])) _
          refine XS.lsub X55.here hx rfl (hb hby at_144) rfl ?_
          show Steps p.tables e below (T55.setTop (mkF m 145 #[vI p0, vI p1, vI p2, vI p3, vI (1114111 : Int32), vI v1, vI j44_l6_8, vI v12, vR b39, .unset, .unset, vJ v33, .second, vJ v34, .second] [(.long ((j44_l6_8.toInt64) - (v1.toInt64)))])) _
          refine XS.lconst X55.here hx rfl (hb hby at_145) ?_
          show Steps p.tables e below (T55.setTop (mkF m 146 #[vI p0, vI p1, vI p2, vI p3, vI (1114111 : Int32), vI v1, vI j44_l6_8, vI v12, vR b39, .unset, .unset, vJ v33, .second, vJ v34, .second] [(.long (1 : Int64)), (.long ((j44_l6_8.toInt64) - (v1.toInt64)))])) _
          refine XS.ladd X55.here hx rfl (hb hby at_146) rfl ?_
          show Steps p.tables e below (T55.setTop (mkF m 147 #[vI p0, vI p1, vI p2, vI p3, vI (1114111 : Int32), vI v1, vI j44_l6_8, vI v12, vR b39, .unset, .unset, vJ v33, .second, vJ v34, .second] [(.long (((j44_l6_8.toInt64) - (v1.toInt64)) + (1 : Int64)))])) _
          refine XS.lload X55.here hx rfl (hb hby at_147) rfl ?_
          show Steps p.tables e below (T55.setTop (mkF m 149 #[vI p0, vI p1, vI p2, vI p3, vI (1114111 : Int32), vI v1, vI j44_l6_8, vI v12, vR b39, .unset, .unset, vJ v33, .second, vJ v34, .second] [(.long v34), (.long (((j44_l6_8.toInt64) - (v1.toInt64)) + (1 : Int64)))])) _
          refine XS.lload X55.here hx rfl (hb hby at_149) rfl ?_
          show Steps p.tables e below (T55.setTop (mkF m 151 #[vI p0, vI p1, vI p2, vI p3, vI (1114111 : Int32), vI v1, vI j44_l6_8, vI v12, vR b39, .unset, .unset, vJ v33, .second, vJ v34, .second] [(.long v33), (.long v34), (.long (((j44_l6_8.toInt64) - (v1.toInt64)) + (1 : Int64)))])) _
          refine XS.lsub X55.here hx rfl (hb hby at_151) rfl ?_
          show Steps p.tables e below (T55.setTop (mkF m 152 #[vI p0, vI p1, vI p2, vI p3, vI (1114111 : Int32), vI v1, vI j44_l6_8, vI v12, vR b39, .unset, .unset, vJ v33, .second, vJ v34, .second] [(.long (v34 - v33)), (.long (((j44_l6_8.toInt64) - (v1.toInt64)) + (1 : Int64)))])) _
          refine XS.lconst X55.here hx rfl (hb hby at_152) ?_
          show Steps p.tables e below (T55.setTop (mkF m 153 #[vI p0, vI p1, vI p2, vI p3, vI (1114111 : Int32), vI v1, vI j44_l6_8, vI v12, vR b39, .unset, .unset, vJ v33, .second, vJ v34, .second] [(.long (1 : Int64)), (.long (v34 - v33)), (.long (((j44_l6_8.toInt64) - (v1.toInt64)) + (1 : Int64)))])) _
          refine XS.ladd X55.here hx rfl (hb hby at_153) rfl ?_
          show Steps p.tables e below (T55.setTop (mkF m 154 #[vI p0, vI p1, vI p2, vI p3, vI (1114111 : Int32), vI v1, vI j44_l6_8, vI v12, vR b39, .unset, .unset, vJ v33, .second, vJ v34, .second] [(.long ((v34 - v33) + (1 : Int64))), (.long (((j44_l6_8.toInt64) - (v1.toInt64)) + (1 : Int64)))])) _
          refine XS.ladd X55.here hx rfl (hb hby at_154) rfl ?_
          show Steps p.tables e below (T55.setTop (mkF m 155 #[vI p0, vI p1, vI p2, vI p3, vI (1114111 : Int32), vI v1, vI j44_l6_8, vI v12, vR b39, .unset, .unset, vJ v33, .second, vJ v34, .second] [(.long ((((j44_l6_8.toInt64) - (v1.toInt64)) + (1 : Int64)) + ((v34 - v33) + (1 : Int64))))])) _
          refine XS.lstore X55.here hx rfl (hb hby at_155) rfl (l' := #[vI p0, vI p1, vI p2, vI p3, vI (1114111 : Int32), vI v1, vI j44_l6_8, vI v12, vR b39, vJ ((((j44_l6_8.toInt64) - (v1.toInt64)) + (1 : Int64)) + ((v34 - v33) + (1 : Int64))), .second, vJ v33, .second, vJ v34, .second]) rfl ?_
          show Steps p.tables e below (T55.setTop (mkF m 157 #[vI p0, vI p1, vI p2, vI p3, vI (1114111 : Int32), vI v1, vI j44_l6_8, vI v12, vR b39, vJ ((((j44_l6_8.toInt64) - (v1.toInt64)) + (1 : Int64)) + ((v34 - v33) + (1 : Int64))), .second, vJ v33, .second, vJ v34, .second] [])) _
          exact k)⟩
        have pre59 : Go p.tables e below S0 T55 (mkF m 190 #[vI p0, vI p1, vI p2, vI p3, vI (1114111 : Int32), vI v1, vI j44_l6_8, vI v12, vR b39, vJ v58, .second, vJ v33, .second, vJ v34, .second] [(.int (lcmpW v58 (1 : Int64)))]) := fun t k => pre58 t (by
          refine XS.goto X55.here hx rfl (pc0 := 157) (pc' := 186) rfl (hb hby at_157) (by decide) (by decide) ?_
          show Steps p.tables e below (T55.setTop (mkF m 186 #[vI p0, vI p1, vI p2, vI p3, vI (1114111 : Int32), vI v1, vI j44_l6_8, vI v12, vR b39, vJ v58, .second, vJ v33, .second, vJ v34, .second] [])) _
          refine XS.lload X55.here hx rfl (hb hby at_186) rfl ?_
          show Steps p.tables e below (T55.setTop (mkF m 188 #[vI p0, vI p1, vI p2, vI p3, vI (1114111 : Int32), vI v1, vI j44_l6_8, vI v12, vR b39, vJ v58, .second, vJ v33, .second, vJ v34, .second] [(.long v58)])) _
          refine XS.lconst X55.here hx rfl (hb hby at_188) ?_
          show Steps p.tables e below (T55.setTop (mkF m 189 #[vI p0, vI p1, vI p2, vI p3, vI (1114111 : Int32), vI v1, vI j44_l6_8, vI v12, vR b39, vJ v58, .second, vJ v33, .second, vJ v34, .second] [(.long (1 : Int64)), (.long v58)])) _
          refine XS.lcmp X55.here hx rfl (hb hby at_189) rfl ?_
          show Steps p.tables e below (T55.setTop (mkF m 190 #[vI p0, vI p1, vI p2, vI p3, vI (1114111 : Int32), vI v1, vI j44_l6_8, vI v12, vR b39, vJ v58, .second, vJ v33, .second, vJ v34, .second] [(.int (lcmpW v58 (1 : Int64)))])) _
          exact k)
        refine cps (A := ∃ (j198_s0_63 : Int32), (((j198_s0_63 = (1 : Int32)) ∧ (v58 = (1 : Int64))) ∨ ((j198_s0_63 = (0 : Int32)) ∧ (¬ (v58 = (1 : Int64))))) ∧ (Go p.tables e below S0 T55 (mkF m 198 #[vI p0, vI p1, vI p2, vI p3, vI (1114111 : Int32), vI v1, vI j44_l6_8, vI v12, vR b39, vJ v58, .second, vJ v33, .second, vJ v34, .second] [(.int j198_s0_63)]))) (fun tail66 => ?_) ?_
        · skip
          by_cases c190_60 : v58 = (1 : Int64)
          · skip
            have pre61 : Go p.tables e below S0 T55 (mkF m 198 #[vI p0, vI p1, vI p2, vI p3, vI (1114111 : Int32), vI v1, vI j44_l6_8, vI v12, vR b39, vJ v58, .second, vJ v33, .second, vJ v34, .second] [(.int (1 : Int32))]) := fun t k => pre59 t (by
              refine XS.ifNo X55.here hx rfl (hb hby at_190) rfl ((if0 _ _).trans (teq ((lw_eq _ _).mpr c190_60)).2) ?_
              show Steps p.tables e below (T55.setTop (mkF m 193 #[vI p0, vI p1, vI p2, vI p3, vI (1114111 : Int32), vI v1, vI j44_l6_8, vI v12, vR b39, vJ v58, .second, vJ v33, .second, vJ v34, .second] [])) _
              refine XS.iconst X55.here hx rfl (hb hby at_193) ?_
              show Steps p.tables e below (T55.setTop (mkF m 194 #[vI p0, vI p1, vI p2, vI p3, vI (1114111 : Int32), vI v1, vI j44_l6_8, vI v12, vR b39, vJ v58, .second, vJ v33, .second, vJ v34, .second] [(.int (1 : Int32))])) _
              refine XS.goto X55.here hx rfl (pc0 := 194) (pc' := 198) rfl (hb hby at_194) (by decide) (by decide) ?_
              show Steps p.tables e below (T55.setTop (mkF m 198 #[vI p0, vI p1, vI p2, vI p3, vI (1114111 : Int32), vI v1, vI j44_l6_8, vI v12, vR b39, vJ v58, .second, vJ v33, .second, vJ v34, .second] [(.int (1 : Int32))])) _
              exact k)
            exact tail66 ⟨(1 : Int32), (Or.inl ⟨rfl, c190_60⟩), pre61⟩
          · skip
            have pre62 : Go p.tables e below S0 T55 (mkF m 198 #[vI p0, vI p1, vI p2, vI p3, vI (1114111 : Int32), vI v1, vI j44_l6_8, vI v12, vR b39, vJ v58, .second, vJ v33, .second, vJ v34, .second] [(.int (0 : Int32))]) := fun t k => pre59 t (by
              refine XS.ifYes X55.here hx rfl (pc0 := 190) (pc' := 197) rfl (hb hby at_190) rfl ((if0 _ _).trans (feq (fun q => c190_60 ((lw_eq _ _).mp q))).2) (by decide) (by decide) ?_
              show Steps p.tables e below (T55.setTop (mkF m 197 #[vI p0, vI p1, vI p2, vI p3, vI (1114111 : Int32), vI v1, vI j44_l6_8, vI v12, vR b39, vJ v58, .second, vJ v33, .second, vJ v34, .second] [])) _
              refine XS.iconst X55.here hx rfl (hb hby at_197) ?_
              show Steps p.tables e below (T55.setTop (mkF m 198 #[vI p0, vI p1, vI p2, vI p3, vI (1114111 : Int32), vI v1, vI j44_l6_8, vI v12, vR b39, vJ v58, .second, vJ v33, .second, vJ v34, .second] [(.int (0 : Int32))])) _
              exact k)
            exact tail66 ⟨(0 : Int32), (Or.inr ⟨rfl, c190_60⟩), pre62⟩
        rintro ⟨j198_s0_63, hj198_64, pre65⟩
        have key := own_n4 ⟨l1.1, hi1⟩ hv33 hv34 hv58 hj198_64
        have pre67 : Go p.tables e below S0 T55 (mkF m 200 #[vI p0, vI p1, vI p2, vI p3, vI (1114111 : Int32), vI v1, vI j44_l6_8, vI v12, vR b39, vJ v58, .second, vI j198_s0_63, .unset, vJ v34, .second] []) := fun t k => pre65 t (by
          refine XS.istore X55.here hx rfl (hb hby at_198) rfl (l' := #[vI p0, vI p1, vI p2, vI p3, vI (1114111 : Int32), vI v1, vI j44_l6_8, vI v12, vR b39, vJ v58, .second, vI j198_s0_63, .unset, vJ v34, .second]) rfl ?_
          show Steps p.tables e below (T55.setTop (mkF m 200 #[vI p0, vI p1, vI p2, vI p3, vI (1114111 : Int32), vI v1, vI j44_l6_8, vI v12, vR b39, vJ v58, .second, vI j198_s0_63, .unset, vJ v34, .second] [])) _
          exact k)
        obtain ⟨T68, h68, X68, e68, E68, A68, D68, -, st68⟩ := newO X55 hx hZ hown (hw _ (List.mem_of_getElem? (i := 4) rfl)) (hw _ (List.mem_of_getElem? (i := 5) rfl)) (hw _ (List.mem_of_getElem? (i := 6) rfl)) e55 (g := (mkF m 200 #[vI p0, vI p1, vI p2, vI p3, vI (1114111 : Int32), vI v1, vI j44_l6_8, vI v12, vR b39, vJ v58, .second, vI j198_s0_63, .unset, vJ v34, .second] [])) rfl (hb hby at_200) (by decide) (by decide)
        obtain ⟨b68, g68⟩ : ∃ z, z = h55.size := ⟨_, rfl⟩
        rw [← g68] at A68 D68 st68
        have pre68 : Go p.tables e below S0 T68 (mkF m 203 #[vI p0, vI p1, vI p2, vI p3, vI (1114111 : Int32), vI v1, vI j44_l6_8, vI v12, vR b39, vJ v58, .second, vI j198_s0_63, .unset, vJ v34, .second] [(.ref b68)]) := fun t k => pre67 t (st68 t k)
        have ne69 : b39 ≠ b68 := Nat.ne_of_lt (Nat.lt_of_lt_of_le av55.lt (Nat.le_of_eq g68.symm))
        have bo68 : n0 ≤ b68 := Nat.le_trans zz57 (Nat.le_of_eq g68.symm)
        have f70_1 := av55.ext E68
        have zz71 : n0 ≤ h68.size := Nat.le_trans zz57 E68.1
        have fn68_ranges : Fld Z h68 b68 "com/example/attest/attest/metadata/ScopeSyntax$Chars" "ranges" "[I" .null := D68 (Or.inr (hw _ (List.mem_of_getElem? (i := 19) rfl))) (ty := (.array .int)) (by decide)
        have pre72 : Go p.tables e below S0 T68 (mkF m 206 #[vI p0, vI p1, vI p2, vI p3, vI (1114111 : Int32), vI v1, vI j44_l6_8, vI v12, vR b39, vJ v58, .second, vI j198_s0_63, .unset, vJ v34, .second] [(.ref b39), (.ref b68), (.ref b68)]) := fun t k => pre68 t (by
          refine XS.dup X68.here hx rfl (hb hby at_203) rfl rfl ?_
          show Steps p.tables e below (T68.setTop (mkF m 204 #[vI p0, vI p1, vI p2, vI p3, vI (1114111 : Int32), vI v1, vI j44_l6_8, vI v12, vR b39, vJ v58, .second, vI j198_s0_63, .unset, vJ v34, .second] [(.ref b68), (.ref b68)])) _
          refine XS.aload X68.here hx rfl (hb hby at_204) rfl rfl ?_
          show Steps p.tables e below (T68.setTop (mkF m 206 #[vI p0, vI p1, vI p2, vI p3, vI (1114111 : Int32), vI v1, vI j44_l6_8, vI v12, vR b39, vJ v58, .second, vI j198_s0_63, .unset, vJ v34, .second] [(.ref b39), (.ref b68), (.ref b68)])) _
          exact k)
        obtain ⟨_, _, ⟨T73, L73, k73, n73⟩, -, X73, ⟨Lc73, hQ73, l73, y73, z73⟩, st73⟩ := X68.specialBack hx (y := (⟨"com/example/attest/attest/metadata/ScopeSyntax$Chars", "<init>", "([I)V"⟩ : MethodName)) rfl hown (mvT hZ (hw _ (List.mem_of_getElem? (i := 7) rfl))) (mvT hZ (hw _ (List.mem_of_getElem? (i := 8) rfl))) (mvT hZ (hw _ (List.mem_of_getElem? (i := 9) rfl))) (by decide) (backOf (W := 1) (rm1 l Z A0 hw [] b68 b39 h68 n0 zz71 A68 fn68_ranges bo68) hZ (hw _ (List.mem_of_getElem? (i := 9) rfl)) (hw _ (List.mem_of_getElem? (i := 6) rfl)) (by decide) (by decide)) (g := (mkF m 206 #[vI p0, vI p1, vI p2, vI p3, vI (1114111 : Int32), vI v1, vI j44_l6_8, vI v12, vR b39, vJ v58, .second, vI j198_s0_63, .unset, vJ v34, .second] [(.ref b39), (.ref b68), (.ref b68)])) rfl (by rw [hml]; rfl) (Steps.refl _) (a := b68) (argsL := [(.ref b39)]) (rest := [(.ref b68)]) (lenOf pd_1 rfl) rfl (by show 2 * 0 + _ ≤ _; exact Nat.le_of_eq rfl) (hb hby at_206) (fun _ _ => ⟨rfl, e68, (by decide : 2 + 0 ≤ _), (by decide : 5 + 0 ≤ _)⟩)
        dsimp only [Pt.U, Pt.locs, Pt.cells, Pt.slots] at X73 l73 y73 z73 st73 hQ73
        subst l73 y73 z73
        obtain ⟨rfl, Nq73, Kq73, nf73_0, nf73_1⟩ := hQ73
        have N73 := Fr.app N55 Nq73
        have pre73 : Go p.tables e below S0 T73 (mkF m 209 #[vI p0, vI p1, vI p2, vI p3, vI (1114111 : Int32), vI v1, vI j44_l6_8, vI v12, vR b39, vJ v58, .second, vI j198_s0_63, .unset, vJ v34, .second] [(.ref b68)]) := fun t k => pre72 t (st73.trans k)
        have f74_1 := f70_1.keep Kq73 (ninS ne69 nin0)
        have zz75 : n0 ≤ T73.heap.size := Nat.le_trans zz71 Kq73.1
        have pre76 : Go p.tables e below S0 T73 (mkF m 213 #[vI p0, vI p1, vI p2, vI p3, vI (1114111 : Int32), vI v1, vI j44_l6_8, vI v12, vR b39, vJ v58, .second, vI j198_s0_63, vR b68, vJ v34, .second] [(.ref b68)]) := fun t k => pre73 t (by
          refine XS.astore X73.here hx rfl (hb hby at_209) rfl rfl (l' := #[vI p0, vI p1, vI p2, vI p3, vI (1114111 : Int32), vI v1, vI j44_l6_8, vI v12, vR b39, vJ v58, .second, vI j198_s0_63, vR b68, vJ v34, .second]) rfl ?_
          show Steps p.tables e below (T73.setTop (mkF m 211 #[vI p0, vI p1, vI p2, vI p3, vI (1114111 : Int32), vI v1, vI j44_l6_8, vI v12, vR b39, vJ v58, .second, vI j198_s0_63, vR b68, vJ v34, .second] [])) _
          refine XS.aload X73.here hx rfl (hb hby at_211) rfl rfl ?_
          show Steps p.tables e below (T73.setTop (mkF m 213 #[vI p0, vI p1, vI p2, vI p3, vI (1114111 : Int32), vI v1, vI j44_l6_8, vI v12, vR b39, vJ v58, .second, vI j198_s0_63, vR b68, vJ v34, .second] [(.ref b68)])) _
          exact k)
        obtain ⟨cq77, kq77, qa77, qb77, qc77⟩ := isOf hZ rfl nf73_0
        obtain ⟨_, _, ⟨T77, L77, k77, n77⟩, -, X77, ⟨Lc77, hQ77, l77, y77, z77⟩, st77⟩ := X73.virtualBack hx (y := (⟨"com/example/attest/attest/metadata/ScopeSyntax$Chars", "single", "()Z"⟩ : MethodName)) (z := (⟨"com/example/attest/attest/metadata/ScopeSyntax$Chars", "single", "()Z"⟩ : MethodName)) hown (mvT hZ (hw _ (List.mem_of_getElem? (i := 20) rfl))) (mvT hZ (hw _ (List.mem_of_getElem? (i := 21) rfl))) (notFace_of_selects (args := #[]) (mvT hZ (hw _ (List.mem_of_getElem? (i := 23) rfl)))) (mvT hZ (hw _ (List.mem_of_getElem? (i := 23) rfl))) (mvT hZ (hw _ (List.mem_of_getElem? (i := 22) rfl))) (by decide) (backOf (W := 0) (rm4A l Z A0 hw [] b68 b39 k39 (4 : Int32) [(.int v1), (.int j44_l6_8), (.int (v33.toInt32)), (.int (v34.toInt32))] T73.heap n0 zz75 nf73_1 f74_1 (by decide)) hZ (hw _ (List.mem_of_getElem? (i := 24) rfl)) (hw _ (List.mem_of_getElem? (i := 6) rfl)) (by decide) (by decide)) qa77 qc77 (g := (mkF m 213 #[vI p0, vI p1, vI p2, vI p3, vI (1114111 : Int32), vI v1, vI j44_l6_8, vI v12, vR b39, vJ v58, .second, vI j198_s0_63, vR b68, vJ v34, .second] [(.ref b68)])) rfl (by rw [hml]; rfl) (Steps.refl _) (argsL := []) (rest := []) (lenOf pd_2 rfl) rfl (by show 2 * 0 + _ ≤ _; exact Nat.le_of_eq rfl) (hb hby at_213) (fun _ _ => ⟨rfl, rfl, (by decide : 2 + 0 ≤ _), (by decide : 5 + 0 ≤ _)⟩)
        dsimp only [Pt.U, Pt.locs, Pt.cells, Pt.slots] at X77 l77 y77 z77 st77 hQ77
        subst l77 y77 z77
        obtain ⟨rfl, Nq77, eq77⟩ := hQ77
        have N77 := Fr.app N73 Nq77
        have pre77 : Go p.tables e below S0 T77 (mkF m 216 #[vI p0, vI p1, vI p2, vI p3, vI (1114111 : Int32), vI v1, vI j44_l6_8, vI v12, vR b39, vJ v58, .second, vI j198_s0_63, vR b68, vJ v34, .second] [(.int (0 : Int32))]) := fun t k => pre76 t (st77.trans k)
        have pre78 : Go p.tables e below S0 T77 (mkF m 218 #[vI p0, vI p1, vI p2, vI p3, vI (1114111 : Int32), vI v1, vI j44_l6_8, vI v12, vR b39, vJ v58, .second, vI j198_s0_63, vR b68, vJ v34, .second] [(.int j198_s0_63), (.int (0 : Int32))]) := fun t k => pre77 t (by
          refine XS.iload X77.here hx rfl (hb hby at_216) rfl ?_
          show Steps p.tables e below (T77.setTop (mkF m 218 #[vI p0, vI p1, vI p2, vI p3, vI (1114111 : Int32), vI v1, vI j44_l6_8, vI v12, vR b39, vJ v58, .second, vI j198_s0_63, vR b68, vJ v34, .second] [(.int j198_s0_63), (.int (0 : Int32))])) _
          exact k)
        have cc79 : (0 : Int32) = j198_s0_63 := key
        have pre80 : Go p.tables e below S0 T77 (mkF m 226 #[vI p0, vI p1, vI p2, vI p3, vI (1114111 : Int32), vI v1, vI j44_l6_8, vI v12, vR b39, vJ v58, .second, vI j198_s0_63, vR b68, vJ v34, .second] [(.int (1 : Int32))]) := fun t k => pre78 t (by
          refine XS.icmpNo X77.here hx rfl (hb hby at_218) rfl (teq cc79).2 ?_
          show Steps p.tables e below (T77.setTop (mkF m 221 #[vI p0, vI p1, vI p2, vI p3, vI (1114111 : Int32), vI v1, vI j44_l6_8, vI v12, vR b39, vJ v58, .second, vI j198_s0_63, vR b68, vJ v34, .second] [])) _
          refine XS.iconst X77.here hx rfl (hb hby at_221) ?_
          show Steps p.tables e below (T77.setTop (mkF m 222 #[vI p0, vI p1, vI p2, vI p3, vI (1114111 : Int32), vI v1, vI j44_l6_8, vI v12, vR b39, vJ v58, .second, vI j198_s0_63, vR b68, vJ v34, .second] [(.int (1 : Int32))])) _
          refine XS.goto X77.here hx rfl (pc0 := 222) (pc' := 226) rfl (hb hby at_222) (by decide) (by decide) ?_
          show Steps p.tables e below (T77.setTop (mkF m 226 #[vI p0, vI p1, vI p2, vI p3, vI (1114111 : Int32), vI v1, vI j44_l6_8, vI v12, vR b39, vJ v58, .second, vI j198_s0_63, vR b68, vJ v34, .second] [(.int (1 : Int32))])) _
          exact k)
        obtain ⟨fs, hr, hrun, hended, hW, hsame⟩ := X77.leave (v := some (.int (1 : Int32))) (fun h => by rw [Bd.returns] at h; cases h)
        exact ⟨_, _, pre80.fin hS0 (retN X77 hx (t := .boolean) Bd.returns (by simp) (hb hby at_226) hr), hrun, hended, _, _, rfl, (by
          show Q0 Z p0 p1 p2 p3 h0 n0 _ T77.heap _
          rw [eq77]
          exact ⟨rfl, N77⟩), ⟨_, rfl⟩, hW, hsame.mono (by decide) (by decide)⟩
    · skip
      have pre81 : Go p.tables e below S0 s₁ (mkF m 161 #[vI p0, vI p1, vI p2, vI p3, vI (1114111 : Int32), vI v1, vI j44_l6_8, vI v12, .unset, .unset, .unset, .unset, .unset, .unset, .unset] [(.int (2 : Int32))]) := fun t k => pre31 t (by
        refine XS.icmpYes X0.here hx rfl (pc0 := 68) (pc' := 160) rfl (hb hby at_68) rfl (feq c68_32).2 (by decide) (by decide) ?_
        show Steps p.tables e below (s₁.setTop (mkF m 160 #[vI p0, vI p1, vI p2, vI p3, vI (1114111 : Int32), vI v1, vI j44_l6_8, vI v12, .unset, .unset, .unset, .unset, .unset, .unset, .unset] [])) _
        refine XS.iconst X0.here hx rfl (hb hby at_160) ?_
        show Steps p.tables e below (s₁.setTop (mkF m 161 #[vI p0, vI p1, vI p2, vI p3, vI (1114111 : Int32), vI v1, vI j44_l6_8, vI v12, .unset, .unset, .unset, .unset, .unset, .unset, .unset] [(.int (2 : Int32))])) _
        exact k)
      obtain ⟨T82, h82, k82, X82, e82, E82, A82, st82⟩ := newP X0 hx hZ (hw _ (List.mem_of_getElem? (i := 3) rfl)) e0 (g := (mkF m 161 #[vI p0, vI p1, vI p2, vI p3, vI (1114111 : Int32), vI v1, vI j44_l6_8, vI v12, .unset, .unset, .unset, .unset, .unset, .unset, .unset] [(.int (2 : Int32))])) rfl (hb hby at_161) rfl (by decide) (cap := 2) (by decide) (by decide) (by decide) (by decide)
      obtain ⟨b82, g82⟩ : ∃ z, z = h0.size := ⟨_, rfl⟩
      rw [← g82] at A82 st82
      have pre82 : Go p.tables e below S0 T82 (mkF m 163 #[vI p0, vI p1, vI p2, vI p3, vI (1114111 : Int32), vI v1, vI j44_l6_8, vI v12, .unset, .unset, .unset, .unset, .unset, .unset, .unset] [(.ref b82)]) := fun t k => pre81 t (st82 t k)
      have bo82 : n0 ≤ b82 := Nat.le_trans Z0 (Nat.le_of_eq g82.symm)
      have zz84 : n0 ≤ h82.size := Nat.le_trans Z0 E82.1
      have av82 : Arv Z h82 b82 k82 .int (2 : Int32) [(.int (0 : Int32)), (.int (0 : Int32))] (.int (0 : Int32)) := (Arv.new A82 (by decide)).pad (pad_rep [] (.int (0 : Int32)) 2)
      have pre85 : Go p.tables e below S0 T82 (mkF m 167 #[vI p0, vI p1, vI p2, vI p3, vI (1114111 : Int32), vI v1, vI j44_l6_8, vI v12, .unset, .unset, .unset, .unset, .unset, .unset, .unset] [(.int v1), (.int (0 : Int32)), (.ref b82), (.ref b82)]) := fun t k => pre82 t (by
        refine XS.dup X82.here hx rfl (hb hby at_163) rfl rfl ?_
        show Steps p.tables e below (T82.setTop (mkF m 164 #[vI p0, vI p1, vI p2, vI p3, vI (1114111 : Int32), vI v1, vI j44_l6_8, vI v12, .unset, .unset, .unset, .unset, .unset, .unset, .unset] [(.ref b82), (.ref b82)])) _
        refine XS.iconst X82.here hx rfl (hb hby at_164) ?_
        show Steps p.tables e below (T82.setTop (mkF m 165 #[vI p0, vI p1, vI p2, vI p3, vI (1114111 : Int32), vI v1, vI j44_l6_8, vI v12, .unset, .unset, .unset, .unset, .unset, .unset, .unset] [(.int (0 : Int32)), (.ref b82), (.ref b82)])) _
        refine XS.iload X82.here hx rfl (hb hby at_165) rfl ?_
        show Steps p.tables e below (T82.setTop (mkF m 167 #[vI p0, vI p1, vI p2, vI p3, vI (1114111 : Int32), vI v1, vI j44_l6_8, vI v12, .unset, .unset, .unset, .unset, .unset, .unset, .unset] [(.int v1), (.int (0 : Int32)), (.ref b82), (.ref b82)])) _
        exact k)
      obtain ⟨cl86, Ar86, q86, S86, M86, H86, G86⟩ := id av82
      have in86 : ¬ ((0 : Int32) < 0 ∨ cl86.slots.size ≤ ((0 : Int32)).toNatClampNeg) := inb_of S86 ⟨by decide, by decide⟩
      obtain ⟨T86, h86, X86, e86, W86, st86⟩ := stI X82 hx hZ e82 Ar86 (j := (0 : Int32)) in86 (g := (mkF m 167 #[vI p0, vI p1, vI p2, vI p3, vI (1114111 : Int32), vI v1, vI j44_l6_8, vI v12, .unset, .unset, .unset, .unset, .unset, .unset, .unset] [(.int v1), (.int (0 : Int32)), (.ref b82), (.ref b82)])) rfl rfl (hb hby at_167)
      have pre86 : Go p.tables e below S0 T86 (mkF m 168 #[vI p0, vI p1, vI p2, vI p3, vI (1114111 : Int32), vI v1, vI j44_l6_8, vI v12, .unset, .unset, .unset, .unset, .unset, .unset, .unset] [(.ref b82)]) := fun t k => pre85 t (st86 t k)
      have N86 := Fr.snoc X86 N0 bo82
      have av86 : Arv Z h86 b82 k82 .int (2 : Int32) [(.int v1), (.int (0 : Int32))] (.int (0 : Int32)) := Arv.set Ar86 q86 S86 M86 H86 G86 rfl W86 0 rfl (Nat.le_of_ble_eq_true rfl)
      have zz88 : n0 ≤ h86.size := Nat.le_trans zz84 (Keep.of_wr W86).1
      have pre89 : Go p.tables e below S0 T86 (mkF m 172 #[vI p0, vI p1, vI p2, vI p3, vI (1114111 : Int32), vI v1, vI j44_l6_8, vI v12, .unset, .unset, .unset, .unset, .unset, .unset, .unset] [(.int j44_l6_8), (.int (1 : Int32)), (.ref b82), (.ref b82)]) := fun t k => pre86 t (by
        refine XS.dup X86.here hx rfl (hb hby at_168) rfl rfl ?_
        show Steps p.tables e below (T86.setTop (mkF m 169 #[vI p0, vI p1, vI p2, vI p3, vI (1114111 : Int32), vI v1, vI j44_l6_8, vI v12, .unset, .unset, .unset, .unset, .unset, .unset, .unset] [(.ref b82), (.ref b82)])) _
        refine XS.iconst X86.here hx rfl (hb hby at_169) ?_
        show Steps p.tables e below (T86.setTop (mkF m 170 #[vI p0, vI p1, vI p2, vI p3, vI (1114111 : Int32), vI v1, vI j44_l6_8, vI v12, .unset, .unset, .unset, .unset, .unset, .unset, .unset] [(.int (1 : Int32)), (.ref b82), (.ref b82)])) _
        refine XS.iload X86.here hx rfl (hb hby at_170) rfl ?_
        show Steps p.tables e below (T86.setTop (mkF m 172 #[vI p0, vI p1, vI p2, vI p3, vI (1114111 : Int32), vI v1, vI j44_l6_8, vI v12, .unset, .unset, .unset, .unset, .unset, .unset, .unset] [(.int j44_l6_8), (.int (1 : Int32)), (.ref b82), (.ref b82)])) _
        exact k)
      obtain ⟨cl90, Ar90, q90, S90, M90, H90, G90⟩ := id av86
      have in90 : ¬ ((1 : Int32) < 0 ∨ cl90.slots.size ≤ ((1 : Int32)).toNatClampNeg) := inb_of S90 ⟨by decide, by decide⟩
      obtain ⟨T90, h90, X90, e90, W90, st90⟩ := stI X86 hx hZ e86 Ar90 (j := (1 : Int32)) in90 (g := (mkF m 172 #[vI p0, vI p1, vI p2, vI p3, vI (1114111 : Int32), vI v1, vI j44_l6_8, vI v12, .unset, .unset, .unset, .unset, .unset, .unset, .unset] [(.int j44_l6_8), (.int (1 : Int32)), (.ref b82), (.ref b82)])) rfl rfl (hb hby at_172)
      have pre90 : Go p.tables e below S0 T90 (mkF m 173 #[vI p0, vI p1, vI p2, vI p3, vI (1114111 : Int32), vI v1, vI j44_l6_8, vI v12, .unset, .unset, .unset, .unset, .unset, .unset, .unset] [(.ref b82)]) := fun t k => pre89 t (st90 t k)
      have N90 := Fr.snoc X90 N86 bo82
      have av90 : Arv Z h90 b82 k82 .int (2 : Int32) [(.int v1), (.int j44_l6_8)] (.int (0 : Int32)) := Arv.set Ar90 q90 S90 M90 H90 G90 rfl W90 1 rfl (Nat.le_of_ble_eq_true rfl)
      have zz92 : n0 ≤ h90.size := Nat.le_trans zz88 (Keep.of_wr W90).1
      obtain ⟨v93, hv93, pre93⟩ : ∃ z : Int64, z = (((j44_l6_8.toInt64) - (v1.toInt64)) + (1 : Int64)) ∧ Go p.tables e below S0 T90 (mkF m 186 #[vI p0, vI p1, vI p2, vI p3, vI (1114111 : Int32), vI v1, vI j44_l6_8, vI v12, vR b82, vJ z, .second, .unset, .unset, .unset, .unset] []) := ⟨_, rfl, fun t k => pre90 t (by
        refine XS.astore X90.here hx rfl (hb hby at_173) rfl rfl (l' := #[vI p0, vI p1, vI p2, vI p3, vI (1114111 : Int32), vI v1, vI j44_l6_8, vI v12, vR b82, .unset, .unset, .unset, .unset, .unset, .unset]) rfl ?_
        show Steps p.tables e below (T90.setTop (mkF m 175 #[vI p0, vI p1, vI p2, vI p3, vI (1114111 : Int32), vI v1, vI j44_l6_8, vI v12, vR b82, .unset, .unset, .unset, .unset, .unset, .unset] [])) _
        refine XS.iload X90.here hx rfl (hb hby at_175) rfl ?_
        show Steps p.tables e below (T90.setTop (mkF m 177 #[vI p0, vI p1, vI p2, vI p3, vI (1114111 : Int32), vI v1, vI j44_l6_8, vI v12, vR b82, .unset, .unset, .unset, .unset, .unset, .unset] [(.int j44_l6_8)])) _
        refine XS.i2l X90.here hx rfl (hb hby at_177) rfl ?_
        show Steps p.tables e below (T90.setTop (mkF m 178 #[vI p0, vI p1, vI p2, vI p3, vI (1114111 : Int32), vI v1, vI j44_l6_8, vI v12, vR b82, .unset, .unset, .unset, .unset, .unset, .unset] [(.long (j44_l6_8.toInt64))])) _
        refine XS.iload X90.here hx rfl (hb hby at_178) rfl ?_
        show Steps p.tables e below (T90.setTop (mkF m 180 #[vI p0, vI p1, vI p2, vI p3, vI (1114111 : Int32), vI v1, vI j44_l6_8, vI v12, vR b82, .unset, .unset, .unset, .unset, .unset, .unset] [(.int v1), (.long (j44_l6_8.toInt64))])) _
        refine XS.i2l X90.here hx rfl (hb hby at_180) rfl ?_
        show Steps p.tables e below (T90.setTop (mkF m 181 #[vI p0, vI p1, vI p2, vI p3, vI (1114111 : Int32), vI v1, vI j44_l6_8, vI v12, vR b82, .unset, .unset, .unset, .unset, .unset, .unset] [(.long (v1.toInt64)), (.long (j44_l6_8.toInt64))])) _
        refine XS.lsub X90.here hx rfl (hb hby at_181) rfl ?_
        show Steps p.tables e below (T90.setTop (mkF m 182 #[vI p0, vI p1, vI p2, vI p3, vI (1114111 : Int32), vI v1, vI j44_l6_8, vI v12, vR b82, .unset, .unset, .unset, .unset, .unset, .unset] [(.long ((j44_l6_8.toInt64) - (v1.toInt64)))])) _
        refine XS.lconst X90.here hx rfl (hb hby at_182) ?_
        show Steps p.tables e below (T90.setTop (mkF m 183 #[vI p0, vI p1, vI p2, vI p3, vI (1114111 : Int32), vI v1, vI j44_l6_8, vI v12, vR b82, .unset, .unset, .unset, .unset, .unset, .unset] [(.long (1 : Int64)), (.long ((j44_l6_8.toInt64) - (v1.toInt64)))])) _
        refine XS.ladd X90.here hx rfl (hb hby at_183) rfl ?_
        show Steps p.tables e below (T90.setTop (mkF m 184 #[vI p0, vI p1, vI p2, vI p3, vI (1114111 : Int32), vI v1, vI j44_l6_8, vI v12, vR b82, .unset, .unset, .unset, .unset, .unset, .unset] [(.long (((j44_l6_8.toInt64) - (v1.toInt64)) + (1 : Int64)))])) _
        refine XS.lstore X90.here hx rfl (hb hby at_184) rfl (l' := #[vI p0, vI p1, vI p2, vI p3, vI (1114111 : Int32), vI v1, vI j44_l6_8, vI v12, vR b82, vJ (((j44_l6_8.toInt64) - (v1.toInt64)) + (1 : Int64)), .second, .unset, .unset, .unset, .unset]) rfl ?_
        show Steps p.tables e below (T90.setTop (mkF m 186 #[vI p0, vI p1, vI p2, vI p3, vI (1114111 : Int32), vI v1, vI j44_l6_8, vI v12, vR b82, vJ (((j44_l6_8.toInt64) - (v1.toInt64)) + (1 : Int64)), .second, .unset, .unset, .unset, .unset] [])) _
        exact k)⟩
      have pre94 : Go p.tables e below S0 T90 (mkF m 190 #[vI p0, vI p1, vI p2, vI p3, vI (1114111 : Int32), vI v1, vI j44_l6_8, vI v12, vR b82, vJ v93, .second, .unset, .unset, .unset, .unset] [(.int (lcmpW v93 (1 : Int64)))]) := fun t k => pre93 t (by
        refine XS.lload X90.here hx rfl (hb hby at_186) rfl ?_
        show Steps p.tables e below (T90.setTop (mkF m 188 #[vI p0, vI p1, vI p2, vI p3, vI (1114111 : Int32), vI v1, vI j44_l6_8, vI v12, vR b82, vJ v93, .second, .unset, .unset, .unset, .unset] [(.long v93)])) _
        refine XS.lconst X90.here hx rfl (hb hby at_188) ?_
        show Steps p.tables e below (T90.setTop (mkF m 189 #[vI p0, vI p1, vI p2, vI p3, vI (1114111 : Int32), vI v1, vI j44_l6_8, vI v12, vR b82, vJ v93, .second, .unset, .unset, .unset, .unset] [(.long (1 : Int64)), (.long v93)])) _
        refine XS.lcmp X90.here hx rfl (hb hby at_189) rfl ?_
        show Steps p.tables e below (T90.setTop (mkF m 190 #[vI p0, vI p1, vI p2, vI p3, vI (1114111 : Int32), vI v1, vI j44_l6_8, vI v12, vR b82, vJ v93, .second, .unset, .unset, .unset, .unset] [(.int (lcmpW v93 (1 : Int64)))])) _
        exact k)
      refine cps (A := ∃ (j198_s0_98 : Int32), (((j198_s0_98 = (1 : Int32)) ∧ (v93 = (1 : Int64))) ∨ ((j198_s0_98 = (0 : Int32)) ∧ (¬ (v93 = (1 : Int64))))) ∧ (Go p.tables e below S0 T90 (mkF m 198 #[vI p0, vI p1, vI p2, vI p3, vI (1114111 : Int32), vI v1, vI j44_l6_8, vI v12, vR b82, vJ v93, .second, .unset, .unset, .unset, .unset] [(.int j198_s0_98)]))) (fun tail101 => ?_) ?_
      · skip
        by_cases c190_95 : v93 = (1 : Int64)
        · skip
          have pre96 : Go p.tables e below S0 T90 (mkF m 198 #[vI p0, vI p1, vI p2, vI p3, vI (1114111 : Int32), vI v1, vI j44_l6_8, vI v12, vR b82, vJ v93, .second, .unset, .unset, .unset, .unset] [(.int (1 : Int32))]) := fun t k => pre94 t (by
            refine XS.ifNo X90.here hx rfl (hb hby at_190) rfl ((if0 _ _).trans (teq ((lw_eq _ _).mpr c190_95)).2) ?_
            show Steps p.tables e below (T90.setTop (mkF m 193 #[vI p0, vI p1, vI p2, vI p3, vI (1114111 : Int32), vI v1, vI j44_l6_8, vI v12, vR b82, vJ v93, .second, .unset, .unset, .unset, .unset] [])) _
            refine XS.iconst X90.here hx rfl (hb hby at_193) ?_
            show Steps p.tables e below (T90.setTop (mkF m 194 #[vI p0, vI p1, vI p2, vI p3, vI (1114111 : Int32), vI v1, vI j44_l6_8, vI v12, vR b82, vJ v93, .second, .unset, .unset, .unset, .unset] [(.int (1 : Int32))])) _
            refine XS.goto X90.here hx rfl (pc0 := 194) (pc' := 198) rfl (hb hby at_194) (by decide) (by decide) ?_
            show Steps p.tables e below (T90.setTop (mkF m 198 #[vI p0, vI p1, vI p2, vI p3, vI (1114111 : Int32), vI v1, vI j44_l6_8, vI v12, vR b82, vJ v93, .second, .unset, .unset, .unset, .unset] [(.int (1 : Int32))])) _
            exact k)
          exact tail101 ⟨(1 : Int32), (Or.inl ⟨rfl, c190_95⟩), pre96⟩
        · skip
          have pre97 : Go p.tables e below S0 T90 (mkF m 198 #[vI p0, vI p1, vI p2, vI p3, vI (1114111 : Int32), vI v1, vI j44_l6_8, vI v12, vR b82, vJ v93, .second, .unset, .unset, .unset, .unset] [(.int (0 : Int32))]) := fun t k => pre94 t (by
            refine XS.ifYes X90.here hx rfl (pc0 := 190) (pc' := 197) rfl (hb hby at_190) rfl ((if0 _ _).trans (feq (fun q => c190_95 ((lw_eq _ _).mp q))).2) (by decide) (by decide) ?_
            show Steps p.tables e below (T90.setTop (mkF m 197 #[vI p0, vI p1, vI p2, vI p3, vI (1114111 : Int32), vI v1, vI j44_l6_8, vI v12, vR b82, vJ v93, .second, .unset, .unset, .unset, .unset] [])) _
            refine XS.iconst X90.here hx rfl (hb hby at_197) ?_
            show Steps p.tables e below (T90.setTop (mkF m 198 #[vI p0, vI p1, vI p2, vI p3, vI (1114111 : Int32), vI v1, vI j44_l6_8, vI v12, vR b82, vJ v93, .second, .unset, .unset, .unset, .unset] [(.int (0 : Int32))])) _
            exact k)
          exact tail101 ⟨(0 : Int32), (Or.inr ⟨rfl, c190_95⟩), pre97⟩
      rintro ⟨j198_s0_98, hj198_99, pre100⟩
      have key := own_n2 hi1.1 hv93 hj198_99
      have pre102 : Go p.tables e below S0 T90 (mkF m 200 #[vI p0, vI p1, vI p2, vI p3, vI (1114111 : Int32), vI v1, vI j44_l6_8, vI v12, vR b82, vJ v93, .second, vI j198_s0_98, .unset, .unset, .unset] []) := fun t k => pre100 t (by
        refine XS.istore X90.here hx rfl (hb hby at_198) rfl (l' := #[vI p0, vI p1, vI p2, vI p3, vI (1114111 : Int32), vI v1, vI j44_l6_8, vI v12, vR b82, vJ v93, .second, vI j198_s0_98, .unset, .unset, .unset]) rfl ?_
        show Steps p.tables e below (T90.setTop (mkF m 200 #[vI p0, vI p1, vI p2, vI p3, vI (1114111 : Int32), vI v1, vI j44_l6_8, vI v12, vR b82, vJ v93, .second, vI j198_s0_98, .unset, .unset, .unset] [])) _
        exact k)
      obtain ⟨T103, h103, X103, e103, E103, A103, D103, -, st103⟩ := newO X90 hx hZ hown (hw _ (List.mem_of_getElem? (i := 4) rfl)) (hw _ (List.mem_of_getElem? (i := 5) rfl)) (hw _ (List.mem_of_getElem? (i := 6) rfl)) e90 (g := (mkF m 200 #[vI p0, vI p1, vI p2, vI p3, vI (1114111 : Int32), vI v1, vI j44_l6_8, vI v12, vR b82, vJ v93, .second, vI j198_s0_98, .unset, .unset, .unset] [])) rfl (hb hby at_200) (by decide) (by decide)
      obtain ⟨b103, g103⟩ : ∃ z, z = h90.size := ⟨_, rfl⟩
      rw [← g103] at A103 D103 st103
      have pre103 : Go p.tables e below S0 T103 (mkF m 203 #[vI p0, vI p1, vI p2, vI p3, vI (1114111 : Int32), vI v1, vI j44_l6_8, vI v12, vR b82, vJ v93, .second, vI j198_s0_98, .unset, .unset, .unset] [(.ref b103)]) := fun t k => pre102 t (st103 t k)
      have ne104 : b82 ≠ b103 := Nat.ne_of_lt (Nat.lt_of_lt_of_le av90.lt (Nat.le_of_eq g103.symm))
      have bo103 : n0 ≤ b103 := Nat.le_trans zz92 (Nat.le_of_eq g103.symm)
      have f105_1 := av90.ext E103
      have zz106 : n0 ≤ h103.size := Nat.le_trans zz92 E103.1
      have fn103_ranges : Fld Z h103 b103 "com/example/attest/attest/metadata/ScopeSyntax$Chars" "ranges" "[I" .null := D103 (Or.inr (hw _ (List.mem_of_getElem? (i := 19) rfl))) (ty := (.array .int)) (by decide)
      have pre107 : Go p.tables e below S0 T103 (mkF m 206 #[vI p0, vI p1, vI p2, vI p3, vI (1114111 : Int32), vI v1, vI j44_l6_8, vI v12, vR b82, vJ v93, .second, vI j198_s0_98, .unset, .unset, .unset] [(.ref b82), (.ref b103), (.ref b103)]) := fun t k => pre103 t (by
        refine XS.dup X103.here hx rfl (hb hby at_203) rfl rfl ?_
        show Steps p.tables e below (T103.setTop (mkF m 204 #[vI p0, vI p1, vI p2, vI p3, vI (1114111 : Int32), vI v1, vI j44_l6_8, vI v12, vR b82, vJ v93, .second, vI j198_s0_98, .unset, .unset, .unset] [(.ref b103), (.ref b103)])) _
        refine XS.aload X103.here hx rfl (hb hby at_204) rfl rfl ?_
        show Steps p.tables e below (T103.setTop (mkF m 206 #[vI p0, vI p1, vI p2, vI p3, vI (1114111 : Int32), vI v1, vI j44_l6_8, vI v12, vR b82, vJ v93, .second, vI j198_s0_98, .unset, .unset, .unset] [(.ref b82), (.ref b103), (.ref b103)])) _
        exact k)
      obtain ⟨_, _, ⟨T108, L108, k108, n108⟩, -, X108, ⟨Lc108, hQ108, l108, y108, z108⟩, st108⟩ := X103.specialBack hx (y := (⟨"com/example/attest/attest/metadata/ScopeSyntax$Chars", "<init>", "([I)V"⟩ : MethodName)) rfl hown (mvT hZ (hw _ (List.mem_of_getElem? (i := 7) rfl))) (mvT hZ (hw _ (List.mem_of_getElem? (i := 8) rfl))) (mvT hZ (hw _ (List.mem_of_getElem? (i := 9) rfl))) (by decide) (backOf (W := 1) (rm1 l Z A0 hw [] b103 b82 h103 n0 zz106 A103 fn103_ranges bo103) hZ (hw _ (List.mem_of_getElem? (i := 9) rfl)) (hw _ (List.mem_of_getElem? (i := 6) rfl)) (by decide) (by decide)) (g := (mkF m 206 #[vI p0, vI p1, vI p2, vI p3, vI (1114111 : Int32), vI v1, vI j44_l6_8, vI v12, vR b82, vJ v93, .second, vI j198_s0_98, .unset, .unset, .unset] [(.ref b82), (.ref b103), (.ref b103)])) rfl (by rw [hml]; rfl) (Steps.refl _) (a := b103) (argsL := [(.ref b82)]) (rest := [(.ref b103)]) (lenOf pd_1 rfl) rfl (by show 2 * 0 + _ ≤ _; exact Nat.le_of_eq rfl) (hb hby at_206) (fun _ _ => ⟨rfl, e103, (by decide : 2 + 0 ≤ _), (by decide : 3 + 0 ≤ _)⟩)
      dsimp only [Pt.U, Pt.locs, Pt.cells, Pt.slots] at X108 l108 y108 z108 st108 hQ108
      subst l108 y108 z108
      obtain ⟨rfl, Nq108, Kq108, nf108_0, nf108_1⟩ := hQ108
      have N108 := Fr.app N90 Nq108
      have pre108 : Go p.tables e below S0 T108 (mkF m 209 #[vI p0, vI p1, vI p2, vI p3, vI (1114111 : Int32), vI v1, vI j44_l6_8, vI v12, vR b82, vJ v93, .second, vI j198_s0_98, .unset, .unset, .unset] [(.ref b103)]) := fun t k => pre107 t (st108.trans k)
      have f109_1 := f105_1.keep Kq108 (ninS ne104 nin0)
      have zz110 : n0 ≤ T108.heap.size := Nat.le_trans zz106 Kq108.1
      have pre111 : Go p.tables e below S0 T108 (mkF m 213 #[vI p0, vI p1, vI p2, vI p3, vI (1114111 : Int32), vI v1, vI j44_l6_8, vI v12, vR b82, vJ v93, .second, vI j198_s0_98, vR b103, .unset, .unset] [(.ref b103)]) := fun t k => pre108 t (by
        refine XS.astore X108.here hx rfl (hb hby at_209) rfl rfl (l' := #[vI p0, vI p1, vI p2, vI p3, vI (1114111 : Int32), vI v1, vI j44_l6_8, vI v12, vR b82, vJ v93, .second, vI j198_s0_98, vR b103, .unset, .unset]) rfl ?_
        show Steps p.tables e below (T108.setTop (mkF m 211 #[vI p0, vI p1, vI p2, vI p3, vI (1114111 : Int32), vI v1, vI j44_l6_8, vI v12, vR b82, vJ v93, .second, vI j198_s0_98, vR b103, .unset, .unset] [])) _
        refine XS.aload X108.here hx rfl (hb hby at_211) rfl rfl ?_
        show Steps p.tables e below (T108.setTop (mkF m 213 #[vI p0, vI p1, vI p2, vI p3, vI (1114111 : Int32), vI v1, vI j44_l6_8, vI v12, vR b82, vJ v93, .second, vI j198_s0_98, vR b103, .unset, .unset] [(.ref b103)])) _
        exact k)
      obtain ⟨cq112, kq112, qa112, qb112, qc112⟩ := isOf hZ rfl nf108_0
      obtain ⟨_, _, ⟨T112, L112, k112, n112⟩, -, X112, ⟨Lc112, hQ112, l112, y112, z112⟩, st112⟩ := X108.virtualBack hx (y := (⟨"com/example/attest/attest/metadata/ScopeSyntax$Chars", "single", "()Z"⟩ : MethodName)) (z := (⟨"com/example/attest/attest/metadata/ScopeSyntax$Chars", "single", "()Z"⟩ : MethodName)) hown (mvT hZ (hw _ (List.mem_of_getElem? (i := 20) rfl))) (mvT hZ (hw _ (List.mem_of_getElem? (i := 21) rfl))) (notFace_of_selects (args := #[]) (mvT hZ (hw _ (List.mem_of_getElem? (i := 23) rfl)))) (mvT hZ (hw _ (List.mem_of_getElem? (i := 23) rfl))) (mvT hZ (hw _ (List.mem_of_getElem? (i := 22) rfl))) (by decide) (backOf (W := 0) (rm4B l Z A0 hw [] b103 b82 k82 v1 j44_l6_8 T108.heap n0 zz110 nf108_1 f109_1) hZ (hw _ (List.mem_of_getElem? (i := 24) rfl)) (hw _ (List.mem_of_getElem? (i := 6) rfl)) (by decide) (by decide)) qa112 qc112 (g := (mkF m 213 #[vI p0, vI p1, vI p2, vI p3, vI (1114111 : Int32), vI v1, vI j44_l6_8, vI v12, vR b82, vJ v93, .second, vI j198_s0_98, vR b103, .unset, .unset] [(.ref b103)])) rfl (by rw [hml]; rfl) (Steps.refl _) (argsL := []) (rest := []) (lenOf pd_2 rfl) rfl (by show 2 * 0 + _ ≤ _; exact Nat.le_of_eq rfl) (hb hby at_213) (fun _ _ => ⟨rfl, rfl, (by decide : 2 + 0 ≤ _), (by decide : 3 + 0 ≤ _)⟩)
      dsimp only [Pt.U, Pt.locs, Pt.cells, Pt.slots] at X112 l112 y112 z112 st112 hQ112
      subst l112 y112 z112
      obtain ⟨rfl, Nq112, eq112⟩ := hQ112
      have N112 := Fr.app N108 Nq112
      have pre112 : Go p.tables e below S0 T112 (mkF m 216 #[vI p0, vI p1, vI p2, vI p3, vI (1114111 : Int32), vI v1, vI j44_l6_8, vI v12, vR b82, vJ v93, .second, vI j198_s0_98, vR b103, .unset, .unset] [(.int (own_sing v1 j44_l6_8))]) := fun t k => pre111 t (st112.trans k)
      have pre113 : Go p.tables e below S0 T112 (mkF m 218 #[vI p0, vI p1, vI p2, vI p3, vI (1114111 : Int32), vI v1, vI j44_l6_8, vI v12, vR b82, vJ v93, .second, vI j198_s0_98, vR b103, .unset, .unset] [(.int j198_s0_98), (.int (own_sing v1 j44_l6_8))]) := fun t k => pre112 t (by
        refine XS.iload X112.here hx rfl (hb hby at_216) rfl ?_
        show Steps p.tables e below (T112.setTop (mkF m 218 #[vI p0, vI p1, vI p2, vI p3, vI (1114111 : Int32), vI v1, vI j44_l6_8, vI v12, vR b82, vJ v93, .second, vI j198_s0_98, vR b103, .unset, .unset] [(.int j198_s0_98), (.int (own_sing v1 j44_l6_8))])) _
        exact k)
      have cc114 : (own_sing v1 j44_l6_8) = j198_s0_98 := key
      have pre115 : Go p.tables e below S0 T112 (mkF m 226 #[vI p0, vI p1, vI p2, vI p3, vI (1114111 : Int32), vI v1, vI j44_l6_8, vI v12, vR b82, vJ v93, .second, vI j198_s0_98, vR b103, .unset, .unset] [(.int (1 : Int32))]) := fun t k => pre113 t (by
        refine XS.icmpNo X112.here hx rfl (hb hby at_218) rfl (teq cc114).2 ?_
        show Steps p.tables e below (T112.setTop (mkF m 221 #[vI p0, vI p1, vI p2, vI p3, vI (1114111 : Int32), vI v1, vI j44_l6_8, vI v12, vR b82, vJ v93, .second, vI j198_s0_98, vR b103, .unset, .unset] [])) _
        refine XS.iconst X112.here hx rfl (hb hby at_221) ?_
        show Steps p.tables e below (T112.setTop (mkF m 222 #[vI p0, vI p1, vI p2, vI p3, vI (1114111 : Int32), vI v1, vI j44_l6_8, vI v12, vR b82, vJ v93, .second, vI j198_s0_98, vR b103, .unset, .unset] [(.int (1 : Int32))])) _
        refine XS.goto X112.here hx rfl (pc0 := 222) (pc' := 226) rfl (hb hby at_222) (by decide) (by decide) ?_
        show Steps p.tables e below (T112.setTop (mkF m 226 #[vI p0, vI p1, vI p2, vI p3, vI (1114111 : Int32), vI v1, vI j44_l6_8, vI v12, vR b82, vJ v93, .second, vI j198_s0_98, vR b103, .unset, .unset] [(.int (1 : Int32))])) _
        exact k)
      obtain ⟨fs, hr, hrun, hended, hW, hsame⟩ := X112.leave (v := some (.int (1 : Int32))) (fun h => by rw [Bd.returns] at h; cases h)
      exact ⟨_, _, pre115.fin hS0 (retN X112 hx (t := .boolean) Bd.returns (by simp) (hb hby at_226) hr), hrun, hended, _, _, rfl, (by
        show Q0 Z p0 p1 p2 p3 h0 n0 _ T112.heap _
        rw [eq112]
        exact ⟨rfl, N112⟩), ⟨_, rfl⟩, hW, hsame.mono (by decide) (by decide)⟩
set_option maxRecDepth 65536 in
set_option maxHeartbeats 40000000 in
theorem comes_1 {Post : Tables → Env → Array Value → State → Outcome → State → Prop} (hpost : ∀ tb e args s v u, (limb_1_1.after args s (.returned v) u = true ∧ limb_1_2.after args s (.returned v) u = true ∧ True) → FrameEnd s (.returned v) u (Jvm.fieldLocs frame_1_writes args s ++ Jvm.arrayLocs frame_1_arrays args s ++ Jvm.staticLocs frame_1_statics s) 16 128 → Post tb e args s (.returned v) u) :
    ArmFor flags0 classFile x code maxLocals ret World_1 tables_1 room_1 Calls_1 rest_1 Pre_1 Post := by
  intro l hfl _ _ p e ha hc hk s m args below hf hA hF happ hP
  obtain ⟨hcalls, hrest, hpre⟩ := hP
  obtain ⟨-, -, -, hnamed, -, -, -, hat⟩ := (Spec.applies_iff hf).mp happ
  obtain ⟨hg, hn⟩ := and_e (Cond.before_iff.mp (show (Jvm.Cond.and given_1 narrow_1).before args s = true from hpre))
  obtain ⟨g0, r0⟩ := and_e hg
  obtain ⟨g1, r1⟩ := and_e r0
  obtain ⟨g2, r2⟩ := and_e r1
  obtain ⟨g3, r3⟩ := and_e r2
  obtain ⟨w0, w1, w2, w3, rfl⟩ : ∃ w0 w1 w2 w3 : Value, args = #[w0, w1, w2, w3] := by
    have hs : args.size = 4 := by simpa [Cond.value, given_1] using g0
    obtain ⟨L⟩ := args
    match L, hs with
    | [w0, w1, w2, w3], _ => exact ⟨w0, w1, w2, w3, rfl⟩
  have hw := fun d (hd : d ∈ tables_1) => atoms_spec (ws := Jvm.Cond.code x code maxLocals ret :: tables_1) hat d (List.mem_cons_of_mem _ hd)
  obtain ⟨i0, ei0⟩ := is_v g1
  obtain rfl : w0 = (.int i0) := Option.some.inj ei0
  obtain ⟨i1, ei1⟩ := is_v g2
  obtain rfl : w1 = (.int i1) := Option.some.inj ei1
  obtain ⟨i2, ei2⟩ := is_v g3
  obtain rfl : w2 = (.int i2) := Option.some.inj ei2
  obtain ⟨i3, ei3⟩ := is_v r3
  obtain rfl : w3 = (.int i3) := Option.some.inj ei3
  obtain ⟨n, o, h1, h2, h3, _, L, rfl, ⟨rfl, N⟩, hq⟩ := rm0 l s _ hw tables_1 i0 i1 i2 i3  s.heap s.heap.size (Nat.le_refl _) p e ha hc hk s m _ below hf ((Spec.applies_iff_loose hf).mp happ).1 ⟨rfl, State.Warmed39.refl s, rfl⟩ trivial
  refine ⟨n, _, h1, h2, h3, hpost _ _ _ _ _ _ ⟨Cond.after_iff.mpr rfl, Cond.after_iff.mpr (eq_i res_at (Term.int_eval (1)) rfl), trivial⟩ ⟨hq.1, hq.2.1, (hq.2.2.sift fun y hy => Or.inr (N y hy)).mono (by decide) (by decide)⟩⟩
theorem main_1_1 : Claimed_1_1 := comes_1 fun _ _ _ _ _ _ h hF => ⟨h.1, hF⟩
theorem main_1_2 : Claimed_1_2 := comes_1 fun _ _ _ _ _ _ h hF => ⟨h.2.1, hF⟩
end Jvm.Pilot.@@N@@
namespace Jvm.Pilot.@@N@@
open Jvm Jvm.ClassFile Sem Op Lib Jvm.Free Jvm.Stand Jvm.Pilot.@@N@@.Jvm.D
/-! MADE BY PROGRAM (witnessworld.py) out of the Statement's table words and the real class files: 11 classes; the members and pool entries that the words name. The judged class is class 1, her method 1. -/
namespace start1
open Jvm.ClassFile
def u (s : String) : CpInfo := .utf8 (stringToUtf16 s)
/-- a pool by its gaps: so many unusable entries, then the entry; so many at the end -/
def gap : Nat → List CpInfo → List CpInfo
  | 0, r => r
  | n + 1, r => .unusable :: gap n r
def poolList (es : List (Nat × CpInfo)) (last : Nat) : List CpInfo := es.foldr (fun e r => gap e.1 (e.2 :: r)) (gap last [])
def pool (es : List (Nat × CpInfo)) (last : Nat) : Array CpInfo := ⟨poolList es last⟩
def fileOf (pool : Array CpInfo) (this : Nat) (attrs : Array Attribute := #[]) (ms : Array MethodInfo := #[]) (fl : Nat := 33) (sup : Nat := 0) (ifs : Array Nat := #[]) (fds : Array FieldInfo := #[]) : ClassFile where
  minorVersion := 0
  majorVersion := 65
  constantPool := pool
  accessFlags := fl
  thisClass := this
  superClass := sup
  interfaces := ifs
  fields := fds
  methods := ms
  attributes := attrs
def plain (name : String) (sup : Option ClassId) : Class where
  name := name
  kind := .ordinary
  loader := none
  accessFlags := 33
  super := sup
  interfaces := #[]
  cf := none
  fields := #[]
  methods := #[]
  instanceTypes := #[]
  staticTypes := #[]
  resolved := #[]
  callSites := []
  init := .initialized
  statics := none
  mirror := none

def pool0 : Array CpInfo := pool [(5, u "<init>"), (0, u "()V"), (1, .class_ 10), (1, u "java/lang/Object")] 113

def k0c0 : Code := { maxStack := 0, maxLocals := 1, code := object_method_1_code, exceptionTable := #[], attributes := #[] }
def k0m0 : Method := { name := "<init>", desc := "()V", sig := { parameters := [], returnType := none }, accessFlags := 1, code := some k0c0 }
/-- java/lang/Object -/
def k0 : Class := { plain "java/lang/Object" none with
  accessFlags := 33
  interfaces := #[]
  cf := some (fileOf pool0 8 #[] #[{ accessFlags := 1, nameIndex := 5, descriptorIndex := 6, attributes := #[] }] 33 0 #[] #[])
  fields := #[]
  methods := #[k0m0]
  instanceTypes := #[]
  staticTypes := #[]
  resolved := Array.replicate 124 none
  statics := none }

def pool1 : Array CpInfo := pool [(2, .class_ 4), (1, u "java/lang/Object"), (0, u "<init>"), (0, u "()V"), (0, .integer 1114111), (0, .integer 2147483647), (0, .long 2), (1, .class_ 12), (0, u "com/example/attest/attest/metadata/ScopeSyntax$Chars"), (0, .methodref 11 14), (0, .nameAndType 5 15), (0, u "([I)V"), (0, .methodref 11 17), (0, .nameAndType 18 19), (0, u "single"), (0, u "()Z"), (0, .class_ 21), (0, u "com/example/attest/attest/metadata/CharsSinglePinLaw"), (2, u "law"), (0, u "(IIII)Z")] 9

def k1m0 : Method := { name := "<init>", desc := "()V", sig := { parameters := [], returnType := none }, accessFlags := 2, code := none }
def k1c1 : Code := { maxStack := 6, maxLocals := 15, code := code, exceptionTable := #[], attributes := #[] }
def k1m1 : Method := { name := "law", desc := "(IIII)Z", sig := { parameters := [.int, .int, .int, .int], returnType := some .boolean }, accessFlags := 9, code := some k1c1 }
/-- com/example/attest/attest/metadata/CharsSinglePinLaw -/
def k1 : Class := { plain "com/example/attest/attest/metadata/CharsSinglePinLaw" (some 0) with
  accessFlags := 49
  interfaces := #[]
  cf := some (fileOf pool1 20 #[] #[{ accessFlags := 2, nameIndex := 5, descriptorIndex := 6, attributes := #[] }, { accessFlags := 9, nameIndex := 24, descriptorIndex := 25, attributes := #[] }] 49 2 #[] #[])
  fields := #[]
  methods := #[k1m0, k1m1]
  instanceTypes := #[]
  staticTypes := #[]
  resolved := Array.replicate 35 none
  statics := none }

def pool2 : Array CpInfo := pool [(1, .methodref 2 3), (0, .class_ 4), (0, .nameAndType 5 6), (0, u "java/lang/Object"), (0, u "<init>"), (0, u "()V"), (0, .class_ 8), (0, u "java/lang/Record")] 13

def k2c0 : Code := { maxStack := 1, maxLocals := 1, code := jdk_30_method_1_code, exceptionTable := #[], attributes := #[] }
def k2m0 : Method := { name := "<init>", desc := "()V", sig := { parameters := [], returnType := none }, accessFlags := 4, code := some k2c0 }
/-- java/lang/Record -/
def k2 : Class := { plain "java/lang/Record" (some 0) with
  accessFlags := 1057
  interfaces := #[]
  cf := some (fileOf pool2 7 #[] #[{ accessFlags := 4, nameIndex := 5, descriptorIndex := 6, attributes := #[] }] 1057 2 #[] #[])
  fields := #[]
  methods := #[k2m0]
  instanceTypes := #[]
  staticTypes := #[]
  resolved := Array.replicate 22 none
  statics := none }

def pool3 : Array CpInfo := pool [(1, .class_ 2), (0, u "com/example/attest/attest/metadata/ScopeSyntax$Node"), (0, .class_ 4), (0, u "java/lang/Object"), (3, .class_ 9), (0, u "com/example/attest/attest/metadata/ScopeSyntax")] 18

/-- com/example/attest/attest/metadata/ScopeSyntax$Node -/
def k3 : Class := { plain "com/example/attest/attest/metadata/ScopeSyntax$Node" (some 0) with
  accessFlags := 1536
  interfaces := #[]
  cf := some (fileOf pool3 1 #[.nestHost 8] #[] 1536 3 #[] #[])
  fields := #[]
  methods := #[]
  instanceTypes := #[]
  staticTypes := #[]
  resolved := Array.replicate 28 none
  statics := none }

def pool4 : Array CpInfo := pool [(1, .methodref 2 3), (0, .class_ 4), (0, .nameAndType 5 6), (0, u "java/lang/Record"), (0, u "<init>"), (0, u "()V"), (0, .fieldref 8 9), (0, .class_ 10), (0, .nameAndType 11 12), (0, u "com/example/attest/attest/metadata/ScopeSyntax$Chars"), (0, u "ranges"), (0, u "[I"), (2, u "([I)V"), (21, .class_ 38), (0, u "com/example/attest/attest/metadata/ScopeSyntax$Node"), (11, u "single"), (0, u "()Z"), (7, .class_ 60), (0, u "com/example/attest/attest/metadata/ScopeSyntax")] 19

def k4c0 : Code := { maxStack := 2, maxLocals := 2, code := prog_52_method_1_code, exceptionTable := #[], attributes := #[] }
def k4m0 : Method := { name := "<init>", desc := "([I)V", sig := { parameters := [(.array .int)], returnType := none }, accessFlags := 0, code := some k4c0 }
def k4c1 : Code := { maxStack := 3, maxLocals := 1, code := prog_52_method_5_code, exceptionTable := #[], attributes := #[] }
def k4m1 : Method := { name := "single", desc := "()Z", sig := { parameters := [], returnType := some .boolean }, accessFlags := 0, code := some k4c1 }
/-- com/example/attest/attest/metadata/ScopeSyntax$Chars -/
def k4 : Class := { plain "com/example/attest/attest/metadata/ScopeSyntax$Chars" (some 2) with
  accessFlags := 48
  interfaces := #[3]
  cf := some (fileOf pool4 8 #[.nestHost 59] #[{ accessFlags := 0, nameIndex := 5, descriptorIndex := 15, attributes := #[] }, { accessFlags := 0, nameIndex := 50, descriptorIndex := 51, attributes := #[] }] 48 2 #[37] #[{ accessFlags := 18, nameIndex := 11, descriptorIndex := 12, attributes := #[] }])
  fields := #[{ name := "ranges", type := (.array .int), accessFlags := 18, slot := 0, constantValue := 0 }]
  methods := #[k4m0, k4m1]
  instanceTypes := #[(.array .int)]
  staticTypes := #[]
  resolved := Array.replicate 80 none
  statics := none }

def pool5 : Array CpInfo := pool [(1, u "java/lang/Cloneable"), (0, .class_ 1), (0, u "java/lang/Object"), (0, .class_ 3)] 3

/-- java/lang/Cloneable -/
def k5 : Class := { plain "java/lang/Cloneable" (some 0) with
  accessFlags := 1537
  interfaces := #[]
  cf := some (fileOf pool5 2 #[] #[] 1537 4 #[] #[])
  fields := #[]
  methods := #[]
  instanceTypes := #[]
  staticTypes := #[]
  resolved := Array.replicate 8 none
  statics := none }

def pool6 : Array CpInfo := pool [(1, u "java/io/Serializable"), (0, .class_ 1), (0, u "java/lang/Object"), (0, .class_ 3)] 3

/-- java/io/Serializable -/
def k6 : Class := { plain "java/io/Serializable" (some 0) with
  accessFlags := 1537
  interfaces := #[]
  cf := some (fileOf pool6 2 #[] #[] 1537 4 #[] #[])
  fields := #[]
  methods := #[]
  instanceTypes := #[]
  staticTypes := #[]
  resolved := Array.replicate 8 none
  statics := none }

/-- the primitive byte -/
def k7 : Class := { plain "byte" none with kind := .primitive 'B', accessFlags := 0x411 }
/-- [B -/
def k8 : Class := { plain "[B" (some 0) with kind := .array 7 .byte, interfaces := #[5, 6], accessFlags := 1041 }

/-- the primitive int -/
def k9 : Class := { plain "int" none with kind := .primitive 'I', accessFlags := 0x411 }
/-- [I -/
def k10 : Class := { plain "[I" (some 0) with kind := .array 9 .int, interfaces := #[5, 6], accessFlags := 1041 }

def heap : Heap := #[]
def classes : Array Class := #[k0, k1, k2, k3, k4, k5, k6, k7, k8, k9, k10]
def interned : List (Array UInt16 × Addr) := []
def slotsUsed : Nat := 0
def theMethod : MethodId := ⟨1, 1⟩
def args0 : Array Value := #[.int 5, .int 6, .int 7, .int 8]
def aboutOver (below : List Frame) : State where
  vm := { classes := classes, interned := interned.toArray }
  heap := heap
  slotsUsed := slotsUsed
  threads := #[{ frames := .invoking theMethod args0 :: below }]
def below0 : List Frame := [.native { method := ⟨0, 0⟩, args := #[] }]
def about1 : State := aboutOver below0
def p0 : Program := .bare "" "" ""
def e0 : Env := launch0.env 0 0 0
theorem w_frames : about1.frames = Frame.invoking theMethod args0 :: below0 := rfl
set_option maxRecDepth 65536 in
theorem w_args : argsFit about1.vm theMethod args0 = true := by decide +kernel
set_option maxRecDepth 65536 in
theorem w_heap : heapFits about1 = true := by decide +kernel
set_option maxRecDepth 65536 in
theorem w_runnable : about1.curStatus? = some .runnable := by decide +kernel
set_option maxRecDepth 65536 in
theorem w_alone : about1.alone = true := by decide +kernel
set_option maxRecDepth 65536 in
theorem w_named : about1.methodNamed? x = some theMethod := by decide +kernel
set_option maxRecDepth 65536 in
theorem w_hears : about1.hears theMethod below0 = true := by decide +kernel
set_option maxRecDepth 65536 in
theorem w_ripe : about1.ripe theMethod args0 below0 = true := by decide +kernel
theorem w_running : about1.status = .running := rfl
set_option maxRecDepth 65536 in
theorem w_room : about1.hasRoom e0.platform room_1 = true :=
  launch0.hasRoom_least _ room_1 (by decide +kernel) (by decide +kernel) (by decide +kernel) (by decide +kernel) (by decide +kernel) (by decide +kernel)
theorem allAtoms_all (ts : List Jvm.Cond) (a : Array Jvm.Value) (st : Jvm.State) : (allAtoms ts).before a st = ts.all (fun c => c.before a st) := by
  induction ts with
  | nil => rfl
  | cons c t ih =>
    show (Jvm.Cond.and c (allAtoms t)).before a st = _
    rw [Jvm.Cond.before_and, ih, List.all_cons]
def words1 : List Jvm.Cond := Jvm.Cond.code x code maxLocals ret :: tables_1
/-- a 'code' word, met by the world's own term for the bytes: nothing is compared byte by byte -/
theorem code_word {y : MethodName} {bytes : ByteArray} {mx : Nat} {rt : Option FieldType} {a : Array Value} {s : State} {m : MethodId} {meth : Method} {c : Code} (h1 : s.methodNamed? y = some m) (h2 : s.vm.method? m = some meth) (h3 : meth.code = some c) (h4 : c.code = bytes)
    (h5 : (c.maxLocals == mx && c.exceptionTable.isEmpty && decide (c.maxStack ≤ mostOperands) && decide (meth.sig.returnType = rt) && !meth.locks && decide (parseMethodDescriptor y.desc = some meth.sig)) = true) : (Jvm.Cond.code y bytes mx rt).before a s = true := by
  simp only [Bool.and_eq_true, beq_iff_eq, Bool.not_eq_true', decide_eq_true_eq] at h5
  obtain ⟨⟨⟨⟨⟨g1, g2⟩, g3⟩, g4⟩, g5⟩, g6⟩ := h5
  simp [Cond.before, Cond.holds, Cond.value, h1, h2, h3, h4, g1, g2, g3, g4, g5, g6]
def isCode : Jvm.Cond → Bool
  | .code _ _ _ _ => true
  | _ => false
theorem all_split {L : List Jvm.Cond} {P : Jvm.Cond → Bool} (h1 : L.all (fun c => isCode c || P c) = true) (h2 : ∀ c ∈ L.filter isCode, P c = true) : L.all P = true := by
  refine List.all_eq_true.mpr fun c hc => ?_
  have h := List.all_eq_true.mp h1 c hc
  rcases Bool.eq_false_or_eq_true (isCode c) with hi | hi
  · exact h2 c (List.mem_filter.mpr ⟨hc, hi⟩)
  · simpa [hi] using h
set_option maxRecDepth 65536 in
theorem w_c0 : (Jvm.Cond.code x code maxLocals ret).before args0 about1 = true := code_word (m := ⟨1, 1⟩) (meth := k1m1) (c := k1c1) (by decide +kernel) rfl rfl rfl (by decide +kernel)
set_option maxRecDepth 65536 in
theorem w_c1 : (Jvm.Cond.code ({ cls := "com/example/attest/attest/metadata/ScopeSyntax$Chars", name := "<init>", desc := "([I)V" } : Jvm.MethodName) prog_52_method_1_code (2 : Nat) (Option.none : Option Jvm.ClassFile.FieldType)).before args0 about1 = true := code_word (m := ⟨4, 0⟩) (meth := k4m0) (c := k4c0) (by decide +kernel) rfl rfl rfl (by decide +kernel)
set_option maxRecDepth 65536 in
theorem w_c2 : (Jvm.Cond.code ({ cls := "java/lang/Record", name := "<init>", desc := "()V" } : Jvm.MethodName) jdk_30_method_1_code (1 : Nat) (Option.none : Option Jvm.ClassFile.FieldType)).before args0 about1 = true := code_word (m := ⟨2, 0⟩) (meth := k2m0) (c := k2c0) (by decide +kernel) rfl rfl rfl (by decide +kernel)
set_option maxRecDepth 65536 in
theorem w_c3 : (Jvm.Cond.code ({ cls := "java/lang/Object", name := "<init>", desc := "()V" } : Jvm.MethodName) object_method_1_code (1 : Nat) (Option.none : Option Jvm.ClassFile.FieldType)).before args0 about1 = true := code_word (m := ⟨0, 0⟩) (meth := k0m0) (c := k0c0) (by decide +kernel) rfl rfl rfl (by decide +kernel)
set_option maxRecDepth 65536 in
theorem w_c4 : (Jvm.Cond.code ({ cls := "com/example/attest/attest/metadata/ScopeSyntax$Chars", name := "single", desc := "()Z" } : Jvm.MethodName) prog_52_method_5_code (1 : Nat) (Option.some Jvm.ClassFile.FieldType.boolean)).before args0 about1 = true := code_word (m := ⟨4, 1⟩) (meth := k4m1) (c := k4c1) (by decide +kernel) rfl rfl rfl (by decide +kernel)
def codes1 : List Jvm.Cond := [Jvm.Cond.code x code maxLocals ret, Jvm.Cond.code ({ cls := "com/example/attest/attest/metadata/ScopeSyntax$Chars", name := "<init>", desc := "([I)V" } : Jvm.MethodName) prog_52_method_1_code (2 : Nat) (Option.none : Option Jvm.ClassFile.FieldType), Jvm.Cond.code ({ cls := "java/lang/Record", name := "<init>", desc := "()V" } : Jvm.MethodName) jdk_30_method_1_code (1 : Nat) (Option.none : Option Jvm.ClassFile.FieldType), Jvm.Cond.code ({ cls := "java/lang/Object", name := "<init>", desc := "()V" } : Jvm.MethodName) object_method_1_code (1 : Nat) (Option.none : Option Jvm.ClassFile.FieldType), Jvm.Cond.code ({ cls := "com/example/attest/attest/metadata/ScopeSyntax$Chars", name := "single", desc := "()Z" } : Jvm.MethodName) prog_52_method_5_code (1 : Nat) (Option.some Jvm.ClassFile.FieldType.boolean)]
set_option maxRecDepth 65536 in
theorem codes_eq : words1.filter isCode = codes1 := rfl
theorem w_codes : ∀ c ∈ words1.filter isCode, c.before args0 about1 = true := by
  rw [codes_eq]
  intro c hc
  simp only [codes1, List.mem_cons, List.not_mem_nil, or_false] at hc
  rcases hc with rfl | rfl | rfl | rfl | rfl
  · exact w_c0
  · exact w_c1
  · exact w_c2
  · exact w_c3
  · exact w_c4
set_option maxRecDepth 65536 in
theorem w_t1 : (words1.take 24).all (fun c => isCode c || c.before args0 about1) = true := by decide +kernel
set_option maxRecDepth 65536 in
theorem w_t2 : (words1.drop 24).all (fun c => isCode c || c.before args0 about1) = true := by decide +kernel
theorem w_tables : (allAtoms (Jvm.Cond.code x code maxLocals ret :: tables_1)).before args0 about1 = true := by
  rw [allAtoms_all]
  show words1.all (fun c => c.before args0 about1) = true
  refine all_split ?_ w_codes
  rw [← List.take_append_drop 24 words1, List.all_append, w_t1, w_t2]
  rfl
set_option maxRecDepth 65536 in
theorem w_case : (Jvm.Cond.and given_1 narrow_1).before args0 about1 = true := by decide +kernel
theorem w_applies : (headSpec (Jvm.Cond.code x code maxLocals ret :: tables_1) room_1).applies x e0.platform about1 = true :=
  (Spec.applies_iff w_frames).mpr ⟨w_running, w_runnable, w_alone, w_named, w_hears, w_ripe, w_room, w_tables⟩
theorem atStart : AtStart classFile x code maxLocals ret World_1 tables_1 room_1 Calls_1 rest_1 Pre_1 launch0 p0 e0 about1 theMethod args0 below0 :=
  ⟨lists_1, trivial, launch0.admits_env _ _ _, launch0.least_env, fairChoices_fair.cas, fairChoices_fair.clock, w_frames, w_args, w_heap, w_applies, trivial, trivial, w_case⟩
end start1
theorem witness_1 : WitnessClaimed_1 := ⟨start1.p0, start1.e0, start1.about1, start1.theMethod, start1.args0, start1.below0, start1.atStart⟩
end Jvm.Pilot.@@N@@
