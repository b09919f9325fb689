import JvmDerived
import JvmDerived.Pilot.@@N@@Statement
import JvmDerived.Pilot.@@N@@Code
set_option linter.unusedVariables false
set_option linter.unusedSimpArgs false
namespace Jvm.RoadKit
open Sem ClassFile Op Lib Jvm.Stand Jvm.Free Jvm.LawKit
abbrev vI (x : Int32) : Slot := .val (.int x)
abbrev vJ (x : Int64) : Slot := .val (.long x)
abbrev vR (a : Addr) : Slot := .val (.ref a)
/-- from S0 the run comes to T with g on top -/
def Go (tb : Tables) (e : Env) (below : List Frame) (S0 T : State) (g : JFrame) : Prop := ∀ t, Steps tb e below (T.setTop g) t → Steps tb e below S0 t
theorem Go.fin {tb : Tables} {e : Env} {below : List Frame} {S0 S T t : State} {g : JFrame} (h : Go tb e below S0 T g) (q : S0 = S) (k : Steps tb e below (T.setTop g) t) : Steps tb e below S t := q ▸ h t k
section New
variable {p : Program} {l : Launch} {e : Env} {R : Room} {s : State} {m : MethodId} {args : Array Value} {below : List Frame} {meth : Method} {c : Code} {T : State} {locs : List Loc} {cells slots : Nat}
theorem retI (X : Stand p l e R s m args below meth c T locs cells slots) (hx : p.tables.exec = Jvm.exec) {pc : Nat} {Ls : Array Slot} {z : Int32} {rest : List Value} (hret : meth.sig.returnType = some .int) (hd : decode c.code pc = .ok (.ireturn, 1)) {fs : List Frame}
    (hl : ∀ (f : JFrame) (acts : List Action), f.method = m → f.locked = none → f.entered = [] → (doReturn e (T.setTop f) acts (some (.int z))).1 = T.setFrames fs) : Steps p.tables e below (T.setTop (mkF m pc Ls (.int z :: rest))) (T.setFrames fs) := by
  have hm' : T.vm.method? m = some meth := X.method'
  have hn : narrow .int (.int z) = .int z := rfl
  show Steps p.tables e below (T.setTop { method := m, pc := pc, locals := Ls, stack := _ :: rest, locked := none }) _
  jvm_step X.here [X.here.top, hx, hd, hm', hret, hn]
  first | (intro acts; rw [hl _ acts rfl rfl rfl]) | rw [hl _ _ rfl rfl rfl]
  exact Steps.refl _
theorem retA (X : Stand p l e R s m args below meth c T locs cells slots) (hx : p.tables.exec = Jvm.exec) {pc : Nat} {Ls : Array Slot} {a : Addr} {rest : List Value} {t : FieldType} (hret : meth.sig.returnType = some (.array t)) (hd : decode c.code pc = .ok (.areturn, 1)) {fs : List Frame}
    (hl : ∀ (f : JFrame) (acts : List Action), f.method = m → f.locked = none → f.entered = [] → (doReturn e (T.setTop f) acts (some (.ref a))).1 = T.setFrames fs) : Steps p.tables e below (T.setTop (mkF m pc Ls (.ref a :: rest))) (T.setFrames fs) := by
  have hm' : T.vm.method? m = some meth := X.method'
  show Steps p.tables e below (T.setTop { method := m, pc := pc, locals := Ls, stack := _ :: rest, locked := none }) _
  jvm_step X.here [X.here.top, hx, hd, hm', hret, Value.isRef, FieldType.isReference]
  first | (intro acts; rw [hl _ acts rfl rfl rfl]) | rw [hl _ _ rfl rfl rfl]
  exact Steps.refl _
end New
end Jvm.RoadKit
namespace Jvm.Pilot.@@N@@
open Jvm Jvm.ClassFile Sem Op Lib Jvm.Free Jvm.Stand Jvm.LawKit Jvm.RoadKit Bundle Jvm.Pilot.@@N@@.Jvm.D
def own_min (p0 : Int32) (p1 : Int32) : Int32 := if p1 < p0 then (p1) else (p0)
theorem ef_4 (m : MethodId) (x0 : Int32) (x1 : Int32) : entryFrame m #[(.int x0), (.int x1)] 2 = mkF m 0 #[.val (.int x0), .val (.int x1)] [] := by first | (simp [entryFrame, mkF, argsToLocals, Value.category]; done) | rfl
theorem d4_0 : decode jdk_29_method_69_code 0 = .ok (.iload_n 0, 1) := by decide +kernel
theorem d4_1 : decode jdk_29_method_69_code 1 = .ok (.iload_n 1, 1) := by decide +kernel
theorem d4_2 : decode jdk_29_method_69_code 2 = .ok (.if_icmp .gt 7, 3) := by decide +kernel
theorem d4_5 : decode jdk_29_method_69_code 5 = .ok (.iload_n 0, 1) := by decide +kernel
theorem d4_6 : decode jdk_29_method_69_code 6 = .ok (.goto 4, 3) := by decide +kernel
theorem d4_9 : decode jdk_29_method_69_code 9 = .ok (.iload_n 1, 1) := by decide +kernel
theorem d4_10 : decode jdk_29_method_69_code 10 = .ok (.ireturn, 1) := by decide +kernel
def Q4 (Z : State) (p0 : Int32) (p1 : Int32) (h0 : Heap) (n0 : Nat) (v : Option Value) (h : Heap) (L : List Loc) : Prop := v = some (.int (own_min p0 p1)) ∧ Fr n0 L ∧ h = h0
set_option maxRecDepth 65536 in
set_option maxHeartbeats 40000000 in
theorem rm4 (l : Launch) (Z : State) (A0 : Array Value) (hw : ∀ d ∈ tables_1, d.before A0 Z = true) (ws : List Jvm.Cond) (p0 : Int32) (p1 : Int32)  (h0 : Heap) (n0 : Nat) (Z0 : n0 ≤ h0.size)  :
    MetFree l (⟨"java/lang/Math", "min", "(II)I"⟩ : MethodName) (head1 (Jvm.Cond.code (⟨"java/lang/Math", "min", "(II)I"⟩ : MethodName) jdk_29_method_69_code 2 (some .int) :: ws) ({ frames := 0, cells := 0, slots := 0, locals := 0 } : Room)) (fun a U => a = #[(.int p0), (.int p1)] ∧ Z.Warmed39 U.vm ∧ U.heap = h0) (fun _ _ _ _ _ => True) (fun _ U o U' => ∃ v L, o = .returned v ∧ Q4 Z p0 p1 h0 n0 v U'.heap L ∧ FrameEnd U o U' L ({ frames := 0, cells := 0, slots := 0, locals := 0 } : Room).cells ({ frames := 0, cells := 0, slots := 0, locals := 0 } : Room).slots) := by
  refine MetFree.of_bodySF (Jvm.Free.JP.mathPlain rfl (by decide +kernel)) hisR ?_
  intro p e s m args below meth c s₁ Bd hml0 hP hK
  obtain ⟨rfl, hZ, hh⟩ := hP
  have hx := Bd.exec
  have hby := Bd.bytes
  have hml : c.maxLocals = 2 := hml0
  have hown : s.vm.findClass "java/lang/Math" = some m.cls := findClass_of_methodNamed Bd.named
  have hnm := (name_of_methodNamed Bd.named Bd.method).1
  have X0 : Stand p l e ({ frames := 0, cells := 0, slots := 0, locals := 0 } : Room) s m #[(.int p0), (.int p1)] below meth c s₁ [] 0 0 := Stand.of_body Bd
  have e0 : s₁.heap = h0 := by rw [← hh, Bd.state]; rfl
  have N0 := Fr.nil n0
  obtain ⟨S0, hS0⟩ : ∃ z, z = s₁.setTop (entryFrame m #[(.int p0), (.int p1)] 2) := ⟨_, rfl⟩
  have pre0 : Go p.tables e below S0 s₁ (mkF m 0 #[vI p0, vI p1] []) := fun t k => by rw [hS0]; exact castTop (ef_4 m p0 p1) k
  have pre1 : Go p.tables e below S0 s₁ (mkF m 2 #[vI p0, vI p1] [(.int p1), (.int p0)]) := fun t k => pre0 t (by
    refine XS.iloadN X0.here hx rfl (hb hby d4_0) rfl ?_
    show Steps p.tables e below (s₁.setTop (mkF m 1 #[vI p0, vI p1] [(.int p0)])) _
    refine XS.iloadN X0.here hx rfl (hb hby d4_1) rfl ?_
    show Steps p.tables e below (s₁.setTop (mkF m 2 #[vI p0, vI p1] [(.int p1), (.int p0)])) _
    exact k)
  by_cases c2_2 : p1 < p0
  · skip
    have pre3 : Go p.tables e below S0 s₁ (mkF m 10 #[vI p0, vI p1] [(.int p1)]) := fun t k => pre1 t (by
      refine XS.icmpYes X0.here hx rfl (pc0 := 2) (pc' := 9) rfl (hb hby d4_2) rfl (tlt c2_2).2.2.1 (by decide) (by decide) ?_
      show Steps p.tables e below (s₁.setTop (mkF m 9 #[vI p0, vI p1] [])) _
      refine XS.iloadN X0.here hx rfl (hb hby d4_9) rfl ?_
      show Steps p.tables e below (s₁.setTop (mkF m 10 #[vI p0, vI p1] [(.int p1)])) _
      exact k)
    obtain ⟨fs, hr, hrun, hended, hW, hsame⟩ := X0.leave (v := some (.int p1)) (fun h => by rw [Bd.returns] at h; cases h)
    exact ⟨_, _, pre3.fin hS0 (retI X0 hx Bd.returns (hb hby d4_10) hr), hrun, hended, _, _, rfl, (by
      show Q4 Z p0 p1 h0 n0 _ s₁.heap _
      rw [e0]
      exact ⟨congrArg (fun z => some (Value.int z)) (by simp [own_min, c2_2]), N0, rfl⟩), ⟨_, rfl⟩, hW, hsame.mono (by decide) (by decide)⟩
  · skip
    have pre4 : Go p.tables e below S0 s₁ (mkF m 10 #[vI p0, vI p1] [(.int p0)]) := fun t k => pre1 t (by
      refine XS.icmpNo X0.here hx rfl (hb hby d4_2) rfl (flt c2_2).2.2.1 ?_
      show Steps p.tables e below (s₁.setTop (mkF m 5 #[vI p0, vI p1] [])) _
      refine XS.iloadN X0.here hx rfl (hb hby d4_5) rfl ?_
      show Steps p.tables e below (s₁.setTop (mkF m 6 #[vI p0, vI p1] [(.int p0)])) _
      refine XS.goto X0.here hx rfl (pc0 := 6) (pc' := 10) rfl (hb hby d4_6) (by decide) (by decide) ?_
      show Steps p.tables e below (s₁.setTop (mkF m 10 #[vI p0, vI p1] [(.int p0)])) _
      exact k)
    obtain ⟨fs, hr, hrun, hended, hW, hsame⟩ := X0.leave (v := some (.int p0)) (fun h => by rw [Bd.returns] at h; cases h)
    exact ⟨_, _, pre4.fin hS0 (retI X0 hx Bd.returns (hb hby d4_10) hr), hrun, hended, _, _, rfl, (by
      show Q4 Z p0 p1 h0 n0 _ s₁.heap _
      rw [e0]
      exact ⟨congrArg (fun z => some (Value.int z)) (by simp [own_min, c2_2]), N0, rfl⟩), ⟨_, rfl⟩, hW, hsame.mono (by decide) (by decide)⟩
def own_expect_37 (p0 : Int32) (p1 : Int32) (p2 : Int32) (p3 : Int32) (p4 : Int32) (p5 : Int32) (p6 : Int32) (p7 : Int32) (p8 : Int32) (p9 : Int32) : Int32 := if (2 : Int32) < p2 then (if (2 : Int32) < p3 then (p1) else (if p8 = p0 then (p9) else (p1))) else (p1)
def own_expect_18 (p0 : Int32) (p1 : Int32) (p2 : Int32) (p3 : Int32) (p4 : Int32) (p5 : Int32) (p6 : Int32) (p7 : Int32) (p8 : Int32) (p9 : Int32) : Int32 := if (1 : Int32) < p2 then (if (1 : Int32) < p3 then (own_expect_37 p0 p1 p2 p3 p4 p5 p6 p7 p8 p9) else (if p6 = p0 then (p7) else (own_expect_37 p0 p1 p2 p3 p4 p5 p6 p7 p8 p9))) else (own_expect_37 p0 p1 p2 p3 p4 p5 p6 p7 p8 p9)
def own_expect (p0 : Int32) (p1 : Int32) (p2 : Int32) (p3 : Int32) (p4 : Int32) (p5 : Int32) (p6 : Int32) (p7 : Int32) (p8 : Int32) (p9 : Int32) : Int32 := if (0 : Int32) < p2 then (if (0 : Int32) < p3 then (own_expect_18 p0 p1 p2 p3 p4 p5 p6 p7 p8 p9) else (if p4 = p0 then (p5) else (own_expect_18 p0 p1 p2 p3 p4 p5 p6 p7 p8 p9))) else (own_expect_18 p0 p1 p2 p3 p4 p5 p6 p7 p8 p9)
theorem ef_6 (m : MethodId) (x0 : Int32) (x1 : Int32) (x2 : Int32) (x3 : Int32) (x4 : Int32) (x5 : Int32) (x6 : Int32) (x7 : Int32) (x8 : Int32) (x9 : Int32) : entryFrame m #[(.int x0), (.int x1), (.int x2), (.int x3), (.int x4), (.int x5), (.int x6), (.int x7), (.int x8), (.int x9)] 10 = mkF m 0 #[.val (.int x0), .val (.int x1), .val (.int x2), .val (.int x3), .val (.int x4), .val (.int x5), .val (.int x6), .val (.int x7), .val (.int x8), .val (.int x9)] [] := by first | (simp [entryFrame, mkF, argsToLocals, Value.category]; done) | rfl
theorem pn_0 : plainName "com/example/motiflow/motiflow/UndoLogTakeBackPinLaw" = true := by first | (simp [plainName, overriddenIn]; done) | decide +kernel
theorem d6_0 : decode method_3_code 0 = .ok (.iconst 0, 1) := by decide +kernel
theorem d6_1 : decode method_3_code 1 = .ok (.iload_n 2, 1) := by decide +kernel
theorem d6_2 : decode method_3_code 2 = .ok (.if_icmp .ge 16, 3) := by decide +kernel
theorem d6_5 : decode method_3_code 5 = .ok (.iload_n 3, 1) := by decide +kernel
theorem d6_6 : decode method_3_code 6 = .ok (.ifCond .gt 12, 3) := by decide +kernel
theorem d6_9 : decode method_3_code 9 = .ok (.iload 4, 2) := by decide +kernel
theorem d6_11 : decode method_3_code 11 = .ok (.iload_n 0, 1) := by decide +kernel
theorem d6_12 : decode method_3_code 12 = .ok (.if_icmp .ne 6, 3) := by decide +kernel
theorem d6_15 : decode method_3_code 15 = .ok (.iload 5, 2) := by decide +kernel
theorem d6_17 : decode method_3_code 17 = .ok (.ireturn, 1) := by decide +kernel
theorem d6_18 : decode method_3_code 18 = .ok (.iconst 1, 1) := by decide +kernel
theorem d6_19 : decode method_3_code 19 = .ok (.iload_n 2, 1) := by decide +kernel
theorem d6_20 : decode method_3_code 20 = .ok (.if_icmp .ge 17, 3) := by decide +kernel
theorem d6_23 : decode method_3_code 23 = .ok (.iload_n 3, 1) := by decide +kernel
theorem d6_24 : decode method_3_code 24 = .ok (.iconst 1, 1) := by decide +kernel
theorem d6_25 : decode method_3_code 25 = .ok (.if_icmp .gt 12, 3) := by decide +kernel
theorem d6_28 : decode method_3_code 28 = .ok (.iload 6, 2) := by decide +kernel
theorem d6_30 : decode method_3_code 30 = .ok (.iload_n 0, 1) := by decide +kernel
theorem d6_31 : decode method_3_code 31 = .ok (.if_icmp .ne 6, 3) := by decide +kernel
theorem d6_34 : decode method_3_code 34 = .ok (.iload 7, 2) := by decide +kernel
theorem d6_36 : decode method_3_code 36 = .ok (.ireturn, 1) := by decide +kernel
theorem d6_37 : decode method_3_code 37 = .ok (.iconst 2, 1) := by decide +kernel
theorem d6_38 : decode method_3_code 38 = .ok (.iload_n 2, 1) := by decide +kernel
theorem d6_39 : decode method_3_code 39 = .ok (.if_icmp .ge 17, 3) := by decide +kernel
theorem d6_42 : decode method_3_code 42 = .ok (.iload_n 3, 1) := by decide +kernel
theorem d6_43 : decode method_3_code 43 = .ok (.iconst 2, 1) := by decide +kernel
theorem d6_44 : decode method_3_code 44 = .ok (.if_icmp .gt 12, 3) := by decide +kernel
theorem d6_47 : decode method_3_code 47 = .ok (.iload 8, 2) := by decide +kernel
theorem d6_49 : decode method_3_code 49 = .ok (.iload_n 0, 1) := by decide +kernel
theorem d6_50 : decode method_3_code 50 = .ok (.if_icmp .ne 6, 3) := by decide +kernel
theorem d6_53 : decode method_3_code 53 = .ok (.iload 9, 2) := by decide +kernel
theorem d6_55 : decode method_3_code 55 = .ok (.ireturn, 1) := by decide +kernel
theorem d6_56 : decode method_3_code 56 = .ok (.iload_n 1, 1) := by decide +kernel
theorem d6_57 : decode method_3_code 57 = .ok (.ireturn, 1) := by decide +kernel
def Q6 (Z : State) (p0 : Int32) (p1 : Int32) (p2 : Int32) (p3 : Int32) (p4 : Int32) (p5 : Int32) (p6 : Int32) (p7 : Int32) (p8 : Int32) (p9 : Int32) (h0 : Heap) (n0 : Nat) (v : Option Value) (h : Heap) (L : List Loc) : Prop := v = some (.int (own_expect p0 p1 p2 p3 p4 p5 p6 p7 p8 p9)) ∧ Fr n0 L ∧ h = h0
set_option maxRecDepth 65536 in
set_option maxHeartbeats 40000000 in
theorem rm6 (l : Launch) (Z : State) (A0 : Array Value) (hw : ∀ d ∈ tables_1, d.before A0 Z = true) (ws : List Jvm.Cond) (p0 : Int32) (p1 : Int32) (p2 : Int32) (p3 : Int32) (p4 : Int32) (p5 : Int32) (p6 : Int32) (p7 : Int32) (p8 : Int32) (p9 : Int32)  (h0 : Heap) (n0 : Nat) (Z0 : n0 ≤ h0.size)  :
    MetFree l (⟨"com/example/motiflow/motiflow/UndoLogTakeBackPinLaw", "expect", "(IIIIIIIIII)I"⟩ : MethodName) (head1 (Jvm.Cond.code (⟨"com/example/motiflow/motiflow/UndoLogTakeBackPinLaw", "expect", "(IIIIIIIIII)I"⟩ : MethodName) method_3_code 10 (some .int) :: ws) ({ frames := 0, cells := 0, slots := 0, locals := 0 } : Room)) (fun a U => a = #[(.int p0), (.int p1), (.int p2), (.int p3), (.int p4), (.int p5), (.int p6), (.int p7), (.int p8), (.int p9)] ∧ Z.Warmed39 U.vm ∧ U.heap = h0) (fun _ _ _ _ _ => True) (fun _ U o U' => ∃ v L, o = .returned v ∧ Q6 Z p0 p1 p2 p3 p4 p5 p6 p7 p8 p9 h0 n0 v U'.heap L ∧ FrameEnd U o U' L ({ frames := 0, cells := 0, slots := 0, locals := 0 } : Room).cells ({ frames := 0, cells := 0, slots := 0, locals := 0 } : Room).slots) := by
  refine MetFree.of_bodySF (plainFor_of_name pn_0) hisR ?_
  intro p e s m args below meth c s₁ Bd hml0 hP hK
  obtain ⟨rfl, hZ, hh⟩ := hP
  have hx := Bd.exec
  have hby := Bd.bytes
  have hml : c.maxLocals = 10 := hml0
  have hown : s.vm.findClass "com/example/motiflow/motiflow/UndoLogTakeBackPinLaw" = some m.cls := findClass_of_methodNamed Bd.named
  have hnm := (name_of_methodNamed Bd.named Bd.method).1
  have X0 : Stand p l e ({ frames := 0, cells := 0, slots := 0, locals := 0 } : Room) s m #[(.int p0), (.int p1), (.int p2), (.int p3), (.int p4), (.int p5), (.int p6), (.int p7), (.int p8), (.int p9)] below meth c s₁ [] 0 0 := Stand.of_body Bd
  have e0 : s₁.heap = h0 := by rw [← hh, Bd.state]; rfl
  have N0 := Fr.nil n0
  obtain ⟨S0, hS0⟩ : ∃ z, z = s₁.setTop (entryFrame m #[(.int p0), (.int p1), (.int p2), (.int p3), (.int p4), (.int p5), (.int p6), (.int p7), (.int p8), (.int p9)] 10) := ⟨_, rfl⟩
  have pre0 : Go p.tables e below S0 s₁ (mkF m 0 #[vI p0, vI p1, vI p2, vI p3, vI p4, vI p5, vI p6, vI p7, vI p8, vI p9] []) := fun t k => by rw [hS0]; exact castTop (ef_6 m p0 p1 p2 p3 p4 p5 p6 p7 p8 p9) k
  have pre1 : Go p.tables e below S0 s₁ (mkF m 2 #[vI p0, vI p1, vI p2, vI p3, vI p4, vI p5, vI p6, vI p7, vI p8, vI p9] [(.int p2), (.int (0 : Int32))]) := fun t k => pre0 t (by
    refine XS.iconst X0.here hx rfl (hb hby d6_0) ?_
    show Steps p.tables e below (s₁.setTop (mkF m 1 #[vI p0, vI p1, vI p2, vI p3, vI p4, vI p5, vI p6, vI p7, vI p8, vI p9] [(.int (0 : Int32))])) _
    refine XS.iloadN X0.here hx rfl (hb hby d6_1) rfl ?_
    show Steps p.tables e below (s₁.setTop (mkF m 2 #[vI p0, vI p1, vI p2, vI p3, vI p4, vI p5, vI p6, vI p7, vI p8, vI p9] [(.int p2), (.int (0 : Int32))])) _
    exact k)
  refine cps (A := (own_expect p0 p1 p2 p3 p4 p5 p6 p7 p8 p9 = own_expect_18 p0 p1 p2 p3 p4 p5 p6 p7 p8 p9) ∧ (Go p.tables e below S0 s₁ (mkF m 18 #[vI p0, vI p1, vI p2, vI p3, vI p4, vI p5, vI p6, vI p7, vI p8, vI p9] []))) (fun tail13 => ?_) ?_
  · skip
    by_cases c2_2 : (0 : Int32) < p2
    · skip
      have pre3 : Go p.tables e below S0 s₁ (mkF m 6 #[vI p0, vI p1, vI p2, vI p3, vI p4, vI p5, vI p6, vI p7, vI p8, vI p9] [(.int p3)]) := fun t k => pre1 t (by
        refine XS.icmpNo X0.here hx rfl (hb hby d6_2) rfl (tlt c2_2).2.1 ?_
        show Steps p.tables e below (s₁.setTop (mkF m 5 #[vI p0, vI p1, vI p2, vI p3, vI p4, vI p5, vI p6, vI p7, vI p8, vI p9] [])) _
        refine XS.iloadN X0.here hx rfl (hb hby d6_5) rfl ?_
        show Steps p.tables e below (s₁.setTop (mkF m 6 #[vI p0, vI p1, vI p2, vI p3, vI p4, vI p5, vI p6, vI p7, vI p8, vI p9] [(.int p3)])) _
        exact k)
      by_cases c6_4 : (0 : Int32) < p3
      · skip
        have pre5 : Go p.tables e below S0 s₁ (mkF m 18 #[vI p0, vI p1, vI p2, vI p3, vI p4, vI p5, vI p6, vI p7, vI p8, vI p9] []) := fun t k => pre3 t (by
          refine XS.ifYes X0.here hx rfl (pc0 := 6) (pc' := 18) rfl (hb hby d6_6) rfl ((if0 _ _).trans (tlt c6_4).2.2.1) (by decide) (by decide) ?_
          show Steps p.tables e below (s₁.setTop (mkF m 18 #[vI p0, vI p1, vI p2, vI p3, vI p4, vI p5, vI p6, vI p7, vI p8, vI p9] [])) _
          exact k)
        exact tail13 ⟨(by simp [own_expect, c2_2, c6_4]), pre5⟩
      · skip
        have pre6 : Go p.tables e below S0 s₁ (mkF m 12 #[vI p0, vI p1, vI p2, vI p3, vI p4, vI p5, vI p6, vI p7, vI p8, vI p9] [(.int p0), (.int p4)]) := fun t k => pre3 t (by
          refine XS.ifNo X0.here hx rfl (hb hby d6_6) rfl ((if0 _ _).trans (flt c6_4).2.2.1) ?_
          show Steps p.tables e below (s₁.setTop (mkF m 9 #[vI p0, vI p1, vI p2, vI p3, vI p4, vI p5, vI p6, vI p7, vI p8, vI p9] [])) _
          refine XS.iload X0.here hx rfl (hb hby d6_9) rfl ?_
          show Steps p.tables e below (s₁.setTop (mkF m 11 #[vI p0, vI p1, vI p2, vI p3, vI p4, vI p5, vI p6, vI p7, vI p8, vI p9] [(.int p4)])) _
          refine XS.iloadN X0.here hx rfl (hb hby d6_11) rfl ?_
          show Steps p.tables e below (s₁.setTop (mkF m 12 #[vI p0, vI p1, vI p2, vI p3, vI p4, vI p5, vI p6, vI p7, vI p8, vI p9] [(.int p0), (.int p4)])) _
          exact k)
        by_cases c12_7 : p4 = p0
        · skip
          have pre8 : Go p.tables e below S0 s₁ (mkF m 17 #[vI p0, vI p1, vI p2, vI p3, vI p4, vI p5, vI p6, vI p7, vI p8, vI p9] [(.int p5)]) := fun t k => pre6 t (by
            refine XS.icmpNo X0.here hx rfl (hb hby d6_12) rfl (teq c12_7).2 ?_
            show Steps p.tables e below (s₁.setTop (mkF m 15 #[vI p0, vI p1, vI p2, vI p3, vI p4, vI p5, vI p6, vI p7, vI p8, vI p9] [])) _
            refine XS.iload X0.here hx rfl (hb hby d6_15) rfl ?_
            show Steps p.tables e below (s₁.setTop (mkF m 17 #[vI p0, vI p1, vI p2, vI p3, vI p4, vI p5, vI p6, vI p7, vI p8, vI p9] [(.int p5)])) _
            exact k)
          obtain ⟨fs, hr, hrun, hended, hW, hsame⟩ := X0.leave (v := some (.int p5)) (fun h => by rw [Bd.returns] at h; cases h)
          exact ⟨_, _, pre8.fin hS0 (retI X0 hx Bd.returns (hb hby d6_17) hr), hrun, hended, _, _, rfl, (by
            show Q6 Z p0 p1 p2 p3 p4 p5 p6 p7 p8 p9 h0 n0 _ s₁.heap _
            rw [e0]
            exact ⟨congrArg (fun z => some (Value.int z)) (by simp [own_expect, c2_2, c6_4, c12_7]), N0, rfl⟩), ⟨_, rfl⟩, hW, hsame.mono (by decide) (by decide)⟩
        · skip
          have pre9 : Go p.tables e below S0 s₁ (mkF m 18 #[vI p0, vI p1, vI p2, vI p3, vI p4, vI p5, vI p6, vI p7, vI p8, vI p9] []) := fun t k => pre6 t (by
            refine XS.icmpYes X0.here hx rfl (pc0 := 12) (pc' := 18) rfl (hb hby d6_12) rfl (feq c12_7).2 (by decide) (by decide) ?_
            show Steps p.tables e below (s₁.setTop (mkF m 18 #[vI p0, vI p1, vI p2, vI p3, vI p4, vI p5, vI p6, vI p7, vI p8, vI p9] [])) _
            exact k)
          exact tail13 ⟨(by simp [own_expect, c2_2, c6_4, c12_7]), pre9⟩
    · skip
      have pre10 : Go p.tables e below S0 s₁ (mkF m 18 #[vI p0, vI p1, vI p2, vI p3, vI p4, vI p5, vI p6, vI p7, vI p8, vI p9] []) := fun t k => pre1 t (by
        refine XS.icmpYes X0.here hx rfl (pc0 := 2) (pc' := 18) rfl (hb hby d6_2) rfl (flt c2_2).2.1 (by decide) (by decide) ?_
        show Steps p.tables e below (s₁.setTop (mkF m 18 #[vI p0, vI p1, vI p2, vI p3, vI p4, vI p5, vI p6, vI p7, vI p8, vI p9] [])) _
        exact k)
      exact tail13 ⟨(by simp [own_expect, c2_2]), pre10⟩
  rintro ⟨hj18_11, pre12⟩
  have pre14 : Go p.tables e below S0 s₁ (mkF m 20 #[vI p0, vI p1, vI p2, vI p3, vI p4, vI p5, vI p6, vI p7, vI p8, vI p9] [(.int p2), (.int (1 : Int32))]) := fun t k => pre12 t (by
    refine XS.iconst X0.here hx rfl (hb hby d6_18) ?_
    show Steps p.tables e below (s₁.setTop (mkF m 19 #[vI p0, vI p1, vI p2, vI p3, vI p4, vI p5, vI p6, vI p7, vI p8, vI p9] [(.int (1 : Int32))])) _
    refine XS.iloadN X0.here hx rfl (hb hby d6_19) rfl ?_
    show Steps p.tables e below (s₁.setTop (mkF m 20 #[vI p0, vI p1, vI p2, vI p3, vI p4, vI p5, vI p6, vI p7, vI p8, vI p9] [(.int p2), (.int (1 : Int32))])) _
    exact k)
  refine cps (A := (own_expect p0 p1 p2 p3 p4 p5 p6 p7 p8 p9 = own_expect_37 p0 p1 p2 p3 p4 p5 p6 p7 p8 p9) ∧ (Go p.tables e below S0 s₁ (mkF m 37 #[vI p0, vI p1, vI p2, vI p3, vI p4, vI p5, vI p6, vI p7, vI p8, vI p9] []))) (fun tail26 => ?_) ?_
  · skip
    by_cases c20_15 : (1 : Int32) < p2
    · skip
      have pre16 : Go p.tables e below S0 s₁ (mkF m 25 #[vI p0, vI p1, vI p2, vI p3, vI p4, vI p5, vI p6, vI p7, vI p8, vI p9] [(.int (1 : Int32)), (.int p3)]) := fun t k => pre14 t (by
        refine XS.icmpNo X0.here hx rfl (hb hby d6_20) rfl (tlt c20_15).2.1 ?_
        show Steps p.tables e below (s₁.setTop (mkF m 23 #[vI p0, vI p1, vI p2, vI p3, vI p4, vI p5, vI p6, vI p7, vI p8, vI p9] [])) _
        refine XS.iloadN X0.here hx rfl (hb hby d6_23) rfl ?_
        show Steps p.tables e below (s₁.setTop (mkF m 24 #[vI p0, vI p1, vI p2, vI p3, vI p4, vI p5, vI p6, vI p7, vI p8, vI p9] [(.int p3)])) _
        refine XS.iconst X0.here hx rfl (hb hby d6_24) ?_
        show Steps p.tables e below (s₁.setTop (mkF m 25 #[vI p0, vI p1, vI p2, vI p3, vI p4, vI p5, vI p6, vI p7, vI p8, vI p9] [(.int (1 : Int32)), (.int p3)])) _
        exact k)
      by_cases c25_17 : (1 : Int32) < p3
      · skip
        have pre18 : Go p.tables e below S0 s₁ (mkF m 37 #[vI p0, vI p1, vI p2, vI p3, vI p4, vI p5, vI p6, vI p7, vI p8, vI p9] []) := fun t k => pre16 t (by
          refine XS.icmpYes X0.here hx rfl (pc0 := 25) (pc' := 37) rfl (hb hby d6_25) rfl (tlt c25_17).2.2.1 (by decide) (by decide) ?_
          show Steps p.tables e below (s₁.setTop (mkF m 37 #[vI p0, vI p1, vI p2, vI p3, vI p4, vI p5, vI p6, vI p7, vI p8, vI p9] [])) _
          exact k)
        exact tail26 ⟨(by rw [hj18_11]; simp [own_expect_18, c20_15, c25_17]), pre18⟩
      · skip
        have pre19 : Go p.tables e below S0 s₁ (mkF m 31 #[vI p0, vI p1, vI p2, vI p3, vI p4, vI p5, vI p6, vI p7, vI p8, vI p9] [(.int p0), (.int p6)]) := fun t k => pre16 t (by
          refine XS.icmpNo X0.here hx rfl (hb hby d6_25) rfl (flt c25_17).2.2.1 ?_
          show Steps p.tables e below (s₁.setTop (mkF m 28 #[vI p0, vI p1, vI p2, vI p3, vI p4, vI p5, vI p6, vI p7, vI p8, vI p9] [])) _
          refine XS.iload X0.here hx rfl (hb hby d6_28) rfl ?_
          show Steps p.tables e below (s₁.setTop (mkF m 30 #[vI p0, vI p1, vI p2, vI p3, vI p4, vI p5, vI p6, vI p7, vI p8, vI p9] [(.int p6)])) _
          refine XS.iloadN X0.here hx rfl (hb hby d6_30) rfl ?_
          show Steps p.tables e below (s₁.setTop (mkF m 31 #[vI p0, vI p1, vI p2, vI p3, vI p4, vI p5, vI p6, vI p7, vI p8, vI p9] [(.int p0), (.int p6)])) _
          exact k)
        by_cases c31_20 : p6 = p0
        · skip
          have pre21 : Go p.tables e below S0 s₁ (mkF m 36 #[vI p0, vI p1, vI p2, vI p3, vI p4, vI p5, vI p6, vI p7, vI p8, vI p9] [(.int p7)]) := fun t k => pre19 t (by
            refine XS.icmpNo X0.here hx rfl (hb hby d6_31) rfl (teq c31_20).2 ?_
            show Steps p.tables e below (s₁.setTop (mkF m 34 #[vI p0, vI p1, vI p2, vI p3, vI p4, vI p5, vI p6, vI p7, vI p8, vI p9] [])) _
            refine XS.iload X0.here hx rfl (hb hby d6_34) rfl ?_
            show Steps p.tables e below (s₁.setTop (mkF m 36 #[vI p0, vI p1, vI p2, vI p3, vI p4, vI p5, vI p6, vI p7, vI p8, vI p9] [(.int p7)])) _
            exact k)
          obtain ⟨fs, hr, hrun, hended, hW, hsame⟩ := X0.leave (v := some (.int p7)) (fun h => by rw [Bd.returns] at h; cases h)
          exact ⟨_, _, pre21.fin hS0 (retI X0 hx Bd.returns (hb hby d6_36) hr), hrun, hended, _, _, rfl, (by
            show Q6 Z p0 p1 p2 p3 p4 p5 p6 p7 p8 p9 h0 n0 _ s₁.heap _
            rw [e0]
            exact ⟨congrArg (fun z => some (Value.int z)) (by rw [hj18_11]; simp [own_expect_18, c20_15, c25_17, c31_20]), N0, rfl⟩), ⟨_, rfl⟩, hW, hsame.mono (by decide) (by decide)⟩
        · skip
          have pre22 : Go p.tables e below S0 s₁ (mkF m 37 #[vI p0, vI p1, vI p2, vI p3, vI p4, vI p5, vI p6, vI p7, vI p8, vI p9] []) := fun t k => pre19 t (by
            refine XS.icmpYes X0.here hx rfl (pc0 := 31) (pc' := 37) rfl (hb hby d6_31) rfl (feq c31_20).2 (by decide) (by decide) ?_
            show Steps p.tables e below (s₁.setTop (mkF m 37 #[vI p0, vI p1, vI p2, vI p3, vI p4, vI p5, vI p6, vI p7, vI p8, vI p9] [])) _
            exact k)
          exact tail26 ⟨(by rw [hj18_11]; simp [own_expect_18, c20_15, c25_17, c31_20]), pre22⟩
    · skip
      have pre23 : Go p.tables e below S0 s₁ (mkF m 37 #[vI p0, vI p1, vI p2, vI p3, vI p4, vI p5, vI p6, vI p7, vI p8, vI p9] []) := fun t k => pre14 t (by
        refine XS.icmpYes X0.here hx rfl (pc0 := 20) (pc' := 37) rfl (hb hby d6_20) rfl (flt c20_15).2.1 (by decide) (by decide) ?_
        show Steps p.tables e below (s₁.setTop (mkF m 37 #[vI p0, vI p1, vI p2, vI p3, vI p4, vI p5, vI p6, vI p7, vI p8, vI p9] [])) _
        exact k)
      exact tail26 ⟨(by rw [hj18_11]; simp [own_expect_18, c20_15]), pre23⟩
  rintro ⟨hj37_24, pre25⟩
  have pre27 : Go p.tables e below S0 s₁ (mkF m 39 #[vI p0, vI p1, vI p2, vI p3, vI p4, vI p5, vI p6, vI p7, vI p8, vI p9] [(.int p2), (.int (2 : Int32))]) := fun t k => pre25 t (by
    refine XS.iconst X0.here hx rfl (hb hby d6_37) ?_
    show Steps p.tables e below (s₁.setTop (mkF m 38 #[vI p0, vI p1, vI p2, vI p3, vI p4, vI p5, vI p6, vI p7, vI p8, vI p9] [(.int (2 : Int32))])) _
    refine XS.iloadN X0.here hx rfl (hb hby d6_38) rfl ?_
    show Steps p.tables e below (s₁.setTop (mkF m 39 #[vI p0, vI p1, vI p2, vI p3, vI p4, vI p5, vI p6, vI p7, vI p8, vI p9] [(.int p2), (.int (2 : Int32))])) _
    exact k)
  by_cases c39_28 : (2 : Int32) < p2
  · skip
    have pre29 : Go p.tables e below S0 s₁ (mkF m 44 #[vI p0, vI p1, vI p2, vI p3, vI p4, vI p5, vI p6, vI p7, vI p8, vI p9] [(.int (2 : Int32)), (.int p3)]) := fun t k => pre27 t (by
      refine XS.icmpNo X0.here hx rfl (hb hby d6_39) rfl (tlt c39_28).2.1 ?_
      show Steps p.tables e below (s₁.setTop (mkF m 42 #[vI p0, vI p1, vI p2, vI p3, vI p4, vI p5, vI p6, vI p7, vI p8, vI p9] [])) _
      refine XS.iloadN X0.here hx rfl (hb hby d6_42) rfl ?_
      show Steps p.tables e below (s₁.setTop (mkF m 43 #[vI p0, vI p1, vI p2, vI p3, vI p4, vI p5, vI p6, vI p7, vI p8, vI p9] [(.int p3)])) _
      refine XS.iconst X0.here hx rfl (hb hby d6_43) ?_
      show Steps p.tables e below (s₁.setTop (mkF m 44 #[vI p0, vI p1, vI p2, vI p3, vI p4, vI p5, vI p6, vI p7, vI p8, vI p9] [(.int (2 : Int32)), (.int p3)])) _
      exact k)
    by_cases c44_30 : (2 : Int32) < p3
    · skip
      have pre31 : Go p.tables e below S0 s₁ (mkF m 57 #[vI p0, vI p1, vI p2, vI p3, vI p4, vI p5, vI p6, vI p7, vI p8, vI p9] [(.int p1)]) := fun t k => pre29 t (by
        refine XS.icmpYes X0.here hx rfl (pc0 := 44) (pc' := 56) rfl (hb hby d6_44) rfl (tlt c44_30).2.2.1 (by decide) (by decide) ?_
        show Steps p.tables e below (s₁.setTop (mkF m 56 #[vI p0, vI p1, vI p2, vI p3, vI p4, vI p5, vI p6, vI p7, vI p8, vI p9] [])) _
        refine XS.iloadN X0.here hx rfl (hb hby d6_56) rfl ?_
        show Steps p.tables e below (s₁.setTop (mkF m 57 #[vI p0, vI p1, vI p2, vI p3, vI p4, vI p5, vI p6, vI p7, vI p8, vI p9] [(.int p1)])) _
        exact k)
      obtain ⟨fs, hr, hrun, hended, hW, hsame⟩ := X0.leave (v := some (.int p1)) (fun h => by rw [Bd.returns] at h; cases h)
      exact ⟨_, _, pre31.fin hS0 (retI X0 hx Bd.returns (hb hby d6_57) hr), hrun, hended, _, _, rfl, (by
        show Q6 Z p0 p1 p2 p3 p4 p5 p6 p7 p8 p9 h0 n0 _ s₁.heap _
        rw [e0]
        exact ⟨congrArg (fun z => some (Value.int z)) (by rw [hj37_24]; simp [own_expect_37, c39_28, c44_30]), N0, rfl⟩), ⟨_, rfl⟩, hW, hsame.mono (by decide) (by decide)⟩
    · skip
      have pre32 : Go p.tables e below S0 s₁ (mkF m 50 #[vI p0, vI p1, vI p2, vI p3, vI p4, vI p5, vI p6, vI p7, vI p8, vI p9] [(.int p0), (.int p8)]) := fun t k => pre29 t (by
        refine XS.icmpNo X0.here hx rfl (hb hby d6_44) rfl (flt c44_30).2.2.1 ?_
        show Steps p.tables e below (s₁.setTop (mkF m 47 #[vI p0, vI p1, vI p2, vI p3, vI p4, vI p5, vI p6, vI p7, vI p8, vI p9] [])) _
        refine XS.iload X0.here hx rfl (hb hby d6_47) rfl ?_
        show Steps p.tables e below (s₁.setTop (mkF m 49 #[vI p0, vI p1, vI p2, vI p3, vI p4, vI p5, vI p6, vI p7, vI p8, vI p9] [(.int p8)])) _
        refine XS.iloadN X0.here hx rfl (hb hby d6_49) rfl ?_
        show Steps p.tables e below (s₁.setTop (mkF m 50 #[vI p0, vI p1, vI p2, vI p3, vI p4, vI p5, vI p6, vI p7, vI p8, vI p9] [(.int p0), (.int p8)])) _
        exact k)
      by_cases c50_33 : p8 = p0
      · skip
        have pre34 : Go p.tables e below S0 s₁ (mkF m 55 #[vI p0, vI p1, vI p2, vI p3, vI p4, vI p5, vI p6, vI p7, vI p8, vI p9] [(.int p9)]) := fun t k => pre32 t (by
          refine XS.icmpNo X0.here hx rfl (hb hby d6_50) rfl (teq c50_33).2 ?_
          show Steps p.tables e below (s₁.setTop (mkF m 53 #[vI p0, vI p1, vI p2, vI p3, vI p4, vI p5, vI p6, vI p7, vI p8, vI p9] [])) _
          refine XS.iload X0.here hx rfl (hb hby d6_53) rfl ?_
          show Steps p.tables e below (s₁.setTop (mkF m 55 #[vI p0, vI p1, vI p2, vI p3, vI p4, vI p5, vI p6, vI p7, vI p8, vI p9] [(.int p9)])) _
          exact k)
        obtain ⟨fs, hr, hrun, hended, hW, hsame⟩ := X0.leave (v := some (.int p9)) (fun h => by rw [Bd.returns] at h; cases h)
        exact ⟨_, _, pre34.fin hS0 (retI X0 hx Bd.returns (hb hby d6_55) hr), hrun, hended, _, _, rfl, (by
          show Q6 Z p0 p1 p2 p3 p4 p5 p6 p7 p8 p9 h0 n0 _ s₁.heap _
          rw [e0]
          exact ⟨congrArg (fun z => some (Value.int z)) (by rw [hj37_24]; simp [own_expect_37, c39_28, c44_30, c50_33]), N0, rfl⟩), ⟨_, rfl⟩, hW, hsame.mono (by decide) (by decide)⟩
      · skip
        have pre35 : Go p.tables e below S0 s₁ (mkF m 57 #[vI p0, vI p1, vI p2, vI p3, vI p4, vI p5, vI p6, vI p7, vI p8, vI p9] [(.int p1)]) := fun t k => pre32 t (by
          refine XS.icmpYes X0.here hx rfl (pc0 := 50) (pc' := 56) rfl (hb hby d6_50) rfl (feq c50_33).2 (by decide) (by decide) ?_
          show Steps p.tables e below (s₁.setTop (mkF m 56 #[vI p0, vI p1, vI p2, vI p3, vI p4, vI p5, vI p6, vI p7, vI p8, vI p9] [])) _
          refine XS.iloadN X0.here hx rfl (hb hby d6_56) rfl ?_
          show Steps p.tables e below (s₁.setTop (mkF m 57 #[vI p0, vI p1, vI p2, vI p3, vI p4, vI p5, vI p6, vI p7, vI p8, vI p9] [(.int p1)])) _
          exact k)
        obtain ⟨fs, hr, hrun, hended, hW, hsame⟩ := X0.leave (v := some (.int p1)) (fun h => by rw [Bd.returns] at h; cases h)
        exact ⟨_, _, pre35.fin hS0 (retI X0 hx Bd.returns (hb hby d6_57) hr), hrun, hended, _, _, rfl, (by
          show Q6 Z p0 p1 p2 p3 p4 p5 p6 p7 p8 p9 h0 n0 _ s₁.heap _
          rw [e0]
          exact ⟨congrArg (fun z => some (Value.int z)) (by rw [hj37_24]; simp [own_expect_37, c39_28, c44_30, c50_33]), N0, rfl⟩), ⟨_, rfl⟩, hW, hsame.mono (by decide) (by decide)⟩
  · skip
    have pre36 : Go p.tables e below S0 s₁ (mkF m 57 #[vI p0, vI p1, vI p2, vI p3, vI p4, vI p5, vI p6, vI p7, vI p8, vI p9] [(.int p1)]) := fun t k => pre27 t (by
      refine XS.icmpYes X0.here hx rfl (pc0 := 39) (pc' := 56) rfl (hb hby d6_39) rfl (flt c39_28).2.1 (by decide) (by decide) ?_
      show Steps p.tables e below (s₁.setTop (mkF m 56 #[vI p0, vI p1, vI p2, vI p3, vI p4, vI p5, vI p6, vI p7, vI p8, vI p9] [])) _
      refine XS.iloadN X0.here hx rfl (hb hby d6_56) rfl ?_
      show Steps p.tables e below (s₁.setTop (mkF m 57 #[vI p0, vI p1, vI p2, vI p3, vI p4, vI p5, vI p6, vI p7, vI p8, vI p9] [(.int p1)])) _
      exact k)
    obtain ⟨fs, hr, hrun, hended, hW, hsame⟩ := X0.leave (v := some (.int p1)) (fun h => by rw [Bd.returns] at h; cases h)
    exact ⟨_, _, pre36.fin hS0 (retI X0 hx Bd.returns (hb hby d6_57) hr), hrun, hended, _, _, rfl, (by
      show Q6 Z p0 p1 p2 p3 p4 p5 p6 p7 p8 p9 h0 n0 _ s₁.heap _
      rw [e0]
      exact ⟨congrArg (fun z => some (Value.int z)) (by rw [hj37_24]; simp [own_expect_37, c39_28]), N0, rfl⟩), ⟨_, rfl⟩, hW, hsame.mono (by decide) (by decide)⟩
theorem ef_5 (m : MethodId) (x0 : Addr) : entryFrame m #[(.ref x0)] 1 = mkF m 0 #[.val (.ref x0)] [] := by first | (simp [entryFrame, mkF, argsToLocals, Value.category]; done) | rfl
theorem pn_1 : plainName "com/example/motiflow/motiflow/UndoLog" = true := by first | (simp [plainName, overriddenIn]; done) | decide +kernel
theorem d5_0 : decode prog_138_method_3_code 0 = .ok (.aload_n 0, 1) := by decide +kernel
theorem d5_1 : decode prog_138_method_3_code 1 = .ok (.getfield 16, 3) := by decide +kernel
theorem d5_4 : decode prog_138_method_3_code 4 = .ok (.ireturn, 1) := by decide +kernel
def Q5 (Z : State) (a0 : Addr) (w : Int32) (h0 : Heap) (n0 : Nat) (v : Option Value) (h : Heap) (L : List Loc) : Prop := v = some (.int w) ∧ Fr n0 L ∧ h = h0
set_option maxRecDepth 65536 in
set_option maxHeartbeats 40000000 in
theorem rm5 (l : Launch) (Z : State) (A0 : Array Value) (hw : ∀ d ∈ tables_1, d.before A0 Z = true) (ws : List Jvm.Cond) (a0 : Addr) (w : Int32) (h0 : Heap) (n0 : Nat) (Z0 : n0 ≤ h0.size) (F0 : Fld Z h0 a0 "com/example/motiflow/motiflow/UndoLog" "size" "I" (.int w)) :
    MetFree l (⟨"com/example/motiflow/motiflow/UndoLog", "size", "()I"⟩ : MethodName) (head1 (Jvm.Cond.code (⟨"com/example/motiflow/motiflow/UndoLog", "size", "()I"⟩ : MethodName) prog_138_method_3_code 1 (some .int) :: ws) ({ frames := 0, cells := 0, slots := 0, locals := 0 } : Room)) (fun a U => a = #[(.ref a0)] ∧ Z.Warmed39 U.vm ∧ U.heap = h0) (fun _ _ _ _ _ => True) (fun _ U o U' => ∃ v L, o = .returned v ∧ Q5 Z a0 w h0 n0 v U'.heap L ∧ FrameEnd U o U' L ({ frames := 0, cells := 0, slots := 0, locals := 0 } : Room).cells ({ frames := 0, cells := 0, slots := 0, locals := 0 } : Room).slots) := by
  refine MetFree.of_bodySF (plainFor_of_name pn_1) hisR ?_
  intro p e s m args below meth c s₁ Bd hml0 hP hK
  obtain ⟨rfl, hZ, hh⟩ := hP
  have hx := Bd.exec
  have hby := Bd.bytes
  have hml : c.maxLocals = 1 := hml0
  have hown : s.vm.findClass "com/example/motiflow/motiflow/UndoLog" = some m.cls := findClass_of_methodNamed Bd.named
  have hnm := (name_of_methodNamed Bd.named Bd.method).1
  have X0 : Stand p l e ({ frames := 0, cells := 0, slots := 0, locals := 0 } : Room) s m #[(.ref a0)] below meth c s₁ [] 0 0 := Stand.of_body Bd
  have e0 : s₁.heap = h0 := by rw [← hh, Bd.state]; rfl
  have N0 := Fr.nil n0
  obtain ⟨S0, hS0⟩ : ∃ z, z = s₁.setTop (entryFrame m #[(.ref a0)] 1) := ⟨_, rfl⟩
  have pre0 : Go p.tables e below S0 s₁ (mkF m 0 #[vR a0] []) := fun t k => by rw [hS0]; exact castTop (ef_5 m a0) k
  have pre1 : Go p.tables e below S0 s₁ (mkF m 1 #[vR a0] [(.ref a0)]) := fun t k => pre0 t (by
    refine XS.aloadN X0.here hx rfl (hb hby d5_0) rfl rfl ?_
    show Steps p.tables e below (s₁.setTop (mkF m 1 #[vR a0] [(.ref a0)])) _
    exact k)
  obtain ⟨T2, X2, e2, st2⟩ := getF X0 hx hZ hown (host := "") (Or.inl (hw _ (List.mem_of_getElem? (i := 19) rfl))) Via.refl e0 F0 (g := (mkF m 1 #[vR a0] [(.ref a0)])) rfl rfl (hb hby d5_1)
  have pre2 : Go p.tables e below S0 T2 (mkF m 4 #[vR a0] [(.int w)]) := fun t k => pre1 t (st2 t k)
  obtain ⟨fs, hr, hrun, hended, hW, hsame⟩ := X2.leave (v := some (.int w)) (fun h => by rw [Bd.returns] at h; cases h)
  exact ⟨_, _, pre2.fin hS0 (retI X2 hx Bd.returns (hb hby d5_4) hr), hrun, hended, _, _, rfl, (by
    show Q5 Z a0 w h0 n0 _ T2.heap _
    rw [e2]
    exact ⟨rfl, N0, rfl⟩), ⟨_, rfl⟩, hW, hsame.mono (by decide) (by decide)⟩
theorem ef_1 (m : MethodId) (x0 : Addr) : entryFrame m #[(.ref x0)] 1 = mkF m 0 #[.val (.ref x0)] [] := by first | (simp [entryFrame, mkF, argsToLocals, Value.category]; done) | rfl
theorem d1_0 : decode prog_138_method_1_code 0 = .ok (.aload_n 0, 1) := by decide +kernel
theorem d1_1 : decode prog_138_method_1_code 1 = .ok (.invokespecial 1, 3) := by decide +kernel
theorem d1_4 : decode prog_138_method_1_code 4 = .ok (.aload_n 0, 1) := by decide +kernel
theorem d1_5 : decode prog_138_method_1_code 5 = .ok (.bipush 16, 2) := by decide +kernel
theorem d1_7 : decode prog_138_method_1_code 7 = .ok (.newarray .int, 2) := by decide +kernel
theorem d1_9 : decode prog_138_method_1_code 9 = .ok (.putfield 7, 3) := by decide +kernel
theorem d1_12 : decode prog_138_method_1_code 12 = .ok (.aload_n 0, 1) := by decide +kernel
theorem d1_13 : decode prog_138_method_1_code 13 = .ok (.bipush 16, 2) := by decide +kernel
theorem d1_15 : decode prog_138_method_1_code 15 = .ok (.newarray .int, 2) := by decide +kernel
theorem d1_17 : decode prog_138_method_1_code 17 = .ok (.putfield 13, 3) := by decide +kernel
theorem d1_20 : decode prog_138_method_1_code 20 = .ok (.return_, 1) := by decide +kernel
def Q1 (Z : State) (a0 : Addr) (h0 : Heap) (n0 : Nat) (v : Option Value) (h : Heap) (L : List Loc) : Prop := v = none ∧ Fr n0 L ∧ ∃ (b1 b2 : Addr) (k1 k2 : ClassId), (h0.size ≤ b1 ∧ h0.size ≤ b2 ∧ b1 ≠ b2) ∧ Keep h0 h [a0] ∧ (Exa Z h a0 "com/example/motiflow/motiflow/UndoLog") ∧ (Fld Z h a0 "com/example/motiflow/motiflow/UndoLog" "places" "[I" (.ref b1)) ∧ (Fld Z h a0 "com/example/motiflow/motiflow/UndoLog" "values" "[I" (.ref b2)) ∧ (Fld Z h a0 "com/example/motiflow/motiflow/UndoLog" "size" "I" (.int (0 : Int32))) ∧ (Arv Z h b1 k1 .int (16 : Int32) [(.int (0 : Int32)), (.int (0 : Int32)), (.int (0 : Int32)), (.int (0 : Int32)), (.int (0 : Int32)), (.int (0 : Int32)), (.int (0 : Int32)), (.int (0 : Int32)), (.int (0 : Int32)), (.int (0 : Int32)), (.int (0 : Int32)), (.int (0 : Int32)), (.int (0 : Int32)), (.int (0 : Int32)), (.int (0 : Int32)), (.int (0 : Int32))] (.int (0 : Int32))) ∧ (Arv Z h b2 k2 .int (16 : Int32) [(.int (0 : Int32)), (.int (0 : Int32)), (.int (0 : Int32)), (.int (0 : Int32)), (.int (0 : Int32)), (.int (0 : Int32)), (.int (0 : Int32)), (.int (0 : Int32)), (.int (0 : Int32)), (.int (0 : Int32)), (.int (0 : Int32)), (.int (0 : Int32)), (.int (0 : Int32)), (.int (0 : Int32)), (.int (0 : Int32)), (.int (0 : Int32))] (.int (0 : Int32)))
set_option maxRecDepth 65536 in
set_option maxHeartbeats 40000000 in
theorem rm1 (l : Launch) (Z : State) (A0 : Array Value) (hw : ∀ d ∈ tables_1, d.before A0 Z = true) (ws : List Jvm.Cond) (a0 : Addr)  (h0 : Heap) (n0 : Nat) (Z0 : n0 ≤ h0.size) (E0 : Exa Z h0 a0 "com/example/motiflow/motiflow/UndoLog") (F_p : Fld Z h0 a0 "com/example/motiflow/motiflow/UndoLog" "places" "[I" .null) (F_v : Fld Z h0 a0 "com/example/motiflow/motiflow/UndoLog" "values" "[I" .null) (F_s : Fld Z h0 a0 "com/example/motiflow/motiflow/UndoLog" "size" "I" (.int (0 : Int32))) (g0 : n0 ≤ a0) :
    MetFree l (⟨"com/example/motiflow/motiflow/UndoLog", "<init>", "()V"⟩ : MethodName) (head1 (Jvm.Cond.code (⟨"com/example/motiflow/motiflow/UndoLog", "<init>", "()V"⟩ : MethodName) prog_138_method_1_code 1 none :: ws) ({ frames := 1, cells := 2, slots := 32, locals := 12 } : Room)) (fun a U => a = #[(.ref a0)] ∧ Z.Warmed39 U.vm ∧ U.heap = h0) (fun _ _ _ _ _ => True) (fun _ U o U' => ∃ v L, o = .returned v ∧ Q1 Z a0 h0 n0 v U'.heap L ∧ FrameEnd U o U' L ({ frames := 1, cells := 2, slots := 32, locals := 12 } : Room).cells ({ frames := 1, cells := 2, slots := 32, locals := 12 } : Room).slots) := by
  refine MetFree.of_bodySF (plainFor_of_name pn_1) hisR ?_
  intro p e s m args below meth c s₁ Bd hml0 hP hK
  obtain ⟨rfl, hZ, hh⟩ := hP
  have hx := Bd.exec
  have hby := Bd.bytes
  have hml : c.maxLocals = 1 := hml0
  have hown : s.vm.findClass "com/example/motiflow/motiflow/UndoLog" = some m.cls := findClass_of_methodNamed Bd.named
  have hnm := (name_of_methodNamed Bd.named Bd.method).1
  have X0 : Stand p l e ({ frames := 1, cells := 2, slots := 32, locals := 12 } : Room) s m #[(.ref a0)] below meth c s₁ [] 0 0 := Stand.of_body Bd
  have e0 : s₁.heap = h0 := by rw [← hh, Bd.state]; rfl
  have N0 := Fr.nil n0
  have kp0 : Keep h0 h0 [a0] := Keep.refl _ _
  obtain ⟨S0, hS0⟩ : ∃ z, z = s₁.setTop (entryFrame m #[(.ref a0)] 1) := ⟨_, rfl⟩
  have pre0 : Go p.tables e below S0 s₁ (mkF m 0 #[vR a0] []) := fun t k => by rw [hS0]; exact castTop (ef_1 m a0) k
  have pre1 : Go p.tables e below S0 s₁ (mkF m 1 #[vR a0] [(.ref a0)]) := fun t k => pre0 t (by
    refine XS.aloadN X0.here hx rfl (hb hby d1_0) rfl rfl ?_
    show Steps p.tables e below (s₁.setTop (mkF m 1 #[vR a0] [(.ref a0)])) _
    exact k)
  obtain ⟨T2, X2, e2, st2⟩ := initO X0 hx hZ hown (hw _ (List.mem_of_getElem? (i := 7) rfl)) (hw _ (List.mem_of_getElem? (i := 8) rfl)) (hw _ (List.mem_of_getElem? (i := 9) rfl)) e0 (g := (mkF m 1 #[vR a0] [(.ref a0)])) rfl (by rw [hml]; rfl) rfl (hb hby d1_1) (by decide) (W := 0) (by show 2 * 0 + _ ≤ _; exact Nat.le_of_eq rfl) (by decide)
  have pre2 : Go p.tables e below S0 T2 (mkF m 4 #[vR a0] []) := fun t k => pre1 t (st2 t k)
  have pre3 : Go p.tables e below S0 T2 (mkF m 7 #[vR a0] [(.int (16 : Int32)), (.ref a0)]) := fun t k => pre2 t (by
    refine XS.aloadN X2.here hx rfl (hb hby d1_4) rfl rfl ?_
    show Steps p.tables e below (T2.setTop (mkF m 5 #[vR a0] [(.ref a0)])) _
    refine XS.bipush X2.here hx rfl (hb hby d1_5) ?_
    show Steps p.tables e below (T2.setTop (mkF m 7 #[vR a0] [(.int (16 : Int32)), (.ref a0)])) _
    exact k)
  obtain ⟨T4, h4, kA4, X4, e4, E4, A4, st4⟩ := newP X2 hx hZ (hw _ (List.mem_of_getElem? (i := 0) rfl)) e2 (g := (mkF m 7 #[vR a0] [(.int (16 : Int32)), (.ref a0)])) rfl (hb hby d1_7) rfl (by decide) (cap := 16) (by decide) (by decide) (by decide) (by decide)
  obtain ⟨b4, g4⟩ : ∃ z, z = h0.size := ⟨_, rfl⟩
  rw [← g4] at A4 st4
  have pre4 : Go p.tables e below S0 T4 (mkF m 9 #[vR a0] [(.ref b4), (.ref a0)]) := fun t k => pre3 t (st4 t k)
  have ne5 : a0 ≠ b4 := Nat.ne_of_lt (Nat.lt_of_lt_of_le E0.lt (Nat.le_of_eq g4.symm))
  have bo4 : n0 ≤ b4 := Nat.le_trans Z0 (Nat.le_of_eq g4.symm)
  have ol4 : h0.size ≤ b4 := Nat.le_trans kp0.1 (Nat.le_of_eq g4.symm)
  have f6_1 := Exa.ext E4 E0
  have f6_2 := Fld.ext E4 F_p
  have f6_3 := Fld.ext E4 F_v
  have f6_4 := Fld.ext E4 F_s
  have zz7 : n0 ≤ h4.size := Nat.le_trans Z0 E4.1
  have kp8 : Keep h0 h4 [a0] := kp0.ext E4
  have av4 : Arv Z h4 b4 kA4 .int (16 : Int32) [(.int (0 : Int32)), (.int (0 : Int32)), (.int (0 : Int32)), (.int (0 : Int32)), (.int (0 : Int32)), (.int (0 : Int32)), (.int (0 : Int32)), (.int (0 : Int32)), (.int (0 : Int32)), (.int (0 : Int32)), (.int (0 : Int32)), (.int (0 : Int32)), (.int (0 : Int32)), (.int (0 : Int32)), (.int (0 : Int32)), (.int (0 : Int32))] (.int (0 : Int32)) := (Arv.new A4 (by decide)).pad (pad_rep [] (.int (0 : Int32)) 16)
  obtain ⟨T9, h9, X9, e9, W9, st9⟩ := putF X4 hx hZ hown (host := "") (Or.inl (hw _ (List.mem_of_getElem? (i := 10) rfl))) Via.refl e4 f6_2 f6_1 (Or.inl (hw _ (List.mem_of_getElem? (i := 11) rfl))) (hw _ (List.mem_of_getElem? (i := 2) rfl)) (ty := (.array .int)) (by decide) rfl rfl (g := (mkF m 9 #[vR a0] [(.ref b4), (.ref a0)])) rfl rfl (hb hby d1_9)
  have pre9 : Go p.tables e below S0 T9 (mkF m 12 #[vR a0] []) := fun t k => pre4 t (st9 t k)
  have N9 := Fr.snoc X9 N0 g0
  have fw9 : Fld Z h9 a0 "com/example/motiflow/motiflow/UndoLog" "places" "[I" (.ref b4) := Fld.same W9 f6_2
  have f10_1 := Exa.wr W9 f6_1
  have f10_2 := Fld.other W9 f6_3 (Or.inr (slot_ne (Or.inl (hw _ (List.mem_of_getElem? (i := 13) rfl))) (Or.inl (hw _ (List.mem_of_getElem? (i := 11) rfl))) (by decide) (t := (.array .int)) (t' := (.array .int)) (by decide) (by decide)))
  have f10_3 := Fld.other W9 f6_4 (Or.inr (slot_ne (Or.inl (hw _ (List.mem_of_getElem? (i := 20) rfl))) (Or.inl (hw _ (List.mem_of_getElem? (i := 11) rfl))) (by decide) (t := .int) (t' := (.array .int)) (by decide) (by decide)))
  have f10_4 := av4.other W9 (Ne.symm ne5)
  have zz11 : n0 ≤ h9.size := Nat.le_trans zz7 (Keep.of_wr W9).1
  have kp12 : Keep h0 h9 [a0] := kp8.wr W9 (Or.inl (List.mem_of_getElem? (i := 0) rfl))
  have pre13 : Go p.tables e below S0 T9 (mkF m 15 #[vR a0] [(.int (16 : Int32)), (.ref a0)]) := fun t k => pre9 t (by
    refine XS.aloadN X9.here hx rfl (hb hby d1_12) rfl rfl ?_
    show Steps p.tables e below (T9.setTop (mkF m 13 #[vR a0] [(.ref a0)])) _
    refine XS.bipush X9.here hx rfl (hb hby d1_13) ?_
    show Steps p.tables e below (T9.setTop (mkF m 15 #[vR a0] [(.int (16 : Int32)), (.ref a0)])) _
    exact k)
  obtain ⟨T14, h14, kA14, X14, e14, E14, A14, st14⟩ := newP X9 hx hZ (hw _ (List.mem_of_getElem? (i := 0) rfl)) e9 (g := (mkF m 15 #[vR a0] [(.int (16 : Int32)), (.ref a0)])) rfl (hb hby d1_15) rfl (by decide) (cap := 16) (by decide) (by decide) (by decide) (by decide)
  obtain ⟨b14, g14⟩ : ∃ z, z = h9.size := ⟨_, rfl⟩
  rw [← g14] at A14 st14
  have pre14 : Go p.tables e below S0 T14 (mkF m 17 #[vR a0] [(.ref b14), (.ref a0)]) := fun t k => pre13 t (st14 t k)
  have ne15 : a0 ≠ b14 := Nat.ne_of_lt (Nat.lt_of_lt_of_le f10_1.lt (Nat.le_of_eq g14.symm))
  have ne16 : b4 ≠ b14 := Nat.ne_of_lt (Nat.lt_of_lt_of_le f10_4.lt (Nat.le_of_eq g14.symm))
  have bo14 : n0 ≤ b14 := Nat.le_trans zz11 (Nat.le_of_eq g14.symm)
  have ol14 : h0.size ≤ b14 := Nat.le_trans kp12.1 (Nat.le_of_eq g14.symm)
  have f17_1 := Exa.ext E14 f10_1
  have f17_2 := Fld.ext E14 fw9
  have f17_3 := Fld.ext E14 f10_2
  have f17_4 := Fld.ext E14 f10_3
  have f17_5 := f10_4.ext E14
  have zz18 : n0 ≤ h14.size := Nat.le_trans zz11 E14.1
  have kp19 : Keep h0 h14 [a0] := kp12.ext E14
  have av14 : Arv Z h14 b14 kA14 .int (16 : Int32) [(.int (0 : Int32)), (.int (0 : Int32)), (.int (0 : Int32)), (.int (0 : Int32)), (.int (0 : Int32)), (.int (0 : Int32)), (.int (0 : Int32)), (.int (0 : Int32)), (.int (0 : Int32)), (.int (0 : Int32)), (.int (0 : Int32)), (.int (0 : Int32)), (.int (0 : Int32)), (.int (0 : Int32)), (.int (0 : Int32)), (.int (0 : Int32))] (.int (0 : Int32)) := (Arv.new A14 (by decide)).pad (pad_rep [] (.int (0 : Int32)) 16)
  obtain ⟨T20, h20, X20, e20, W20, st20⟩ := putF X14 hx hZ hown (host := "") (Or.inl (hw _ (List.mem_of_getElem? (i := 12) rfl))) Via.refl e14 f17_3 f17_1 (Or.inl (hw _ (List.mem_of_getElem? (i := 13) rfl))) (hw _ (List.mem_of_getElem? (i := 2) rfl)) (ty := (.array .int)) (by decide) rfl rfl (g := (mkF m 17 #[vR a0] [(.ref b14), (.ref a0)])) rfl rfl (hb hby d1_17)
  have pre20 : Go p.tables e below S0 T20 (mkF m 20 #[vR a0] []) := fun t k => pre14 t (st20 t k)
  have N20 := Fr.snoc X20 N9 g0
  have fw20 : Fld Z h20 a0 "com/example/motiflow/motiflow/UndoLog" "values" "[I" (.ref b14) := Fld.same W20 f17_3
  have f21_1 := Exa.wr W20 f17_1
  have f21_2 := Fld.other W20 f17_2 (Or.inr (slot_ne (Or.inl (hw _ (List.mem_of_getElem? (i := 11) rfl))) (Or.inl (hw _ (List.mem_of_getElem? (i := 13) rfl))) (by decide) (t := (.array .int)) (t' := (.array .int)) (by decide) (by decide)))
  have f21_3 := Fld.other W20 f17_4 (Or.inr (slot_ne (Or.inl (hw _ (List.mem_of_getElem? (i := 20) rfl))) (Or.inl (hw _ (List.mem_of_getElem? (i := 13) rfl))) (by decide) (t := .int) (t' := (.array .int)) (by decide) (by decide)))
  have f21_4 := f17_5.other W20 (Ne.symm ne5)
  have f21_5 := av14.other W20 (Ne.symm ne15)
  have zz22 : n0 ≤ h20.size := Nat.le_trans zz18 (Keep.of_wr W20).1
  have kp23 : Keep h0 h20 [a0] := kp19.wr W20 (Or.inl (List.mem_of_getElem? (i := 0) rfl))
  obtain ⟨fs, hr, hrun, hended, hW, hsame⟩ := X20.leave (v := none) (fun _ => rfl)
  exact ⟨_, _, pre20.fin hS0 (X20.returnOut hx Bd.returns (hb hby d1_20) hr), hrun, hended, _, _, rfl, (by
    show Q1 Z a0 h0 n0 _ T20.heap _
    rw [e20]
    exact ⟨rfl, N20, _, _, _, _, ⟨ol4, ol14, ne16⟩, kp23, f21_1, f21_2, fw20, f21_3, f21_4, f21_5⟩), ⟨_, rfl⟩, hW, hsame.mono (by decide) (by decide)⟩
theorem ef_8 (m : MethodId) (x0 : Addr) (x1 : Int32) : entryFrame m #[(.ref x0), (.int x1)] 2 = mkF m 0 #[.val (.ref x0), .val (.int x1)] [] := by first | (simp [entryFrame, mkF, argsToLocals, Value.category]; done) | rfl
theorem pn_2 : plainName "com/example/motiflow/motiflow/IntArrays" = true := by first | (simp [plainName, overriddenIn]; done) | decide +kernel
theorem d8_0 : decode prog_64_method_2_code 0 = .ok (.iload_n 1, 1) := by decide +kernel
theorem d8_1 : decode prog_64_method_2_code 1 = .ok (.aload_n 0, 1) := by decide +kernel
theorem d8_2 : decode prog_64_method_2_code 2 = .ok (.arraylength, 1) := by decide +kernel
theorem d8_3 : decode prog_64_method_2_code 3 = .ok (.if_icmp .gt 7, 3) := by decide +kernel
theorem d8_6 : decode prog_64_method_2_code 6 = .ok (.aload_n 0, 1) := by decide +kernel
theorem d8_7 : decode prog_64_method_2_code 7 = .ok (.goto 15, 3) := by decide +kernel
theorem d8_22 : decode prog_64_method_2_code 22 = .ok (.areturn, 1) := by decide +kernel
def Q8 (Z : State) (a0 : Addr) (p1 : Int32) (k0 : ClassId) (n : Int32) (xs : List Value) (h0 : Heap) (n0 : Nat) (v : Option Value) (h : Heap) (L : List Loc) : Prop := v = some (.ref a0) ∧ Fr n0 L ∧ h = h0
set_option maxRecDepth 65536 in
set_option maxHeartbeats 40000000 in
theorem rm8 (l : Launch) (Z : State) (A0 : Array Value) (hw : ∀ d ∈ tables_1, d.before A0 Z = true) (ws : List Jvm.Cond) (a0 : Addr) (p1 : Int32) (k0 : ClassId) (n : Int32) (xs : List Value) (h0 : Heap) (n0 : Nat) (Z0 : n0 ≤ h0.size) (V0 : Arv Z h0 a0 k0 .int n xs (.int (0 : Int32))) (hn : ¬ (n < p1)) :
    MetFree l (⟨"com/example/motiflow/motiflow/IntArrays", "room", "([II)[I"⟩ : MethodName) (head1 (Jvm.Cond.code (⟨"com/example/motiflow/motiflow/IntArrays", "room", "([II)[I"⟩ : MethodName) prog_64_method_2_code 2 (some (.array .int)) :: ws) ({ frames := 0, cells := 0, slots := 0, locals := 0 } : Room)) (fun a U => a = #[(.ref a0), (.int p1)] ∧ Z.Warmed39 U.vm ∧ U.heap = h0) (fun _ _ _ _ _ => True) (fun _ U o U' => ∃ v L, o = .returned v ∧ Q8 Z a0 p1 k0 n xs h0 n0 v U'.heap L ∧ FrameEnd U o U' L ({ frames := 0, cells := 0, slots := 0, locals := 0 } : Room).cells ({ frames := 0, cells := 0, slots := 0, locals := 0 } : Room).slots) := by
  refine MetFree.of_bodySF (plainFor_of_name pn_2) hisR ?_
  intro p e s m args below meth c s₁ Bd hml0 hP hK
  obtain ⟨rfl, hZ, hh⟩ := hP
  have hx := Bd.exec
  have hby := Bd.bytes
  have hml : c.maxLocals = 2 := hml0
  have hown : s.vm.findClass "com/example/motiflow/motiflow/IntArrays" = some m.cls := findClass_of_methodNamed Bd.named
  have hnm := (name_of_methodNamed Bd.named Bd.method).1
  have X0 : Stand p l e ({ frames := 0, cells := 0, slots := 0, locals := 0 } : Room) s m #[(.ref a0), (.int p1)] below meth c s₁ [] 0 0 := Stand.of_body Bd
  have e0 : s₁.heap = h0 := by rw [← hh, Bd.state]; rfl
  have N0 := Fr.nil n0
  obtain ⟨S0, hS0⟩ : ∃ z, z = s₁.setTop (entryFrame m #[(.ref a0), (.int p1)] 2) := ⟨_, rfl⟩
  have pre0 : Go p.tables e below S0 s₁ (mkF m 0 #[vR a0, vI p1] []) := fun t k => by rw [hS0]; exact castTop (ef_8 m a0 p1) k
  have pre1 : Go p.tables e below S0 s₁ (mkF m 2 #[vR a0, vI p1] [(.ref a0), (.int p1)]) := fun t k => pre0 t (by
    refine XS.iloadN X0.here hx rfl (hb hby d8_0) rfl ?_
    show Steps p.tables e below (s₁.setTop (mkF m 1 #[vR a0, vI p1] [(.int p1)])) _
    refine XS.aloadN X0.here hx rfl (hb hby d8_1) rfl rfl ?_
    show Steps p.tables e below (s₁.setTop (mkF m 2 #[vR a0, vI p1] [(.ref a0), (.int p1)])) _
    exact k)
  obtain ⟨cl2, Ar2, q2, S2, M2, H2, G2⟩ := id V0
  have pre3 : Go p.tables e below S0 s₁ (mkF m 3 #[vR a0, vI p1] [(.int n), (.int p1)]) := fun t k => pre1 t (by
    refine X0.arraylength hx (by rw [e0]; exact Ar2.1) (State.isArrayOf_alike hZ.alike Ar2.2.1) (g := (mkF m 2 #[vR a0, vI p1] [(.ref a0), (.int p1)])) rfl rfl (hb hby d8_2) _ ?_
    rw [len_of S2 M2]
    show Steps p.tables e below (s₁.setTop (mkF m 3 #[vR a0, vI p1] [(.int n), (.int p1)])) _
    exact k)
  have cc4 : ¬ (n < p1) := hn
  have pre5 : Go p.tables e below S0 s₁ (mkF m 22 #[vR a0, vI p1] [(.ref a0)]) := fun t k => pre3 t (by
    refine XS.icmpNo X0.here hx rfl (hb hby d8_3) rfl (flt cc4).2.2.1 ?_
    show Steps p.tables e below (s₁.setTop (mkF m 6 #[vR a0, vI p1] [])) _
    refine XS.aloadN X0.here hx rfl (hb hby d8_6) rfl rfl ?_
    show Steps p.tables e below (s₁.setTop (mkF m 7 #[vR a0, vI p1] [(.ref a0)])) _
    refine XS.goto X0.here hx rfl (pc0 := 7) (pc' := 22) rfl (hb hby d8_7) (by decide) (by decide) ?_
    show Steps p.tables e below (s₁.setTop (mkF m 22 #[vR a0, vI p1] [(.ref a0)])) _
    exact k)
  obtain ⟨fs, hr, hrun, hended, hW, hsame⟩ := X0.leave (v := some (.ref a0)) (fun h => by rw [Bd.returns] at h; cases h)
  exact ⟨_, _, pre5.fin hS0 (retA X0 hx Bd.returns (hb hby d8_22) hr), hrun, hended, _, _, rfl, (by
    show Q8 Z a0 p1 k0 n xs h0 n0 _ s₁.heap _
    rw [e0]
    exact ⟨rfl, N0, rfl⟩), ⟨_, rfl⟩, hW, hsame.mono (by decide) (by decide)⟩
theorem ef_7_0 (m : MethodId) (x0 : Addr) (x1 : Int32) (x2 : Int32) : entryFrame m #[(.ref x0), (.int x1), (.int x2)] 3 = mkF m 0 #[.val (.ref x0), .val (.int x1), .val (.int x2)] [] := by first | (simp [entryFrame, mkF, argsToLocals, Value.category]; done) | rfl
theorem pd_0 : parseMethodDescriptor "([II)[I" = some ⟨[(.array .int), .int], some (.array .int)⟩ := by decide +kernel
theorem d7_0 : decode prog_138_method_4_code 0 = .ok (.aload_n 0, 1) := by decide +kernel
theorem d7_1 : decode prog_138_method_4_code 1 = .ok (.aload_n 0, 1) := by decide +kernel
theorem d7_2 : decode prog_138_method_4_code 2 = .ok (.getfield 7, 3) := by decide +kernel
theorem d7_5 : decode prog_138_method_4_code 5 = .ok (.aload_n 0, 1) := by decide +kernel
theorem d7_6 : decode prog_138_method_4_code 6 = .ok (.getfield 16, 3) := by decide +kernel
theorem d7_9 : decode prog_138_method_4_code 9 = .ok (.iconst 1, 1) := by decide +kernel
theorem d7_10 : decode prog_138_method_4_code 10 = .ok (.iadd, 1) := by decide +kernel
theorem d7_11 : decode prog_138_method_4_code 11 = .ok (.invokestatic 20, 3) := by decide +kernel
theorem d7_14 : decode prog_138_method_4_code 14 = .ok (.putfield 7, 3) := by decide +kernel
theorem d7_17 : decode prog_138_method_4_code 17 = .ok (.aload_n 0, 1) := by decide +kernel
theorem d7_18 : decode prog_138_method_4_code 18 = .ok (.aload_n 0, 1) := by decide +kernel
theorem d7_19 : decode prog_138_method_4_code 19 = .ok (.getfield 13, 3) := by decide +kernel
theorem d7_22 : decode prog_138_method_4_code 22 = .ok (.aload_n 0, 1) := by decide +kernel
theorem d7_23 : decode prog_138_method_4_code 23 = .ok (.getfield 16, 3) := by decide +kernel
theorem d7_26 : decode prog_138_method_4_code 26 = .ok (.iconst 1, 1) := by decide +kernel
theorem d7_27 : decode prog_138_method_4_code 27 = .ok (.iadd, 1) := by decide +kernel
theorem d7_28 : decode prog_138_method_4_code 28 = .ok (.invokestatic 20, 3) := by decide +kernel
theorem d7_31 : decode prog_138_method_4_code 31 = .ok (.putfield 13, 3) := by decide +kernel
theorem d7_34 : decode prog_138_method_4_code 34 = .ok (.aload_n 0, 1) := by decide +kernel
theorem d7_35 : decode prog_138_method_4_code 35 = .ok (.getfield 7, 3) := by decide +kernel
theorem d7_38 : decode prog_138_method_4_code 38 = .ok (.aload_n 0, 1) := by decide +kernel
theorem d7_39 : decode prog_138_method_4_code 39 = .ok (.getfield 16, 3) := by decide +kernel
theorem d7_42 : decode prog_138_method_4_code 42 = .ok (.iload_n 1, 1) := by decide +kernel
theorem d7_43 : decode prog_138_method_4_code 43 = .ok (.iastore, 1) := by decide +kernel
theorem d7_44 : decode prog_138_method_4_code 44 = .ok (.aload_n 0, 1) := by decide +kernel
theorem d7_45 : decode prog_138_method_4_code 45 = .ok (.getfield 13, 3) := by decide +kernel
theorem d7_48 : decode prog_138_method_4_code 48 = .ok (.aload_n 0, 1) := by decide +kernel
theorem d7_49 : decode prog_138_method_4_code 49 = .ok (.getfield 16, 3) := by decide +kernel
theorem d7_52 : decode prog_138_method_4_code 52 = .ok (.iload_n 2, 1) := by decide +kernel
theorem d7_53 : decode prog_138_method_4_code 53 = .ok (.iastore, 1) := by decide +kernel
theorem d7_54 : decode prog_138_method_4_code 54 = .ok (.aload_n 0, 1) := by decide +kernel
theorem d7_55 : decode prog_138_method_4_code 55 = .ok (.dup, 1) := by decide +kernel
theorem d7_56 : decode prog_138_method_4_code 56 = .ok (.getfield 16, 3) := by decide +kernel
theorem d7_59 : decode prog_138_method_4_code 59 = .ok (.iconst 1, 1) := by decide +kernel
theorem d7_60 : decode prog_138_method_4_code 60 = .ok (.iadd, 1) := by decide +kernel
theorem d7_61 : decode prog_138_method_4_code 61 = .ok (.putfield 16, 3) := by decide +kernel
theorem d7_64 : decode prog_138_method_4_code 64 = .ok (.return_, 1) := by decide +kernel
def Q7_0 (Z : State) (a0 : Addr) (p1 p2 : Int32) (b1 b2 : Addr) (k1 k2 : ClassId)  (h0 : Heap) (n0 : Nat) (v : Option Value) (h : Heap) (L : List Loc) : Prop := v = none ∧ Fr n0 L ∧ Keep h0 h [a0, b1, b2] ∧ (Exa Z h a0 "com/example/motiflow/motiflow/UndoLog") ∧ (Fld Z h a0 "com/example/motiflow/motiflow/UndoLog" "places" "[I" (.ref b1)) ∧ (Fld Z h a0 "com/example/motiflow/motiflow/UndoLog" "values" "[I" (.ref b2)) ∧ (Fld Z h a0 "com/example/motiflow/motiflow/UndoLog" "size" "I" (.int (1 : Int32))) ∧ (Arv Z h b1 k1 .int (16 : Int32) [(.int p1), (.int (0 : Int32)), (.int (0 : Int32)), (.int (0 : Int32)), (.int (0 : Int32)), (.int (0 : Int32)), (.int (0 : Int32)), (.int (0 : Int32)), (.int (0 : Int32)), (.int (0 : Int32)), (.int (0 : Int32)), (.int (0 : Int32)), (.int (0 : Int32)), (.int (0 : Int32)), (.int (0 : Int32)), (.int (0 : Int32))] (.int (0 : Int32))) ∧ (Arv Z h b2 k2 .int (16 : Int32) [(.int p2), (.int (0 : Int32)), (.int (0 : Int32)), (.int (0 : Int32)), (.int (0 : Int32)), (.int (0 : Int32)), (.int (0 : Int32)), (.int (0 : Int32)), (.int (0 : Int32)), (.int (0 : Int32)), (.int (0 : Int32)), (.int (0 : Int32)), (.int (0 : Int32)), (.int (0 : Int32)), (.int (0 : Int32)), (.int (0 : Int32))] (.int (0 : Int32)))
set_option maxRecDepth 65536 in
set_option maxHeartbeats 40000000 in
theorem rm7_0 (l : Launch) (Z : State) (A0 : Array Value) (hw : ∀ d ∈ tables_1, d.before A0 Z = true) (ws : List Jvm.Cond) (a0 : Addr) (p1 : Int32) (p2 : Int32) (b1 b2 : Addr) (k1 k2 : ClassId)  (h0 : Heap) (n0 : Nat) (Z0 : n0 ≤ h0.size) (E0 : Exa Z h0 a0 "com/example/motiflow/motiflow/UndoLog") (F_p : Fld Z h0 a0 "com/example/motiflow/motiflow/UndoLog" "places" "[I" (.ref b1)) (F_v : Fld Z h0 a0 "com/example/motiflow/motiflow/UndoLog" "values" "[I" (.ref b2)) (F_s : Fld Z h0 a0 "com/example/motiflow/motiflow/UndoLog" "size" "I" (.int (0 : Int32))) (V1 : Arv Z h0 b1 k1 .int (16 : Int32) [(.int (0 : Int32)), (.int (0 : Int32)), (.int (0 : Int32)), (.int (0 : Int32)), (.int (0 : Int32)), (.int (0 : Int32)), (.int (0 : Int32)), (.int (0 : Int32)), (.int (0 : Int32)), (.int (0 : Int32)), (.int (0 : Int32)), (.int (0 : Int32)), (.int (0 : Int32)), (.int (0 : Int32)), (.int (0 : Int32)), (.int (0 : Int32))] (.int (0 : Int32))) (V2 : Arv Z h0 b2 k2 .int (16 : Int32) [(.int (0 : Int32)), (.int (0 : Int32)), (.int (0 : Int32)), (.int (0 : Int32)), (.int (0 : Int32)), (.int (0 : Int32)), (.int (0 : Int32)), (.int (0 : Int32)), (.int (0 : Int32)), (.int (0 : Int32)), (.int (0 : Int32)), (.int (0 : Int32)), (.int (0 : Int32)), (.int (0 : Int32)), (.int (0 : Int32)), (.int (0 : Int32))] (.int (0 : Int32))) (xe1 : b1 ≠ a0) (xe2 : b2 ≠ a0) (xe3 : b1 ≠ b2) (g0 : n0 ≤ a0) (xg1 : n0 ≤ b1) (xg2 : n0 ≤ b2) :
    MetFree l (⟨"com/example/motiflow/motiflow/UndoLog", "record", "(II)V"⟩ : MethodName) (head1 (Jvm.Cond.code (⟨"com/example/motiflow/motiflow/UndoLog", "record", "(II)V"⟩ : MethodName) prog_138_method_4_code 3 none :: ws) ({ frames := 1, cells := 0, slots := 0, locals := 15 } : Room)) (fun a U => a = #[(.ref a0), (.int p1), (.int p2)] ∧ Z.Warmed39 U.vm ∧ U.heap = h0) (fun _ _ _ _ _ => True) (fun _ U o U' => ∃ v L, o = .returned v ∧ Q7_0 Z a0 p1 p2 b1 b2 k1 k2 h0 n0 v U'.heap L ∧ FrameEnd U o U' L ({ frames := 1, cells := 0, slots := 0, locals := 15 } : Room).cells ({ frames := 1, cells := 0, slots := 0, locals := 15 } : Room).slots) := by
  refine MetFree.of_bodySF (plainFor_of_name pn_1) hisR ?_
  intro p e s m args below meth c s₁ Bd hml0 hP hK
  obtain ⟨rfl, hZ, hh⟩ := hP
  have hx := Bd.exec
  have hby := Bd.bytes
  have hml : c.maxLocals = 3 := hml0
  have hown : s.vm.findClass "com/example/motiflow/motiflow/UndoLog" = some m.cls := findClass_of_methodNamed Bd.named
  have hnm := (name_of_methodNamed Bd.named Bd.method).1
  have X0 : Stand p l e ({ frames := 1, cells := 0, slots := 0, locals := 15 } : Room) s m #[(.ref a0), (.int p1), (.int p2)] below meth c s₁ [] 0 0 := Stand.of_body Bd
  have e0 : s₁.heap = h0 := by rw [← hh, Bd.state]; rfl
  have N0 := Fr.nil n0
  have kp0 : Keep h0 h0 [a0, b1, b2] := Keep.refl _ _
  obtain ⟨S0, hS0⟩ : ∃ z, z = s₁.setTop (entryFrame m #[(.ref a0), (.int p1), (.int p2)] 3) := ⟨_, rfl⟩
  have pre0 : Go p.tables e below S0 s₁ (mkF m 0 #[vR a0, vI p1, vI p2] []) := fun t k => by rw [hS0]; exact castTop (ef_7_0 m a0 p1 p2) k
  have pre1 : Go p.tables e below S0 s₁ (mkF m 2 #[vR a0, vI p1, vI p2] [(.ref a0), (.ref a0)]) := fun t k => pre0 t (by
    refine XS.aloadN X0.here hx rfl (hb hby d7_0) rfl rfl ?_
    show Steps p.tables e below (s₁.setTop (mkF m 1 #[vR a0, vI p1, vI p2] [(.ref a0)])) _
    refine XS.aloadN X0.here hx rfl (hb hby d7_1) rfl rfl ?_
    show Steps p.tables e below (s₁.setTop (mkF m 2 #[vR a0, vI p1, vI p2] [(.ref a0), (.ref a0)])) _
    exact k)
  obtain ⟨T2, X2, e2, st2⟩ := getF X0 hx hZ hown (host := "") (Or.inl (hw _ (List.mem_of_getElem? (i := 10) rfl))) Via.refl e0 F_p (g := (mkF m 2 #[vR a0, vI p1, vI p2] [(.ref a0), (.ref a0)])) rfl rfl (hb hby d7_2)
  have pre2 : Go p.tables e below S0 T2 (mkF m 5 #[vR a0, vI p1, vI p2] [(.ref b1), (.ref a0)]) := fun t k => pre1 t (st2 t k)
  have pre3 : Go p.tables e below S0 T2 (mkF m 6 #[vR a0, vI p1, vI p2] [(.ref a0), (.ref b1), (.ref a0)]) := fun t k => pre2 t (by
    refine XS.aloadN X2.here hx rfl (hb hby d7_5) rfl rfl ?_
    show Steps p.tables e below (T2.setTop (mkF m 6 #[vR a0, vI p1, vI p2] [(.ref a0), (.ref b1), (.ref a0)])) _
    exact k)
  obtain ⟨T4, X4, e4, st4⟩ := getF X2 hx hZ hown (host := "") (Or.inl (hw _ (List.mem_of_getElem? (i := 19) rfl))) Via.refl e2 F_s (g := (mkF m 6 #[vR a0, vI p1, vI p2] [(.ref a0), (.ref b1), (.ref a0)])) rfl rfl (hb hby d7_6)
  have pre4 : Go p.tables e below S0 T4 (mkF m 9 #[vR a0, vI p1, vI p2] [(.int (0 : Int32)), (.ref b1), (.ref a0)]) := fun t k => pre3 t (st4 t k)
  have pre5 : Go p.tables e below S0 T4 (mkF m 11 #[vR a0, vI p1, vI p2] [(.int (1 : Int32)), (.ref b1), (.ref a0)]) := fun t k => pre4 t (by
    refine XS.iconst X4.here hx rfl (hb hby d7_9) ?_
    show Steps p.tables e below (T4.setTop (mkF m 10 #[vR a0, vI p1, vI p2] [(.int (1 : Int32)), (.int (0 : Int32)), (.ref b1), (.ref a0)])) _
    refine XS.iadd X4.here hx rfl (hb hby d7_10) rfl ?_
    show Steps p.tables e below (T4.setTop (mkF m 11 #[vR a0, vI p1, vI p2] [(.int (1 : Int32)), (.ref b1), (.ref a0)])) _
    exact k)
  obtain ⟨_, _, ⟨T6, qL6, qk6, qn6⟩, -, X6, ⟨Lc6, hQ6, ql6, qy6, qz6⟩, st6⟩ := Jvm.LawKit.callS X4 hx (y := (⟨"com/example/motiflow/motiflow/IntArrays", "room", "([II)[I"⟩ : MethodName)) hown (mvT hZ (hw _ (List.mem_of_getElem? (i := 39) rfl))) (mvT hZ (hw _ (List.mem_of_getElem? (i := 40) rfl))) (mvT hZ (hw _ (List.mem_of_getElem? (i := 41) rfl))) (mvT hZ (hw _ (List.mem_of_getElem? (i := 42) rfl))) (by decide) (backOf (W := 1) (rm8 l Z A0 hw [] b1 (1 : Int32) k1 (16 : Int32) [(.int (0 : Int32)), (.int (0 : Int32)), (.int (0 : Int32)), (.int (0 : Int32)), (.int (0 : Int32)), (.int (0 : Int32)), (.int (0 : Int32)), (.int (0 : Int32)), (.int (0 : Int32)), (.int (0 : Int32)), (.int (0 : Int32)), (.int (0 : Int32)), (.int (0 : Int32)), (.int (0 : Int32)), (.int (0 : Int32)), (.int (0 : Int32))] h0 n0 Z0 V1 (by decide)) hZ (hw _ (List.mem_of_getElem? (i := 42) rfl)) (hw _ (List.mem_of_getElem? (i := 41) rfl)) (by decide) (by decide)) (g := (mkF m 11 #[vR a0, vI p1, vI p2] [(.int (1 : Int32)), (.ref b1), (.ref a0)])) rfl (by rw [hml]; rfl) (argsL := [(.ref b1), (.int (1 : Int32))]) (rest := [(.ref a0)]) (lenOf pd_0 rfl) rfl (by show 2 * 0 + _ ≤ _; exact Nat.le_of_eq rfl) (hb hby d7_11) (fun _ _ => ⟨rfl, e4, (by decide : 0 + 0 ≤ _), (by decide : 0 + 0 ≤ _)⟩)
  dsimp only [Pt.U, Pt.locs, Pt.cells, Pt.slots] at X6 ql6 qy6 qz6 st6 hQ6
  subst ql6 qy6 qz6
  obtain ⟨rfl, Nq6, eq6⟩ := hQ6
  have N6 := Fr.app N0 Nq6
  have pre6 : Go p.tables e below S0 T6 (mkF m 14 #[vR a0, vI p1, vI p2] [(.ref b1), (.ref a0)]) := fun t k => pre5 t (st6 t k)
  obtain ⟨T7, h7, X7, e7, W7, st7⟩ := putF X6 hx hZ hown (host := "") (Or.inl (hw _ (List.mem_of_getElem? (i := 10) rfl))) Via.refl eq6 F_p E0 (Or.inl (hw _ (List.mem_of_getElem? (i := 11) rfl))) (hw _ (List.mem_of_getElem? (i := 2) rfl)) (ty := (.array .int)) (by decide) rfl rfl (g := (mkF m 14 #[vR a0, vI p1, vI p2] [(.ref b1), (.ref a0)])) rfl rfl (hb hby d7_14)
  have pre7 : Go p.tables e below S0 T7 (mkF m 17 #[vR a0, vI p1, vI p2] []) := fun t k => pre6 t (st7 t k)
  have N7 := Fr.snoc X7 N6 g0
  have fw7 : Fld Z h7 a0 "com/example/motiflow/motiflow/UndoLog" "places" "[I" (.ref b1) := Fld.same W7 F_p
  have f8_1 := Exa.wr W7 E0
  have f8_2 := Fld.other W7 F_v (Or.inr (slot_ne (Or.inl (hw _ (List.mem_of_getElem? (i := 13) rfl))) (Or.inl (hw _ (List.mem_of_getElem? (i := 11) rfl))) (by decide) (t := (.array .int)) (t' := (.array .int)) (by decide) (by decide)))
  have f8_3 := Fld.other W7 F_s (Or.inr (slot_ne (Or.inl (hw _ (List.mem_of_getElem? (i := 20) rfl))) (Or.inl (hw _ (List.mem_of_getElem? (i := 11) rfl))) (by decide) (t := .int) (t' := (.array .int)) (by decide) (by decide)))
  have f8_4 := V1.other W7 xe1
  have f8_5 := V2.other W7 xe2
  have zz9 : n0 ≤ h7.size := Nat.le_trans Z0 (Keep.of_wr W7).1
  have kp10 : Keep h0 h7 [a0, b1, b2] := kp0.wr W7 (Or.inl (List.mem_of_getElem? (i := 0) rfl))
  have pre11 : Go p.tables e below S0 T7 (mkF m 19 #[vR a0, vI p1, vI p2] [(.ref a0), (.ref a0)]) := fun t k => pre7 t (by
    refine XS.aloadN X7.here hx rfl (hb hby d7_17) rfl rfl ?_
    show Steps p.tables e below (T7.setTop (mkF m 18 #[vR a0, vI p1, vI p2] [(.ref a0)])) _
    refine XS.aloadN X7.here hx rfl (hb hby d7_18) rfl rfl ?_
    show Steps p.tables e below (T7.setTop (mkF m 19 #[vR a0, vI p1, vI p2] [(.ref a0), (.ref a0)])) _
    exact k)
  obtain ⟨T12, X12, e12, st12⟩ := getF X7 hx hZ hown (host := "") (Or.inl (hw _ (List.mem_of_getElem? (i := 12) rfl))) Via.refl e7 f8_2 (g := (mkF m 19 #[vR a0, vI p1, vI p2] [(.ref a0), (.ref a0)])) rfl rfl (hb hby d7_19)
  have pre12 : Go p.tables e below S0 T12 (mkF m 22 #[vR a0, vI p1, vI p2] [(.ref b2), (.ref a0)]) := fun t k => pre11 t (st12 t k)
  have pre13 : Go p.tables e below S0 T12 (mkF m 23 #[vR a0, vI p1, vI p2] [(.ref a0), (.ref b2), (.ref a0)]) := fun t k => pre12 t (by
    refine XS.aloadN X12.here hx rfl (hb hby d7_22) rfl rfl ?_
    show Steps p.tables e below (T12.setTop (mkF m 23 #[vR a0, vI p1, vI p2] [(.ref a0), (.ref b2), (.ref a0)])) _
    exact k)
  obtain ⟨T14, X14, e14, st14⟩ := getF X12 hx hZ hown (host := "") (Or.inl (hw _ (List.mem_of_getElem? (i := 19) rfl))) Via.refl e12 f8_3 (g := (mkF m 23 #[vR a0, vI p1, vI p2] [(.ref a0), (.ref b2), (.ref a0)])) rfl rfl (hb hby d7_23)
  have pre14 : Go p.tables e below S0 T14 (mkF m 26 #[vR a0, vI p1, vI p2] [(.int (0 : Int32)), (.ref b2), (.ref a0)]) := fun t k => pre13 t (st14 t k)
  have pre15 : Go p.tables e below S0 T14 (mkF m 28 #[vR a0, vI p1, vI p2] [(.int (1 : Int32)), (.ref b2), (.ref a0)]) := fun t k => pre14 t (by
    refine XS.iconst X14.here hx rfl (hb hby d7_26) ?_
    show Steps p.tables e below (T14.setTop (mkF m 27 #[vR a0, vI p1, vI p2] [(.int (1 : Int32)), (.int (0 : Int32)), (.ref b2), (.ref a0)])) _
    refine XS.iadd X14.here hx rfl (hb hby d7_27) rfl ?_
    show Steps p.tables e below (T14.setTop (mkF m 28 #[vR a0, vI p1, vI p2] [(.int (1 : Int32)), (.ref b2), (.ref a0)])) _
    exact k)
  obtain ⟨_, _, ⟨T16, qL16, qk16, qn16⟩, -, X16, ⟨Lc16, hQ16, ql16, qy16, qz16⟩, st16⟩ := Jvm.LawKit.callS X14 hx (y := (⟨"com/example/motiflow/motiflow/IntArrays", "room", "([II)[I"⟩ : MethodName)) hown (mvT hZ (hw _ (List.mem_of_getElem? (i := 39) rfl))) (mvT hZ (hw _ (List.mem_of_getElem? (i := 40) rfl))) (mvT hZ (hw _ (List.mem_of_getElem? (i := 41) rfl))) (mvT hZ (hw _ (List.mem_of_getElem? (i := 42) rfl))) (by decide) (backOf (W := 1) (rm8 l Z A0 hw [] b2 (1 : Int32) k2 (16 : Int32) [(.int (0 : Int32)), (.int (0 : Int32)), (.int (0 : Int32)), (.int (0 : Int32)), (.int (0 : Int32)), (.int (0 : Int32)), (.int (0 : Int32)), (.int (0 : Int32)), (.int (0 : Int32)), (.int (0 : Int32)), (.int (0 : Int32)), (.int (0 : Int32)), (.int (0 : Int32)), (.int (0 : Int32)), (.int (0 : Int32)), (.int (0 : Int32))] h7 n0 zz9 f8_5 (by decide)) hZ (hw _ (List.mem_of_getElem? (i := 42) rfl)) (hw _ (List.mem_of_getElem? (i := 41) rfl)) (by decide) (by decide)) (g := (mkF m 28 #[vR a0, vI p1, vI p2] [(.int (1 : Int32)), (.ref b2), (.ref a0)])) rfl (by rw [hml]; rfl) (argsL := [(.ref b2), (.int (1 : Int32))]) (rest := [(.ref a0)]) (lenOf pd_0 rfl) rfl (by show 2 * 0 + _ ≤ _; exact Nat.le_of_eq rfl) (hb hby d7_28) (fun _ _ => ⟨rfl, e14, (by decide : 0 + 0 ≤ _), (by decide : 0 + 0 ≤ _)⟩)
  dsimp only [Pt.U, Pt.locs, Pt.cells, Pt.slots] at X16 ql16 qy16 qz16 st16 hQ16
  subst ql16 qy16 qz16
  obtain ⟨rfl, Nq16, eq16⟩ := hQ16
  have N16 := Fr.app N7 Nq16
  have pre16 : Go p.tables e below S0 T16 (mkF m 31 #[vR a0, vI p1, vI p2] [(.ref b2), (.ref a0)]) := fun t k => pre15 t (st16 t k)
  obtain ⟨T17, h17, X17, e17, W17, st17⟩ := putF X16 hx hZ hown (host := "") (Or.inl (hw _ (List.mem_of_getElem? (i := 12) rfl))) Via.refl eq16 f8_2 f8_1 (Or.inl (hw _ (List.mem_of_getElem? (i := 13) rfl))) (hw _ (List.mem_of_getElem? (i := 2) rfl)) (ty := (.array .int)) (by decide) rfl rfl (g := (mkF m 31 #[vR a0, vI p1, vI p2] [(.ref b2), (.ref a0)])) rfl rfl (hb hby d7_31)
  have pre17 : Go p.tables e below S0 T17 (mkF m 34 #[vR a0, vI p1, vI p2] []) := fun t k => pre16 t (st17 t k)
  have N17 := Fr.snoc X17 N16 g0
  have fw17 : Fld Z h17 a0 "com/example/motiflow/motiflow/UndoLog" "values" "[I" (.ref b2) := Fld.same W17 f8_2
  have f18_1 := Exa.wr W17 f8_1
  have f18_2 := Fld.other W17 fw7 (Or.inr (slot_ne (Or.inl (hw _ (List.mem_of_getElem? (i := 11) rfl))) (Or.inl (hw _ (List.mem_of_getElem? (i := 13) rfl))) (by decide) (t := (.array .int)) (t' := (.array .int)) (by decide) (by decide)))
  have f18_3 := Fld.other W17 f8_3 (Or.inr (slot_ne (Or.inl (hw _ (List.mem_of_getElem? (i := 20) rfl))) (Or.inl (hw _ (List.mem_of_getElem? (i := 13) rfl))) (by decide) (t := .int) (t' := (.array .int)) (by decide) (by decide)))
  have f18_4 := f8_4.other W17 xe1
  have f18_5 := f8_5.other W17 xe2
  have zz19 : n0 ≤ h17.size := Nat.le_trans zz9 (Keep.of_wr W17).1
  have kp20 : Keep h0 h17 [a0, b1, b2] := kp10.wr W17 (Or.inl (List.mem_of_getElem? (i := 0) rfl))
  have pre21 : Go p.tables e below S0 T17 (mkF m 35 #[vR a0, vI p1, vI p2] [(.ref a0)]) := fun t k => pre17 t (by
    refine XS.aloadN X17.here hx rfl (hb hby d7_34) rfl rfl ?_
    show Steps p.tables e below (T17.setTop (mkF m 35 #[vR a0, vI p1, vI p2] [(.ref a0)])) _
    exact k)
  obtain ⟨T22, X22, e22, st22⟩ := getF X17 hx hZ hown (host := "") (Or.inl (hw _ (List.mem_of_getElem? (i := 10) rfl))) Via.refl e17 f18_2 (g := (mkF m 35 #[vR a0, vI p1, vI p2] [(.ref a0)])) rfl rfl (hb hby d7_35)
  have pre22 : Go p.tables e below S0 T22 (mkF m 38 #[vR a0, vI p1, vI p2] [(.ref b1)]) := fun t k => pre21 t (st22 t k)
  have pre23 : Go p.tables e below S0 T22 (mkF m 39 #[vR a0, vI p1, vI p2] [(.ref a0), (.ref b1)]) := fun t k => pre22 t (by
    refine XS.aloadN X22.here hx rfl (hb hby d7_38) rfl rfl ?_
    show Steps p.tables e below (T22.setTop (mkF m 39 #[vR a0, vI p1, vI p2] [(.ref a0), (.ref b1)])) _
    exact k)
  obtain ⟨T24, X24, e24, st24⟩ := getF X22 hx hZ hown (host := "") (Or.inl (hw _ (List.mem_of_getElem? (i := 19) rfl))) Via.refl e22 f18_3 (g := (mkF m 39 #[vR a0, vI p1, vI p2] [(.ref a0), (.ref b1)])) rfl rfl (hb hby d7_39)
  have pre24 : Go p.tables e below S0 T24 (mkF m 42 #[vR a0, vI p1, vI p2] [(.int (0 : Int32)), (.ref b1)]) := fun t k => pre23 t (st24 t k)
  have pre25 : Go p.tables e below S0 T24 (mkF m 43 #[vR a0, vI p1, vI p2] [(.int p1), (.int (0 : Int32)), (.ref b1)]) := fun t k => pre24 t (by
    refine XS.iloadN X24.here hx rfl (hb hby d7_42) rfl ?_
    show Steps p.tables e below (T24.setTop (mkF m 43 #[vR a0, vI p1, vI p2] [(.int p1), (.int (0 : Int32)), (.ref b1)])) _
    exact k)
  obtain ⟨cl26, Ar26, q26, S26, M26, H26, G26⟩ := id f18_4
  have in26 : ¬ ((0 : Int32) < 0 ∨ cl26.slots.size ≤ ((0 : Int32)).toNatClampNeg) := inb_of S26 ⟨by decide, by decide⟩
  obtain ⟨T26, h26, X26, e26, W26, st26⟩ := stI X24 hx hZ e24 Ar26 (j := (0 : Int32)) in26 (g := (mkF m 43 #[vR a0, vI p1, vI p2] [(.int p1), (.int (0 : Int32)), (.ref b1)])) rfl rfl (hb hby d7_43)
  have pre26 : Go p.tables e below S0 T26 (mkF m 44 #[vR a0, vI p1, vI p2] []) := fun t k => pre25 t (st26 t k)
  have N26 := Fr.snoc X26 N17 xg1
  have av26 : Arv Z h26 b1 k1 .int (16 : Int32) [(.int p1), (.int (0 : Int32)), (.int (0 : Int32)), (.int (0 : Int32)), (.int (0 : Int32)), (.int (0 : Int32)), (.int (0 : Int32)), (.int (0 : Int32)), (.int (0 : Int32)), (.int (0 : Int32)), (.int (0 : Int32)), (.int (0 : Int32)), (.int (0 : Int32)), (.int (0 : Int32)), (.int (0 : Int32)), (.int (0 : Int32))] (.int (0 : Int32)) := Arv.set Ar26 q26 S26 M26 H26 G26 rfl W26 0 rfl (Nat.le_of_ble_eq_true rfl)
  have f27_1 := Exa.wr W26 f18_1
  have f27_2 := Fld.other W26 f18_2 (Or.inl (Ne.symm xe1))
  have f27_3 := Fld.other W26 fw17 (Or.inl (Ne.symm xe1))
  have f27_4 := Fld.other W26 f18_3 (Or.inl (Ne.symm xe1))
  have f27_5 := f18_5.other W26 (Ne.symm xe3)
  have zz28 : n0 ≤ h26.size := Nat.le_trans zz19 (Keep.of_wr W26).1
  have kp29 : Keep h0 h26 [a0, b1, b2] := kp20.wr W26 (Or.inl (List.mem_of_getElem? (i := 1) rfl))
  have pre30 : Go p.tables e below S0 T26 (mkF m 45 #[vR a0, vI p1, vI p2] [(.ref a0)]) := fun t k => pre26 t (by
    refine XS.aloadN X26.here hx rfl (hb hby d7_44) rfl rfl ?_
    show Steps p.tables e below (T26.setTop (mkF m 45 #[vR a0, vI p1, vI p2] [(.ref a0)])) _
    exact k)
  obtain ⟨T31, X31, e31, st31⟩ := getF X26 hx hZ hown (host := "") (Or.inl (hw _ (List.mem_of_getElem? (i := 12) rfl))) Via.refl e26 f27_3 (g := (mkF m 45 #[vR a0, vI p1, vI p2] [(.ref a0)])) rfl rfl (hb hby d7_45)
  have pre31 : Go p.tables e below S0 T31 (mkF m 48 #[vR a0, vI p1, vI p2] [(.ref b2)]) := fun t k => pre30 t (st31 t k)
  have pre32 : Go p.tables e below S0 T31 (mkF m 49 #[vR a0, vI p1, vI p2] [(.ref a0), (.ref b2)]) := fun t k => pre31 t (by
    refine XS.aloadN X31.here hx rfl (hb hby d7_48) rfl rfl ?_
    show Steps p.tables e below (T31.setTop (mkF m 49 #[vR a0, vI p1, vI p2] [(.ref a0), (.ref b2)])) _
    exact k)
  obtain ⟨T33, X33, e33, st33⟩ := getF X31 hx hZ hown (host := "") (Or.inl (hw _ (List.mem_of_getElem? (i := 19) rfl))) Via.refl e31 f27_4 (g := (mkF m 49 #[vR a0, vI p1, vI p2] [(.ref a0), (.ref b2)])) rfl rfl (hb hby d7_49)
  have pre33 : Go p.tables e below S0 T33 (mkF m 52 #[vR a0, vI p1, vI p2] [(.int (0 : Int32)), (.ref b2)]) := fun t k => pre32 t (st33 t k)
  have pre34 : Go p.tables e below S0 T33 (mkF m 53 #[vR a0, vI p1, vI p2] [(.int p2), (.int (0 : Int32)), (.ref b2)]) := fun t k => pre33 t (by
    refine XS.iloadN X33.here hx rfl (hb hby d7_52) rfl ?_
    show Steps p.tables e below (T33.setTop (mkF m 53 #[vR a0, vI p1, vI p2] [(.int p2), (.int (0 : Int32)), (.ref b2)])) _
    exact k)
  obtain ⟨cl35, Ar35, q35, S35, M35, H35, G35⟩ := id f27_5
  have in35 : ¬ ((0 : Int32) < 0 ∨ cl35.slots.size ≤ ((0 : Int32)).toNatClampNeg) := inb_of S35 ⟨by decide, by decide⟩
  obtain ⟨T35, h35, X35, e35, W35, st35⟩ := stI X33 hx hZ e33 Ar35 (j := (0 : Int32)) in35 (g := (mkF m 53 #[vR a0, vI p1, vI p2] [(.int p2), (.int (0 : Int32)), (.ref b2)])) rfl rfl (hb hby d7_53)
  have pre35 : Go p.tables e below S0 T35 (mkF m 54 #[vR a0, vI p1, vI p2] []) := fun t k => pre34 t (st35 t k)
  have N35 := Fr.snoc X35 N26 xg2
  have av35 : Arv Z h35 b2 k2 .int (16 : Int32) [(.int p2), (.int (0 : Int32)), (.int (0 : Int32)), (.int (0 : Int32)), (.int (0 : Int32)), (.int (0 : Int32)), (.int (0 : Int32)), (.int (0 : Int32)), (.int (0 : Int32)), (.int (0 : Int32)), (.int (0 : Int32)), (.int (0 : Int32)), (.int (0 : Int32)), (.int (0 : Int32)), (.int (0 : Int32)), (.int (0 : Int32))] (.int (0 : Int32)) := Arv.set Ar35 q35 S35 M35 H35 G35 rfl W35 0 rfl (Nat.le_of_ble_eq_true rfl)
  have f36_1 := Exa.wr W35 f27_1
  have f36_2 := Fld.other W35 f27_2 (Or.inl (Ne.symm xe2))
  have f36_3 := Fld.other W35 f27_3 (Or.inl (Ne.symm xe2))
  have f36_4 := Fld.other W35 f27_4 (Or.inl (Ne.symm xe2))
  have f36_5 := av26.other W35 xe3
  have zz37 : n0 ≤ h35.size := Nat.le_trans zz28 (Keep.of_wr W35).1
  have kp38 : Keep h0 h35 [a0, b1, b2] := kp29.wr W35 (Or.inl (List.mem_of_getElem? (i := 2) rfl))
  have pre39 : Go p.tables e below S0 T35 (mkF m 56 #[vR a0, vI p1, vI p2] [(.ref a0), (.ref a0)]) := fun t k => pre35 t (by
    refine XS.aloadN X35.here hx rfl (hb hby d7_54) rfl rfl ?_
    show Steps p.tables e below (T35.setTop (mkF m 55 #[vR a0, vI p1, vI p2] [(.ref a0)])) _
    refine XS.dup X35.here hx rfl (hb hby d7_55) rfl rfl ?_
    show Steps p.tables e below (T35.setTop (mkF m 56 #[vR a0, vI p1, vI p2] [(.ref a0), (.ref a0)])) _
    exact k)
  obtain ⟨T40, X40, e40, st40⟩ := getF X35 hx hZ hown (host := "") (Or.inl (hw _ (List.mem_of_getElem? (i := 19) rfl))) Via.refl e35 f36_4 (g := (mkF m 56 #[vR a0, vI p1, vI p2] [(.ref a0), (.ref a0)])) rfl rfl (hb hby d7_56)
  have pre40 : Go p.tables e below S0 T40 (mkF m 59 #[vR a0, vI p1, vI p2] [(.int (0 : Int32)), (.ref a0)]) := fun t k => pre39 t (st40 t k)
  have pre41 : Go p.tables e below S0 T40 (mkF m 61 #[vR a0, vI p1, vI p2] [(.int (1 : Int32)), (.ref a0)]) := fun t k => pre40 t (by
    refine XS.iconst X40.here hx rfl (hb hby d7_59) ?_
    show Steps p.tables e below (T40.setTop (mkF m 60 #[vR a0, vI p1, vI p2] [(.int (1 : Int32)), (.int (0 : Int32)), (.ref a0)])) _
    refine XS.iadd X40.here hx rfl (hb hby d7_60) rfl ?_
    show Steps p.tables e below (T40.setTop (mkF m 61 #[vR a0, vI p1, vI p2] [(.int (1 : Int32)), (.ref a0)])) _
    exact k)
  obtain ⟨T42, h42, X42, e42, W42, st42⟩ := putF X40 hx hZ hown (host := "") (Or.inl (hw _ (List.mem_of_getElem? (i := 19) rfl))) Via.refl e40 f36_4 f36_1 (Or.inl (hw _ (List.mem_of_getElem? (i := 20) rfl))) (hw _ (List.mem_of_getElem? (i := 2) rfl)) (ty := .int) (by decide) rfl rfl (g := (mkF m 61 #[vR a0, vI p1, vI p2] [(.int (1 : Int32)), (.ref a0)])) rfl rfl (hb hby d7_61)
  have pre42 : Go p.tables e below S0 T42 (mkF m 64 #[vR a0, vI p1, vI p2] []) := fun t k => pre41 t (st42 t k)
  have N42 := Fr.snoc X42 N35 g0
  have fw42 : Fld Z h42 a0 "com/example/motiflow/motiflow/UndoLog" "size" "I" (.int (1 : Int32)) := Fld.same W42 f36_4
  have f43_1 := Exa.wr W42 f36_1
  have f43_2 := Fld.other W42 f36_2 (Or.inr (slot_ne (Or.inl (hw _ (List.mem_of_getElem? (i := 11) rfl))) (Or.inl (hw _ (List.mem_of_getElem? (i := 20) rfl))) (by decide) (t := (.array .int)) (t' := .int) (by decide) (by decide)))
  have f43_3 := Fld.other W42 f36_3 (Or.inr (slot_ne (Or.inl (hw _ (List.mem_of_getElem? (i := 13) rfl))) (Or.inl (hw _ (List.mem_of_getElem? (i := 20) rfl))) (by decide) (t := (.array .int)) (t' := .int) (by decide) (by decide)))
  have f43_4 := f36_5.other W42 xe1
  have f43_5 := av35.other W42 xe2
  have zz44 : n0 ≤ h42.size := Nat.le_trans zz37 (Keep.of_wr W42).1
  have kp45 : Keep h0 h42 [a0, b1, b2] := kp38.wr W42 (Or.inl (List.mem_of_getElem? (i := 0) rfl))
  obtain ⟨fs, hr, hrun, hended, hW, hsame⟩ := X42.leave (v := none) (fun _ => rfl)
  exact ⟨_, _, pre42.fin hS0 (X42.returnOut hx Bd.returns (hb hby d7_64) hr), hrun, hended, _, _, rfl, (by
    show Q7_0 Z a0 p1 p2 b1 b2 k1 k2 h0 n0 _ T42.heap _
    rw [e42]
    exact ⟨rfl, N42, kp45, f43_1, f43_2, f43_3, fw42, f43_4, f43_5⟩), ⟨_, rfl⟩, hW, hsame.mono (by decide) (by decide)⟩
theorem ef_7_1 (m : MethodId) (x0 : Addr) (x1 : Int32) (x2 : Int32) : entryFrame m #[(.ref x0), (.int x1), (.int x2)] 3 = mkF m 0 #[.val (.ref x0), .val (.int x1), .val (.int x2)] [] := by first | (simp [entryFrame, mkF, argsToLocals, Value.category]; done) | rfl
def Q7_1 (Z : State) (a0 : Addr) (p1 p2 : Int32) (b1 b2 : Addr) (k1 k2 : ClassId) (y0 w0 : Int32) (h0 : Heap) (n0 : Nat) (v : Option Value) (h : Heap) (L : List Loc) : Prop := v = none ∧ Fr n0 L ∧ Keep h0 h [a0, b1, b2] ∧ (Exa Z h a0 "com/example/motiflow/motiflow/UndoLog") ∧ (Fld Z h a0 "com/example/motiflow/motiflow/UndoLog" "places" "[I" (.ref b1)) ∧ (Fld Z h a0 "com/example/motiflow/motiflow/UndoLog" "values" "[I" (.ref b2)) ∧ (Fld Z h a0 "com/example/motiflow/motiflow/UndoLog" "size" "I" (.int (2 : Int32))) ∧ (Arv Z h b1 k1 .int (16 : Int32) [(.int y0), (.int p1), (.int (0 : Int32)), (.int (0 : Int32)), (.int (0 : Int32)), (.int (0 : Int32)), (.int (0 : Int32)), (.int (0 : Int32)), (.int (0 : Int32)), (.int (0 : Int32)), (.int (0 : Int32)), (.int (0 : Int32)), (.int (0 : Int32)), (.int (0 : Int32)), (.int (0 : Int32)), (.int (0 : Int32))] (.int (0 : Int32))) ∧ (Arv Z h b2 k2 .int (16 : Int32) [(.int w0), (.int p2), (.int (0 : Int32)), (.int (0 : Int32)), (.int (0 : Int32)), (.int (0 : Int32)), (.int (0 : Int32)), (.int (0 : Int32)), (.int (0 : Int32)), (.int (0 : Int32)), (.int (0 : Int32)), (.int (0 : Int32)), (.int (0 : Int32)), (.int (0 : Int32)), (.int (0 : Int32)), (.int (0 : Int32))] (.int (0 : Int32)))
set_option maxRecDepth 65536 in
set_option maxHeartbeats 40000000 in
theorem rm7_1 (l : Launch) (Z : State) (A0 : Array Value) (hw : ∀ d ∈ tables_1, d.before A0 Z = true) (ws : List Jvm.Cond) (a0 : Addr) (p1 : Int32) (p2 : Int32) (b1 b2 : Addr) (k1 k2 : ClassId) (y0 w0 : Int32) (h0 : Heap) (n0 : Nat) (Z0 : n0 ≤ h0.size) (E0 : Exa Z h0 a0 "com/example/motiflow/motiflow/UndoLog") (F_p : Fld Z h0 a0 "com/example/motiflow/motiflow/UndoLog" "places" "[I" (.ref b1)) (F_v : Fld Z h0 a0 "com/example/motiflow/motiflow/UndoLog" "values" "[I" (.ref b2)) (F_s : Fld Z h0 a0 "com/example/motiflow/motiflow/UndoLog" "size" "I" (.int (1 : Int32))) (V1 : Arv Z h0 b1 k1 .int (16 : Int32) [(.int y0), (.int (0 : Int32)), (.int (0 : Int32)), (.int (0 : Int32)), (.int (0 : Int32)), (.int (0 : Int32)), (.int (0 : Int32)), (.int (0 : Int32)), (.int (0 : Int32)), (.int (0 : Int32)), (.int (0 : Int32)), (.int (0 : Int32)), (.int (0 : Int32)), (.int (0 : Int32)), (.int (0 : Int32)), (.int (0 : Int32))] (.int (0 : Int32))) (V2 : Arv Z h0 b2 k2 .int (16 : Int32) [(.int w0), (.int (0 : Int32)), (.int (0 : Int32)), (.int (0 : Int32)), (.int (0 : Int32)), (.int (0 : Int32)), (.int (0 : Int32)), (.int (0 : Int32)), (.int (0 : Int32)), (.int (0 : Int32)), (.int (0 : Int32)), (.int (0 : Int32)), (.int (0 : Int32)), (.int (0 : Int32)), (.int (0 : Int32)), (.int (0 : Int32))] (.int (0 : Int32))) (xe1 : b1 ≠ a0) (xe2 : b2 ≠ a0) (xe3 : b1 ≠ b2) (g0 : n0 ≤ a0) (xg1 : n0 ≤ b1) (xg2 : n0 ≤ b2) :
    MetFree l (⟨"com/example/motiflow/motiflow/UndoLog", "record", "(II)V"⟩ : MethodName) (head1 (Jvm.Cond.code (⟨"com/example/motiflow/motiflow/UndoLog", "record", "(II)V"⟩ : MethodName) prog_138_method_4_code 3 none :: ws) ({ frames := 1, cells := 0, slots := 0, locals := 15 } : Room)) (fun a U => a = #[(.ref a0), (.int p1), (.int p2)] ∧ Z.Warmed39 U.vm ∧ U.heap = h0) (fun _ _ _ _ _ => True) (fun _ U o U' => ∃ v L, o = .returned v ∧ Q7_1 Z a0 p1 p2 b1 b2 k1 k2 y0 w0 h0 n0 v U'.heap L ∧ FrameEnd U o U' L ({ frames := 1, cells := 0, slots := 0, locals := 15 } : Room).cells ({ frames := 1, cells := 0, slots := 0, locals := 15 } : Room).slots) := by
  refine MetFree.of_bodySF (plainFor_of_name pn_1) hisR ?_
  intro p e s m args below meth c s₁ Bd hml0 hP hK
  obtain ⟨rfl, hZ, hh⟩ := hP
  have hx := Bd.exec
  have hby := Bd.bytes
  have hml : c.maxLocals = 3 := hml0
  have hown : s.vm.findClass "com/example/motiflow/motiflow/UndoLog" = some m.cls := findClass_of_methodNamed Bd.named
  have hnm := (name_of_methodNamed Bd.named Bd.method).1
  have X0 : Stand p l e ({ frames := 1, cells := 0, slots := 0, locals := 15 } : Room) s m #[(.ref a0), (.int p1), (.int p2)] below meth c s₁ [] 0 0 := Stand.of_body Bd
  have e0 : s₁.heap = h0 := by rw [← hh, Bd.state]; rfl
  have N0 := Fr.nil n0
  have kp0 : Keep h0 h0 [a0, b1, b2] := Keep.refl _ _
  obtain ⟨S0, hS0⟩ : ∃ z, z = s₁.setTop (entryFrame m #[(.ref a0), (.int p1), (.int p2)] 3) := ⟨_, rfl⟩
  have pre0 : Go p.tables e below S0 s₁ (mkF m 0 #[vR a0, vI p1, vI p2] []) := fun t k => by rw [hS0]; exact castTop (ef_7_1 m a0 p1 p2) k
  have pre1 : Go p.tables e below S0 s₁ (mkF m 2 #[vR a0, vI p1, vI p2] [(.ref a0), (.ref a0)]) := fun t k => pre0 t (by
    refine XS.aloadN X0.here hx rfl (hb hby d7_0) rfl rfl ?_
    show Steps p.tables e below (s₁.setTop (mkF m 1 #[vR a0, vI p1, vI p2] [(.ref a0)])) _
    refine XS.aloadN X0.here hx rfl (hb hby d7_1) rfl rfl ?_
    show Steps p.tables e below (s₁.setTop (mkF m 2 #[vR a0, vI p1, vI p2] [(.ref a0), (.ref a0)])) _
    exact k)
  obtain ⟨T2, X2, e2, st2⟩ := getF X0 hx hZ hown (host := "") (Or.inl (hw _ (List.mem_of_getElem? (i := 10) rfl))) Via.refl e0 F_p (g := (mkF m 2 #[vR a0, vI p1, vI p2] [(.ref a0), (.ref a0)])) rfl rfl (hb hby d7_2)
  have pre2 : Go p.tables e below S0 T2 (mkF m 5 #[vR a0, vI p1, vI p2] [(.ref b1), (.ref a0)]) := fun t k => pre1 t (st2 t k)
  have pre3 : Go p.tables e below S0 T2 (mkF m 6 #[vR a0, vI p1, vI p2] [(.ref a0), (.ref b1), (.ref a0)]) := fun t k => pre2 t (by
    refine XS.aloadN X2.here hx rfl (hb hby d7_5) rfl rfl ?_
    show Steps p.tables e below (T2.setTop (mkF m 6 #[vR a0, vI p1, vI p2] [(.ref a0), (.ref b1), (.ref a0)])) _
    exact k)
  obtain ⟨T4, X4, e4, st4⟩ := getF X2 hx hZ hown (host := "") (Or.inl (hw _ (List.mem_of_getElem? (i := 19) rfl))) Via.refl e2 F_s (g := (mkF m 6 #[vR a0, vI p1, vI p2] [(.ref a0), (.ref b1), (.ref a0)])) rfl rfl (hb hby d7_6)
  have pre4 : Go p.tables e below S0 T4 (mkF m 9 #[vR a0, vI p1, vI p2] [(.int (1 : Int32)), (.ref b1), (.ref a0)]) := fun t k => pre3 t (st4 t k)
  have pre5 : Go p.tables e below S0 T4 (mkF m 11 #[vR a0, vI p1, vI p2] [(.int (2 : Int32)), (.ref b1), (.ref a0)]) := fun t k => pre4 t (by
    refine XS.iconst X4.here hx rfl (hb hby d7_9) ?_
    show Steps p.tables e below (T4.setTop (mkF m 10 #[vR a0, vI p1, vI p2] [(.int (1 : Int32)), (.int (1 : Int32)), (.ref b1), (.ref a0)])) _
    refine XS.iadd X4.here hx rfl (hb hby d7_10) rfl ?_
    show Steps p.tables e below (T4.setTop (mkF m 11 #[vR a0, vI p1, vI p2] [(.int (2 : Int32)), (.ref b1), (.ref a0)])) _
    exact k)
  obtain ⟨_, _, ⟨T6, qL6, qk6, qn6⟩, -, X6, ⟨Lc6, hQ6, ql6, qy6, qz6⟩, st6⟩ := Jvm.LawKit.callS X4 hx (y := (⟨"com/example/motiflow/motiflow/IntArrays", "room", "([II)[I"⟩ : MethodName)) hown (mvT hZ (hw _ (List.mem_of_getElem? (i := 39) rfl))) (mvT hZ (hw _ (List.mem_of_getElem? (i := 40) rfl))) (mvT hZ (hw _ (List.mem_of_getElem? (i := 41) rfl))) (mvT hZ (hw _ (List.mem_of_getElem? (i := 42) rfl))) (by decide) (backOf (W := 1) (rm8 l Z A0 hw [] b1 (2 : Int32) k1 (16 : Int32) [(.int y0), (.int (0 : Int32)), (.int (0 : Int32)), (.int (0 : Int32)), (.int (0 : Int32)), (.int (0 : Int32)), (.int (0 : Int32)), (.int (0 : Int32)), (.int (0 : Int32)), (.int (0 : Int32)), (.int (0 : Int32)), (.int (0 : Int32)), (.int (0 : Int32)), (.int (0 : Int32)), (.int (0 : Int32)), (.int (0 : Int32))] h0 n0 Z0 V1 (by decide)) hZ (hw _ (List.mem_of_getElem? (i := 42) rfl)) (hw _ (List.mem_of_getElem? (i := 41) rfl)) (by decide) (by decide)) (g := (mkF m 11 #[vR a0, vI p1, vI p2] [(.int (2 : Int32)), (.ref b1), (.ref a0)])) rfl (by rw [hml]; rfl) (argsL := [(.ref b1), (.int (2 : Int32))]) (rest := [(.ref a0)]) (lenOf pd_0 rfl) rfl (by show 2 * 0 + _ ≤ _; exact Nat.le_of_eq rfl) (hb hby d7_11) (fun _ _ => ⟨rfl, e4, (by decide : 0 + 0 ≤ _), (by decide : 0 + 0 ≤ _)⟩)
  dsimp only [Pt.U, Pt.locs, Pt.cells, Pt.slots] at X6 ql6 qy6 qz6 st6 hQ6
  subst ql6 qy6 qz6
  obtain ⟨rfl, Nq6, eq6⟩ := hQ6
  have N6 := Fr.app N0 Nq6
  have pre6 : Go p.tables e below S0 T6 (mkF m 14 #[vR a0, vI p1, vI p2] [(.ref b1), (.ref a0)]) := fun t k => pre5 t (st6 t k)
  obtain ⟨T7, h7, X7, e7, W7, st7⟩ := putF X6 hx hZ hown (host := "") (Or.inl (hw _ (List.mem_of_getElem? (i := 10) rfl))) Via.refl eq6 F_p E0 (Or.inl (hw _ (List.mem_of_getElem? (i := 11) rfl))) (hw _ (List.mem_of_getElem? (i := 2) rfl)) (ty := (.array .int)) (by decide) rfl rfl (g := (mkF m 14 #[vR a0, vI p1, vI p2] [(.ref b1), (.ref a0)])) rfl rfl (hb hby d7_14)
  have pre7 : Go p.tables e below S0 T7 (mkF m 17 #[vR a0, vI p1, vI p2] []) := fun t k => pre6 t (st7 t k)
  have N7 := Fr.snoc X7 N6 g0
  have fw7 : Fld Z h7 a0 "com/example/motiflow/motiflow/UndoLog" "places" "[I" (.ref b1) := Fld.same W7 F_p
  have f8_1 := Exa.wr W7 E0
  have f8_2 := Fld.other W7 F_v (Or.inr (slot_ne (Or.inl (hw _ (List.mem_of_getElem? (i := 13) rfl))) (Or.inl (hw _ (List.mem_of_getElem? (i := 11) rfl))) (by decide) (t := (.array .int)) (t' := (.array .int)) (by decide) (by decide)))
  have f8_3 := Fld.other W7 F_s (Or.inr (slot_ne (Or.inl (hw _ (List.mem_of_getElem? (i := 20) rfl))) (Or.inl (hw _ (List.mem_of_getElem? (i := 11) rfl))) (by decide) (t := .int) (t' := (.array .int)) (by decide) (by decide)))
  have f8_4 := V1.other W7 xe1
  have f8_5 := V2.other W7 xe2
  have zz9 : n0 ≤ h7.size := Nat.le_trans Z0 (Keep.of_wr W7).1
  have kp10 : Keep h0 h7 [a0, b1, b2] := kp0.wr W7 (Or.inl (List.mem_of_getElem? (i := 0) rfl))
  have pre11 : Go p.tables e below S0 T7 (mkF m 19 #[vR a0, vI p1, vI p2] [(.ref a0), (.ref a0)]) := fun t k => pre7 t (by
    refine XS.aloadN X7.here hx rfl (hb hby d7_17) rfl rfl ?_
    show Steps p.tables e below (T7.setTop (mkF m 18 #[vR a0, vI p1, vI p2] [(.ref a0)])) _
    refine XS.aloadN X7.here hx rfl (hb hby d7_18) rfl rfl ?_
    show Steps p.tables e below (T7.setTop (mkF m 19 #[vR a0, vI p1, vI p2] [(.ref a0), (.ref a0)])) _
    exact k)
  obtain ⟨T12, X12, e12, st12⟩ := getF X7 hx hZ hown (host := "") (Or.inl (hw _ (List.mem_of_getElem? (i := 12) rfl))) Via.refl e7 f8_2 (g := (mkF m 19 #[vR a0, vI p1, vI p2] [(.ref a0), (.ref a0)])) rfl rfl (hb hby d7_19)
  have pre12 : Go p.tables e below S0 T12 (mkF m 22 #[vR a0, vI p1, vI p2] [(.ref b2), (.ref a0)]) := fun t k => pre11 t (st12 t k)
  have pre13 : Go p.tables e below S0 T12 (mkF m 23 #[vR a0, vI p1, vI p2] [(.ref a0), (.ref b2), (.ref a0)]) := fun t k => pre12 t (by
    refine XS.aloadN X12.here hx rfl (hb hby d7_22) rfl rfl ?_
    show Steps p.tables e below (T12.setTop (mkF m 23 #[vR a0, vI p1, vI p2] [(.ref a0), (.ref b2), (.ref a0)])) _
    exact k)
  obtain ⟨T14, X14, e14, st14⟩ := getF X12 hx hZ hown (host := "") (Or.inl (hw _ (List.mem_of_getElem? (i := 19) rfl))) Via.refl e12 f8_3 (g := (mkF m 23 #[vR a0, vI p1, vI p2] [(.ref a0), (.ref b2), (.ref a0)])) rfl rfl (hb hby d7_23)
  have pre14 : Go p.tables e below S0 T14 (mkF m 26 #[vR a0, vI p1, vI p2] [(.int (1 : Int32)), (.ref b2), (.ref a0)]) := fun t k => pre13 t (st14 t k)
  have pre15 : Go p.tables e below S0 T14 (mkF m 28 #[vR a0, vI p1, vI p2] [(.int (2 : Int32)), (.ref b2), (.ref a0)]) := fun t k => pre14 t (by
    refine XS.iconst X14.here hx rfl (hb hby d7_26) ?_
    show Steps p.tables e below (T14.setTop (mkF m 27 #[vR a0, vI p1, vI p2] [(.int (1 : Int32)), (.int (1 : Int32)), (.ref b2), (.ref a0)])) _
    refine XS.iadd X14.here hx rfl (hb hby d7_27) rfl ?_
    show Steps p.tables e below (T14.setTop (mkF m 28 #[vR a0, vI p1, vI p2] [(.int (2 : Int32)), (.ref b2), (.ref a0)])) _
    exact k)
  obtain ⟨_, _, ⟨T16, qL16, qk16, qn16⟩, -, X16, ⟨Lc16, hQ16, ql16, qy16, qz16⟩, st16⟩ := Jvm.LawKit.callS X14 hx (y := (⟨"com/example/motiflow/motiflow/IntArrays", "room", "([II)[I"⟩ : MethodName)) hown (mvT hZ (hw _ (List.mem_of_getElem? (i := 39) rfl))) (mvT hZ (hw _ (List.mem_of_getElem? (i := 40) rfl))) (mvT hZ (hw _ (List.mem_of_getElem? (i := 41) rfl))) (mvT hZ (hw _ (List.mem_of_getElem? (i := 42) rfl))) (by decide) (backOf (W := 1) (rm8 l Z A0 hw [] b2 (2 : Int32) k2 (16 : Int32) [(.int w0), (.int (0 : Int32)), (.int (0 : Int32)), (.int (0 : Int32)), (.int (0 : Int32)), (.int (0 : Int32)), (.int (0 : Int32)), (.int (0 : Int32)), (.int (0 : Int32)), (.int (0 : Int32)), (.int (0 : Int32)), (.int (0 : Int32)), (.int (0 : Int32)), (.int (0 : Int32)), (.int (0 : Int32)), (.int (0 : Int32))] h7 n0 zz9 f8_5 (by decide)) hZ (hw _ (List.mem_of_getElem? (i := 42) rfl)) (hw _ (List.mem_of_getElem? (i := 41) rfl)) (by decide) (by decide)) (g := (mkF m 28 #[vR a0, vI p1, vI p2] [(.int (2 : Int32)), (.ref b2), (.ref a0)])) rfl (by rw [hml]; rfl) (argsL := [(.ref b2), (.int (2 : Int32))]) (rest := [(.ref a0)]) (lenOf pd_0 rfl) rfl (by show 2 * 0 + _ ≤ _; exact Nat.le_of_eq rfl) (hb hby d7_28) (fun _ _ => ⟨rfl, e14, (by decide : 0 + 0 ≤ _), (by decide : 0 + 0 ≤ _)⟩)
  dsimp only [Pt.U, Pt.locs, Pt.cells, Pt.slots] at X16 ql16 qy16 qz16 st16 hQ16
  subst ql16 qy16 qz16
  obtain ⟨rfl, Nq16, eq16⟩ := hQ16
  have N16 := Fr.app N7 Nq16
  have pre16 : Go p.tables e below S0 T16 (mkF m 31 #[vR a0, vI p1, vI p2] [(.ref b2), (.ref a0)]) := fun t k => pre15 t (st16 t k)
  obtain ⟨T17, h17, X17, e17, W17, st17⟩ := putF X16 hx hZ hown (host := "") (Or.inl (hw _ (List.mem_of_getElem? (i := 12) rfl))) Via.refl eq16 f8_2 f8_1 (Or.inl (hw _ (List.mem_of_getElem? (i := 13) rfl))) (hw _ (List.mem_of_getElem? (i := 2) rfl)) (ty := (.array .int)) (by decide) rfl rfl (g := (mkF m 31 #[vR a0, vI p1, vI p2] [(.ref b2), (.ref a0)])) rfl rfl (hb hby d7_31)
  have pre17 : Go p.tables e below S0 T17 (mkF m 34 #[vR a0, vI p1, vI p2] []) := fun t k => pre16 t (st17 t k)
  have N17 := Fr.snoc X17 N16 g0
  have fw17 : Fld Z h17 a0 "com/example/motiflow/motiflow/UndoLog" "values" "[I" (.ref b2) := Fld.same W17 f8_2
  have f18_1 := Exa.wr W17 f8_1
  have f18_2 := Fld.other W17 fw7 (Or.inr (slot_ne (Or.inl (hw _ (List.mem_of_getElem? (i := 11) rfl))) (Or.inl (hw _ (List.mem_of_getElem? (i := 13) rfl))) (by decide) (t := (.array .int)) (t' := (.array .int)) (by decide) (by decide)))
  have f18_3 := Fld.other W17 f8_3 (Or.inr (slot_ne (Or.inl (hw _ (List.mem_of_getElem? (i := 20) rfl))) (Or.inl (hw _ (List.mem_of_getElem? (i := 13) rfl))) (by decide) (t := .int) (t' := (.array .int)) (by decide) (by decide)))
  have f18_4 := f8_4.other W17 xe1
  have f18_5 := f8_5.other W17 xe2
  have zz19 : n0 ≤ h17.size := Nat.le_trans zz9 (Keep.of_wr W17).1
  have kp20 : Keep h0 h17 [a0, b1, b2] := kp10.wr W17 (Or.inl (List.mem_of_getElem? (i := 0) rfl))
  have pre21 : Go p.tables e below S0 T17 (mkF m 35 #[vR a0, vI p1, vI p2] [(.ref a0)]) := fun t k => pre17 t (by
    refine XS.aloadN X17.here hx rfl (hb hby d7_34) rfl rfl ?_
    show Steps p.tables e below (T17.setTop (mkF m 35 #[vR a0, vI p1, vI p2] [(.ref a0)])) _
    exact k)
  obtain ⟨T22, X22, e22, st22⟩ := getF X17 hx hZ hown (host := "") (Or.inl (hw _ (List.mem_of_getElem? (i := 10) rfl))) Via.refl e17 f18_2 (g := (mkF m 35 #[vR a0, vI p1, vI p2] [(.ref a0)])) rfl rfl (hb hby d7_35)
  have pre22 : Go p.tables e below S0 T22 (mkF m 38 #[vR a0, vI p1, vI p2] [(.ref b1)]) := fun t k => pre21 t (st22 t k)
  have pre23 : Go p.tables e below S0 T22 (mkF m 39 #[vR a0, vI p1, vI p2] [(.ref a0), (.ref b1)]) := fun t k => pre22 t (by
    refine XS.aloadN X22.here hx rfl (hb hby d7_38) rfl rfl ?_
    show Steps p.tables e below (T22.setTop (mkF m 39 #[vR a0, vI p1, vI p2] [(.ref a0), (.ref b1)])) _
    exact k)
  obtain ⟨T24, X24, e24, st24⟩ := getF X22 hx hZ hown (host := "") (Or.inl (hw _ (List.mem_of_getElem? (i := 19) rfl))) Via.refl e22 f18_3 (g := (mkF m 39 #[vR a0, vI p1, vI p2] [(.ref a0), (.ref b1)])) rfl rfl (hb hby d7_39)
  have pre24 : Go p.tables e below S0 T24 (mkF m 42 #[vR a0, vI p1, vI p2] [(.int (1 : Int32)), (.ref b1)]) := fun t k => pre23 t (st24 t k)
  have pre25 : Go p.tables e below S0 T24 (mkF m 43 #[vR a0, vI p1, vI p2] [(.int p1), (.int (1 : Int32)), (.ref b1)]) := fun t k => pre24 t (by
    refine XS.iloadN X24.here hx rfl (hb hby d7_42) rfl ?_
    show Steps p.tables e below (T24.setTop (mkF m 43 #[vR a0, vI p1, vI p2] [(.int p1), (.int (1 : Int32)), (.ref b1)])) _
    exact k)
  obtain ⟨cl26, Ar26, q26, S26, M26, H26, G26⟩ := id f18_4
  have in26 : ¬ ((1 : Int32) < 0 ∨ cl26.slots.size ≤ ((1 : Int32)).toNatClampNeg) := inb_of S26 ⟨by decide, by decide⟩
  obtain ⟨T26, h26, X26, e26, W26, st26⟩ := stI X24 hx hZ e24 Ar26 (j := (1 : Int32)) in26 (g := (mkF m 43 #[vR a0, vI p1, vI p2] [(.int p1), (.int (1 : Int32)), (.ref b1)])) rfl rfl (hb hby d7_43)
  have pre26 : Go p.tables e below S0 T26 (mkF m 44 #[vR a0, vI p1, vI p2] []) := fun t k => pre25 t (st26 t k)
  have N26 := Fr.snoc X26 N17 xg1
  have av26 : Arv Z h26 b1 k1 .int (16 : Int32) [(.int y0), (.int p1), (.int (0 : Int32)), (.int (0 : Int32)), (.int (0 : Int32)), (.int (0 : Int32)), (.int (0 : Int32)), (.int (0 : Int32)), (.int (0 : Int32)), (.int (0 : Int32)), (.int (0 : Int32)), (.int (0 : Int32)), (.int (0 : Int32)), (.int (0 : Int32)), (.int (0 : Int32)), (.int (0 : Int32))] (.int (0 : Int32)) := Arv.set Ar26 q26 S26 M26 H26 G26 rfl W26 1 rfl (Nat.le_of_ble_eq_true rfl)
  have f27_1 := Exa.wr W26 f18_1
  have f27_2 := Fld.other W26 f18_2 (Or.inl (Ne.symm xe1))
  have f27_3 := Fld.other W26 fw17 (Or.inl (Ne.symm xe1))
  have f27_4 := Fld.other W26 f18_3 (Or.inl (Ne.symm xe1))
  have f27_5 := f18_5.other W26 (Ne.symm xe3)
  have zz28 : n0 ≤ h26.size := Nat.le_trans zz19 (Keep.of_wr W26).1
  have kp29 : Keep h0 h26 [a0, b1, b2] := kp20.wr W26 (Or.inl (List.mem_of_getElem? (i := 1) rfl))
  have pre30 : Go p.tables e below S0 T26 (mkF m 45 #[vR a0, vI p1, vI p2] [(.ref a0)]) := fun t k => pre26 t (by
    refine XS.aloadN X26.here hx rfl (hb hby d7_44) rfl rfl ?_
    show Steps p.tables e below (T26.setTop (mkF m 45 #[vR a0, vI p1, vI p2] [(.ref a0)])) _
    exact k)
  obtain ⟨T31, X31, e31, st31⟩ := getF X26 hx hZ hown (host := "") (Or.inl (hw _ (List.mem_of_getElem? (i := 12) rfl))) Via.refl e26 f27_3 (g := (mkF m 45 #[vR a0, vI p1, vI p2] [(.ref a0)])) rfl rfl (hb hby d7_45)
  have pre31 : Go p.tables e below S0 T31 (mkF m 48 #[vR a0, vI p1, vI p2] [(.ref b2)]) := fun t k => pre30 t (st31 t k)
  have pre32 : Go p.tables e below S0 T31 (mkF m 49 #[vR a0, vI p1, vI p2] [(.ref a0), (.ref b2)]) := fun t k => pre31 t (by
    refine XS.aloadN X31.here hx rfl (hb hby d7_48) rfl rfl ?_
    show Steps p.tables e below (T31.setTop (mkF m 49 #[vR a0, vI p1, vI p2] [(.ref a0), (.ref b2)])) _
    exact k)
  obtain ⟨T33, X33, e33, st33⟩ := getF X31 hx hZ hown (host := "") (Or.inl (hw _ (List.mem_of_getElem? (i := 19) rfl))) Via.refl e31 f27_4 (g := (mkF m 49 #[vR a0, vI p1, vI p2] [(.ref a0), (.ref b2)])) rfl rfl (hb hby d7_49)
  have pre33 : Go p.tables e below S0 T33 (mkF m 52 #[vR a0, vI p1, vI p2] [(.int (1 : Int32)), (.ref b2)]) := fun t k => pre32 t (st33 t k)
  have pre34 : Go p.tables e below S0 T33 (mkF m 53 #[vR a0, vI p1, vI p2] [(.int p2), (.int (1 : Int32)), (.ref b2)]) := fun t k => pre33 t (by
    refine XS.iloadN X33.here hx rfl (hb hby d7_52) rfl ?_
    show Steps p.tables e below (T33.setTop (mkF m 53 #[vR a0, vI p1, vI p2] [(.int p2), (.int (1 : Int32)), (.ref b2)])) _
    exact k)
  obtain ⟨cl35, Ar35, q35, S35, M35, H35, G35⟩ := id f27_5
  have in35 : ¬ ((1 : Int32) < 0 ∨ cl35.slots.size ≤ ((1 : Int32)).toNatClampNeg) := inb_of S35 ⟨by decide, by decide⟩
  obtain ⟨T35, h35, X35, e35, W35, st35⟩ := stI X33 hx hZ e33 Ar35 (j := (1 : Int32)) in35 (g := (mkF m 53 #[vR a0, vI p1, vI p2] [(.int p2), (.int (1 : Int32)), (.ref b2)])) rfl rfl (hb hby d7_53)
  have pre35 : Go p.tables e below S0 T35 (mkF m 54 #[vR a0, vI p1, vI p2] []) := fun t k => pre34 t (st35 t k)
  have N35 := Fr.snoc X35 N26 xg2
  have av35 : Arv Z h35 b2 k2 .int (16 : Int32) [(.int w0), (.int p2), (.int (0 : Int32)), (.int (0 : Int32)), (.int (0 : Int32)), (.int (0 : Int32)), (.int (0 : Int32)), (.int (0 : Int32)), (.int (0 : Int32)), (.int (0 : Int32)), (.int (0 : Int32)), (.int (0 : Int32)), (.int (0 : Int32)), (.int (0 : Int32)), (.int (0 : Int32)), (.int (0 : Int32))] (.int (0 : Int32)) := Arv.set Ar35 q35 S35 M35 H35 G35 rfl W35 1 rfl (Nat.le_of_ble_eq_true rfl)
  have f36_1 := Exa.wr W35 f27_1
  have f36_2 := Fld.other W35 f27_2 (Or.inl (Ne.symm xe2))
  have f36_3 := Fld.other W35 f27_3 (Or.inl (Ne.symm xe2))
  have f36_4 := Fld.other W35 f27_4 (Or.inl (Ne.symm xe2))
  have f36_5 := av26.other W35 xe3
  have zz37 : n0 ≤ h35.size := Nat.le_trans zz28 (Keep.of_wr W35).1
  have kp38 : Keep h0 h35 [a0, b1, b2] := kp29.wr W35 (Or.inl (List.mem_of_getElem? (i := 2) rfl))
  have pre39 : Go p.tables e below S0 T35 (mkF m 56 #[vR a0, vI p1, vI p2] [(.ref a0), (.ref a0)]) := fun t k => pre35 t (by
    refine XS.aloadN X35.here hx rfl (hb hby d7_54) rfl rfl ?_
    show Steps p.tables e below (T35.setTop (mkF m 55 #[vR a0, vI p1, vI p2] [(.ref a0)])) _
    refine XS.dup X35.here hx rfl (hb hby d7_55) rfl rfl ?_
    show Steps p.tables e below (T35.setTop (mkF m 56 #[vR a0, vI p1, vI p2] [(.ref a0), (.ref a0)])) _
    exact k)
  obtain ⟨T40, X40, e40, st40⟩ := getF X35 hx hZ hown (host := "") (Or.inl (hw _ (List.mem_of_getElem? (i := 19) rfl))) Via.refl e35 f36_4 (g := (mkF m 56 #[vR a0, vI p1, vI p2] [(.ref a0), (.ref a0)])) rfl rfl (hb hby d7_56)
  have pre40 : Go p.tables e below S0 T40 (mkF m 59 #[vR a0, vI p1, vI p2] [(.int (1 : Int32)), (.ref a0)]) := fun t k => pre39 t (st40 t k)
  have pre41 : Go p.tables e below S0 T40 (mkF m 61 #[vR a0, vI p1, vI p2] [(.int (2 : Int32)), (.ref a0)]) := fun t k => pre40 t (by
    refine XS.iconst X40.here hx rfl (hb hby d7_59) ?_
    show Steps p.tables e below (T40.setTop (mkF m 60 #[vR a0, vI p1, vI p2] [(.int (1 : Int32)), (.int (1 : Int32)), (.ref a0)])) _
    refine XS.iadd X40.here hx rfl (hb hby d7_60) rfl ?_
    show Steps p.tables e below (T40.setTop (mkF m 61 #[vR a0, vI p1, vI p2] [(.int (2 : Int32)), (.ref a0)])) _
    exact k)
  obtain ⟨T42, h42, X42, e42, W42, st42⟩ := putF X40 hx hZ hown (host := "") (Or.inl (hw _ (List.mem_of_getElem? (i := 19) rfl))) Via.refl e40 f36_4 f36_1 (Or.inl (hw _ (List.mem_of_getElem? (i := 20) rfl))) (hw _ (List.mem_of_getElem? (i := 2) rfl)) (ty := .int) (by decide) rfl rfl (g := (mkF m 61 #[vR a0, vI p1, vI p2] [(.int (2 : Int32)), (.ref a0)])) rfl rfl (hb hby d7_61)
  have pre42 : Go p.tables e below S0 T42 (mkF m 64 #[vR a0, vI p1, vI p2] []) := fun t k => pre41 t (st42 t k)
  have N42 := Fr.snoc X42 N35 g0
  have fw42 : Fld Z h42 a0 "com/example/motiflow/motiflow/UndoLog" "size" "I" (.int (2 : Int32)) := Fld.same W42 f36_4
  have f43_1 := Exa.wr W42 f36_1
  have f43_2 := Fld.other W42 f36_2 (Or.inr (slot_ne (Or.inl (hw _ (List.mem_of_getElem? (i := 11) rfl))) (Or.inl (hw _ (List.mem_of_getElem? (i := 20) rfl))) (by decide) (t := (.array .int)) (t' := .int) (by decide) (by decide)))
  have f43_3 := Fld.other W42 f36_3 (Or.inr (slot_ne (Or.inl (hw _ (List.mem_of_getElem? (i := 13) rfl))) (Or.inl (hw _ (List.mem_of_getElem? (i := 20) rfl))) (by decide) (t := (.array .int)) (t' := .int) (by decide) (by decide)))
  have f43_4 := f36_5.other W42 xe1
  have f43_5 := av35.other W42 xe2
  have zz44 : n0 ≤ h42.size := Nat.le_trans zz37 (Keep.of_wr W42).1
  have kp45 : Keep h0 h42 [a0, b1, b2] := kp38.wr W42 (Or.inl (List.mem_of_getElem? (i := 0) rfl))
  obtain ⟨fs, hr, hrun, hended, hW, hsame⟩ := X42.leave (v := none) (fun _ => rfl)
  exact ⟨_, _, pre42.fin hS0 (X42.returnOut hx Bd.returns (hb hby d7_64) hr), hrun, hended, _, _, rfl, (by
    show Q7_1 Z a0 p1 p2 b1 b2 k1 k2 y0 w0 h0 n0 _ T42.heap _
    rw [e42]
    exact ⟨rfl, N42, kp45, f43_1, f43_2, f43_3, fw42, f43_4, f43_5⟩), ⟨_, rfl⟩, hW, hsame.mono (by decide) (by decide)⟩
theorem ef_7_2 (m : MethodId) (x0 : Addr) (x1 : Int32) (x2 : Int32) : entryFrame m #[(.ref x0), (.int x1), (.int x2)] 3 = mkF m 0 #[.val (.ref x0), .val (.int x1), .val (.int x2)] [] := by first | (simp [entryFrame, mkF, argsToLocals, Value.category]; done) | rfl
def Q7_2 (Z : State) (a0 : Addr) (p1 p2 : Int32) (b1 b2 : Addr) (k1 k2 : ClassId) (y0 w0 : Int32) (y1 w1 : Int32) (h0 : Heap) (n0 : Nat) (v : Option Value) (h : Heap) (L : List Loc) : Prop := v = none ∧ Fr n0 L ∧ Keep h0 h [a0, b1, b2] ∧ (Exa Z h a0 "com/example/motiflow/motiflow/UndoLog") ∧ (Fld Z h a0 "com/example/motiflow/motiflow/UndoLog" "places" "[I" (.ref b1)) ∧ (Fld Z h a0 "com/example/motiflow/motiflow/UndoLog" "values" "[I" (.ref b2)) ∧ (Fld Z h a0 "com/example/motiflow/motiflow/UndoLog" "size" "I" (.int (3 : Int32))) ∧ (Arv Z h b1 k1 .int (16 : Int32) [(.int y0), (.int y1), (.int p1), (.int (0 : Int32)), (.int (0 : Int32)), (.int (0 : Int32)), (.int (0 : Int32)), (.int (0 : Int32)), (.int (0 : Int32)), (.int (0 : Int32)), (.int (0 : Int32)), (.int (0 : Int32)), (.int (0 : Int32)), (.int (0 : Int32)), (.int (0 : Int32)), (.int (0 : Int32))] (.int (0 : Int32))) ∧ (Arv Z h b2 k2 .int (16 : Int32) [(.int w0), (.int w1), (.int p2), (.int (0 : Int32)), (.int (0 : Int32)), (.int (0 : Int32)), (.int (0 : Int32)), (.int (0 : Int32)), (.int (0 : Int32)), (.int (0 : Int32)), (.int (0 : Int32)), (.int (0 : Int32)), (.int (0 : Int32)), (.int (0 : Int32)), (.int (0 : Int32)), (.int (0 : Int32))] (.int (0 : Int32)))
set_option maxRecDepth 65536 in
set_option maxHeartbeats 40000000 in
theorem rm7_2 (l : Launch) (Z : State) (A0 : Array Value) (hw : ∀ d ∈ tables_1, d.before A0 Z = true) (ws : List Jvm.Cond) (a0 : Addr) (p1 : Int32) (p2 : Int32) (b1 b2 : Addr) (k1 k2 : ClassId) (y0 w0 : Int32) (y1 w1 : Int32) (h0 : Heap) (n0 : Nat) (Z0 : n0 ≤ h0.size) (E0 : Exa Z h0 a0 "com/example/motiflow/motiflow/UndoLog") (F_p : Fld Z h0 a0 "com/example/motiflow/motiflow/UndoLog" "places" "[I" (.ref b1)) (F_v : Fld Z h0 a0 "com/example/motiflow/motiflow/UndoLog" "values" "[I" (.ref b2)) (F_s : Fld Z h0 a0 "com/example/motiflow/motiflow/UndoLog" "size" "I" (.int (2 : Int32))) (V1 : Arv Z h0 b1 k1 .int (16 : Int32) [(.int y0), (.int y1), (.int (0 : Int32)), (.int (0 : Int32)), (.int (0 : Int32)), (.int (0 : Int32)), (.int (0 : Int32)), (.int (0 : Int32)), (.int (0 : Int32)), (.int (0 : Int32)), (.int (0 : Int32)), (.int (0 : Int32)), (.int (0 : Int32)), (.int (0 : Int32)), (.int (0 : Int32)), (.int (0 : Int32))] (.int (0 : Int32))) (V2 : Arv Z h0 b2 k2 .int (16 : Int32) [(.int w0), (.int w1), (.int (0 : Int32)), (.int (0 : Int32)), (.int (0 : Int32)), (.int (0 : Int32)), (.int (0 : Int32)), (.int (0 : Int32)), (.int (0 : Int32)), (.int (0 : Int32)), (.int (0 : Int32)), (.int (0 : Int32)), (.int (0 : Int32)), (.int (0 : Int32)), (.int (0 : Int32)), (.int (0 : Int32))] (.int (0 : Int32))) (xe1 : b1 ≠ a0) (xe2 : b2 ≠ a0) (xe3 : b1 ≠ b2) (g0 : n0 ≤ a0) (xg1 : n0 ≤ b1) (xg2 : n0 ≤ b2) :
    MetFree l (⟨"com/example/motiflow/motiflow/UndoLog", "record", "(II)V"⟩ : MethodName) (head1 (Jvm.Cond.code (⟨"com/example/motiflow/motiflow/UndoLog", "record", "(II)V"⟩ : MethodName) prog_138_method_4_code 3 none :: ws) ({ frames := 1, cells := 0, slots := 0, locals := 15 } : Room)) (fun a U => a = #[(.ref a0), (.int p1), (.int p2)] ∧ Z.Warmed39 U.vm ∧ U.heap = h0) (fun _ _ _ _ _ => True) (fun _ U o U' => ∃ v L, o = .returned v ∧ Q7_2 Z a0 p1 p2 b1 b2 k1 k2 y0 w0 y1 w1 h0 n0 v U'.heap L ∧ FrameEnd U o U' L ({ frames := 1, cells := 0, slots := 0, locals := 15 } : Room).cells ({ frames := 1, cells := 0, slots := 0, locals := 15 } : Room).slots) := by
  refine MetFree.of_bodySF (plainFor_of_name pn_1) hisR ?_
  intro p e s m args below meth c s₁ Bd hml0 hP hK
  obtain ⟨rfl, hZ, hh⟩ := hP
  have hx := Bd.exec
  have hby := Bd.bytes
  have hml : c.maxLocals = 3 := hml0
  have hown : s.vm.findClass "com/example/motiflow/motiflow/UndoLog" = some m.cls := findClass_of_methodNamed Bd.named
  have hnm := (name_of_methodNamed Bd.named Bd.method).1
  have X0 : Stand p l e ({ frames := 1, cells := 0, slots := 0, locals := 15 } : Room) s m #[(.ref a0), (.int p1), (.int p2)] below meth c s₁ [] 0 0 := Stand.of_body Bd
  have e0 : s₁.heap = h0 := by rw [← hh, Bd.state]; rfl
  have N0 := Fr.nil n0
  have kp0 : Keep h0 h0 [a0, b1, b2] := Keep.refl _ _
  obtain ⟨S0, hS0⟩ : ∃ z, z = s₁.setTop (entryFrame m #[(.ref a0), (.int p1), (.int p2)] 3) := ⟨_, rfl⟩
  have pre0 : Go p.tables e below S0 s₁ (mkF m 0 #[vR a0, vI p1, vI p2] []) := fun t k => by rw [hS0]; exact castTop (ef_7_2 m a0 p1 p2) k
  have pre1 : Go p.tables e below S0 s₁ (mkF m 2 #[vR a0, vI p1, vI p2] [(.ref a0), (.ref a0)]) := fun t k => pre0 t (by
    refine XS.aloadN X0.here hx rfl (hb hby d7_0) rfl rfl ?_
    show Steps p.tables e below (s₁.setTop (mkF m 1 #[vR a0, vI p1, vI p2] [(.ref a0)])) _
    refine XS.aloadN X0.here hx rfl (hb hby d7_1) rfl rfl ?_
    show Steps p.tables e below (s₁.setTop (mkF m 2 #[vR a0, vI p1, vI p2] [(.ref a0), (.ref a0)])) _
    exact k)
  obtain ⟨T2, X2, e2, st2⟩ := getF X0 hx hZ hown (host := "") (Or.inl (hw _ (List.mem_of_getElem? (i := 10) rfl))) Via.refl e0 F_p (g := (mkF m 2 #[vR a0, vI p1, vI p2] [(.ref a0), (.ref a0)])) rfl rfl (hb hby d7_2)
  have pre2 : Go p.tables e below S0 T2 (mkF m 5 #[vR a0, vI p1, vI p2] [(.ref b1), (.ref a0)]) := fun t k => pre1 t (st2 t k)
  have pre3 : Go p.tables e below S0 T2 (mkF m 6 #[vR a0, vI p1, vI p2] [(.ref a0), (.ref b1), (.ref a0)]) := fun t k => pre2 t (by
    refine XS.aloadN X2.here hx rfl (hb hby d7_5) rfl rfl ?_
    show Steps p.tables e below (T2.setTop (mkF m 6 #[vR a0, vI p1, vI p2] [(.ref a0), (.ref b1), (.ref a0)])) _
    exact k)
  obtain ⟨T4, X4, e4, st4⟩ := getF X2 hx hZ hown (host := "") (Or.inl (hw _ (List.mem_of_getElem? (i := 19) rfl))) Via.refl e2 F_s (g := (mkF m 6 #[vR a0, vI p1, vI p2] [(.ref a0), (.ref b1), (.ref a0)])) rfl rfl (hb hby d7_6)
  have pre4 : Go p.tables e below S0 T4 (mkF m 9 #[vR a0, vI p1, vI p2] [(.int (2 : Int32)), (.ref b1), (.ref a0)]) := fun t k => pre3 t (st4 t k)
  have pre5 : Go p.tables e below S0 T4 (mkF m 11 #[vR a0, vI p1, vI p2] [(.int (3 : Int32)), (.ref b1), (.ref a0)]) := fun t k => pre4 t (by
    refine XS.iconst X4.here hx rfl (hb hby d7_9) ?_
    show Steps p.tables e below (T4.setTop (mkF m 10 #[vR a0, vI p1, vI p2] [(.int (1 : Int32)), (.int (2 : Int32)), (.ref b1), (.ref a0)])) _
    refine XS.iadd X4.here hx rfl (hb hby d7_10) rfl ?_
    show Steps p.tables e below (T4.setTop (mkF m 11 #[vR a0, vI p1, vI p2] [(.int (3 : Int32)), (.ref b1), (.ref a0)])) _
    exact k)
  obtain ⟨_, _, ⟨T6, qL6, qk6, qn6⟩, -, X6, ⟨Lc6, hQ6, ql6, qy6, qz6⟩, st6⟩ := Jvm.LawKit.callS X4 hx (y := (⟨"com/example/motiflow/motiflow/IntArrays", "room", "([II)[I"⟩ : MethodName)) hown (mvT hZ (hw _ (List.mem_of_getElem? (i := 39) rfl))) (mvT hZ (hw _ (List.mem_of_getElem? (i := 40) rfl))) (mvT hZ (hw _ (List.mem_of_getElem? (i := 41) rfl))) (mvT hZ (hw _ (List.mem_of_getElem? (i := 42) rfl))) (by decide) (backOf (W := 1) (rm8 l Z A0 hw [] b1 (3 : Int32) k1 (16 : Int32) [(.int y0), (.int y1), (.int (0 : Int32)), (.int (0 : Int32)), (.int (0 : Int32)), (.int (0 : Int32)), (.int (0 : Int32)), (.int (0 : Int32)), (.int (0 : Int32)), (.int (0 : Int32)), (.int (0 : Int32)), (.int (0 : Int32)), (.int (0 : Int32)), (.int (0 : Int32)), (.int (0 : Int32)), (.int (0 : Int32))] h0 n0 Z0 V1 (by decide)) hZ (hw _ (List.mem_of_getElem? (i := 42) rfl)) (hw _ (List.mem_of_getElem? (i := 41) rfl)) (by decide) (by decide)) (g := (mkF m 11 #[vR a0, vI p1, vI p2] [(.int (3 : Int32)), (.ref b1), (.ref a0)])) rfl (by rw [hml]; rfl) (argsL := [(.ref b1), (.int (3 : Int32))]) (rest := [(.ref a0)]) (lenOf pd_0 rfl) rfl (by show 2 * 0 + _ ≤ _; exact Nat.le_of_eq rfl) (hb hby d7_11) (fun _ _ => ⟨rfl, e4, (by decide : 0 + 0 ≤ _), (by decide : 0 + 0 ≤ _)⟩)
  dsimp only [Pt.U, Pt.locs, Pt.cells, Pt.slots] at X6 ql6 qy6 qz6 st6 hQ6
  subst ql6 qy6 qz6
  obtain ⟨rfl, Nq6, eq6⟩ := hQ6
  have N6 := Fr.app N0 Nq6
  have pre6 : Go p.tables e below S0 T6 (mkF m 14 #[vR a0, vI p1, vI p2] [(.ref b1), (.ref a0)]) := fun t k => pre5 t (st6 t k)
  obtain ⟨T7, h7, X7, e7, W7, st7⟩ := putF X6 hx hZ hown (host := "") (Or.inl (hw _ (List.mem_of_getElem? (i := 10) rfl))) Via.refl eq6 F_p E0 (Or.inl (hw _ (List.mem_of_getElem? (i := 11) rfl))) (hw _ (List.mem_of_getElem? (i := 2) rfl)) (ty := (.array .int)) (by decide) rfl rfl (g := (mkF m 14 #[vR a0, vI p1, vI p2] [(.ref b1), (.ref a0)])) rfl rfl (hb hby d7_14)
  have pre7 : Go p.tables e below S0 T7 (mkF m 17 #[vR a0, vI p1, vI p2] []) := fun t k => pre6 t (st7 t k)
  have N7 := Fr.snoc X7 N6 g0
  have fw7 : Fld Z h7 a0 "com/example/motiflow/motiflow/UndoLog" "places" "[I" (.ref b1) := Fld.same W7 F_p
  have f8_1 := Exa.wr W7 E0
  have f8_2 := Fld.other W7 F_v (Or.inr (slot_ne (Or.inl (hw _ (List.mem_of_getElem? (i := 13) rfl))) (Or.inl (hw _ (List.mem_of_getElem? (i := 11) rfl))) (by decide) (t := (.array .int)) (t' := (.array .int)) (by decide) (by decide)))
  have f8_3 := Fld.other W7 F_s (Or.inr (slot_ne (Or.inl (hw _ (List.mem_of_getElem? (i := 20) rfl))) (Or.inl (hw _ (List.mem_of_getElem? (i := 11) rfl))) (by decide) (t := .int) (t' := (.array .int)) (by decide) (by decide)))
  have f8_4 := V1.other W7 xe1
  have f8_5 := V2.other W7 xe2
  have zz9 : n0 ≤ h7.size := Nat.le_trans Z0 (Keep.of_wr W7).1
  have kp10 : Keep h0 h7 [a0, b1, b2] := kp0.wr W7 (Or.inl (List.mem_of_getElem? (i := 0) rfl))
  have pre11 : Go p.tables e below S0 T7 (mkF m 19 #[vR a0, vI p1, vI p2] [(.ref a0), (.ref a0)]) := fun t k => pre7 t (by
    refine XS.aloadN X7.here hx rfl (hb hby d7_17) rfl rfl ?_
    show Steps p.tables e below (T7.setTop (mkF m 18 #[vR a0, vI p1, vI p2] [(.ref a0)])) _
    refine XS.aloadN X7.here hx rfl (hb hby d7_18) rfl rfl ?_
    show Steps p.tables e below (T7.setTop (mkF m 19 #[vR a0, vI p1, vI p2] [(.ref a0), (.ref a0)])) _
    exact k)
  obtain ⟨T12, X12, e12, st12⟩ := getF X7 hx hZ hown (host := "") (Or.inl (hw _ (List.mem_of_getElem? (i := 12) rfl))) Via.refl e7 f8_2 (g := (mkF m 19 #[vR a0, vI p1, vI p2] [(.ref a0), (.ref a0)])) rfl rfl (hb hby d7_19)
  have pre12 : Go p.tables e below S0 T12 (mkF m 22 #[vR a0, vI p1, vI p2] [(.ref b2), (.ref a0)]) := fun t k => pre11 t (st12 t k)
  have pre13 : Go p.tables e below S0 T12 (mkF m 23 #[vR a0, vI p1, vI p2] [(.ref a0), (.ref b2), (.ref a0)]) := fun t k => pre12 t (by
    refine XS.aloadN X12.here hx rfl (hb hby d7_22) rfl rfl ?_
    show Steps p.tables e below (T12.setTop (mkF m 23 #[vR a0, vI p1, vI p2] [(.ref a0), (.ref b2), (.ref a0)])) _
    exact k)
  obtain ⟨T14, X14, e14, st14⟩ := getF X12 hx hZ hown (host := "") (Or.inl (hw _ (List.mem_of_getElem? (i := 19) rfl))) Via.refl e12 f8_3 (g := (mkF m 23 #[vR a0, vI p1, vI p2] [(.ref a0), (.ref b2), (.ref a0)])) rfl rfl (hb hby d7_23)
  have pre14 : Go p.tables e below S0 T14 (mkF m 26 #[vR a0, vI p1, vI p2] [(.int (2 : Int32)), (.ref b2), (.ref a0)]) := fun t k => pre13 t (st14 t k)
  have pre15 : Go p.tables e below S0 T14 (mkF m 28 #[vR a0, vI p1, vI p2] [(.int (3 : Int32)), (.ref b2), (.ref a0)]) := fun t k => pre14 t (by
    refine XS.iconst X14.here hx rfl (hb hby d7_26) ?_
    show Steps p.tables e below (T14.setTop (mkF m 27 #[vR a0, vI p1, vI p2] [(.int (1 : Int32)), (.int (2 : Int32)), (.ref b2), (.ref a0)])) _
    refine XS.iadd X14.here hx rfl (hb hby d7_27) rfl ?_
    show Steps p.tables e below (T14.setTop (mkF m 28 #[vR a0, vI p1, vI p2] [(.int (3 : Int32)), (.ref b2), (.ref a0)])) _
    exact k)
  obtain ⟨_, _, ⟨T16, qL16, qk16, qn16⟩, -, X16, ⟨Lc16, hQ16, ql16, qy16, qz16⟩, st16⟩ := Jvm.LawKit.callS X14 hx (y := (⟨"com/example/motiflow/motiflow/IntArrays", "room", "([II)[I"⟩ : MethodName)) hown (mvT hZ (hw _ (List.mem_of_getElem? (i := 39) rfl))) (mvT hZ (hw _ (List.mem_of_getElem? (i := 40) rfl))) (mvT hZ (hw _ (List.mem_of_getElem? (i := 41) rfl))) (mvT hZ (hw _ (List.mem_of_getElem? (i := 42) rfl))) (by decide) (backOf (W := 1) (rm8 l Z A0 hw [] b2 (3 : Int32) k2 (16 : Int32) [(.int w0), (.int w1), (.int (0 : Int32)), (.int (0 : Int32)), (.int (0 : Int32)), (.int (0 : Int32)), (.int (0 : Int32)), (.int (0 : Int32)), (.int (0 : Int32)), (.int (0 : Int32)), (.int (0 : Int32)), (.int (0 : Int32)), (.int (0 : Int32)), (.int (0 : Int32)), (.int (0 : Int32)), (.int (0 : Int32))] h7 n0 zz9 f8_5 (by decide)) hZ (hw _ (List.mem_of_getElem? (i := 42) rfl)) (hw _ (List.mem_of_getElem? (i := 41) rfl)) (by decide) (by decide)) (g := (mkF m 28 #[vR a0, vI p1, vI p2] [(.int (3 : Int32)), (.ref b2), (.ref a0)])) rfl (by rw [hml]; rfl) (argsL := [(.ref b2), (.int (3 : Int32))]) (rest := [(.ref a0)]) (lenOf pd_0 rfl) rfl (by show 2 * 0 + _ ≤ _; exact Nat.le_of_eq rfl) (hb hby d7_28) (fun _ _ => ⟨rfl, e14, (by decide : 0 + 0 ≤ _), (by decide : 0 + 0 ≤ _)⟩)
  dsimp only [Pt.U, Pt.locs, Pt.cells, Pt.slots] at X16 ql16 qy16 qz16 st16 hQ16
  subst ql16 qy16 qz16
  obtain ⟨rfl, Nq16, eq16⟩ := hQ16
  have N16 := Fr.app N7 Nq16
  have pre16 : Go p.tables e below S0 T16 (mkF m 31 #[vR a0, vI p1, vI p2] [(.ref b2), (.ref a0)]) := fun t k => pre15 t (st16 t k)
  obtain ⟨T17, h17, X17, e17, W17, st17⟩ := putF X16 hx hZ hown (host := "") (Or.inl (hw _ (List.mem_of_getElem? (i := 12) rfl))) Via.refl eq16 f8_2 f8_1 (Or.inl (hw _ (List.mem_of_getElem? (i := 13) rfl))) (hw _ (List.mem_of_getElem? (i := 2) rfl)) (ty := (.array .int)) (by decide) rfl rfl (g := (mkF m 31 #[vR a0, vI p1, vI p2] [(.ref b2), (.ref a0)])) rfl rfl (hb hby d7_31)
  have pre17 : Go p.tables e below S0 T17 (mkF m 34 #[vR a0, vI p1, vI p2] []) := fun t k => pre16 t (st17 t k)
  have N17 := Fr.snoc X17 N16 g0
  have fw17 : Fld Z h17 a0 "com/example/motiflow/motiflow/UndoLog" "values" "[I" (.ref b2) := Fld.same W17 f8_2
  have f18_1 := Exa.wr W17 f8_1
  have f18_2 := Fld.other W17 fw7 (Or.inr (slot_ne (Or.inl (hw _ (List.mem_of_getElem? (i := 11) rfl))) (Or.inl (hw _ (List.mem_of_getElem? (i := 13) rfl))) (by decide) (t := (.array .int)) (t' := (.array .int)) (by decide) (by decide)))
  have f18_3 := Fld.other W17 f8_3 (Or.inr (slot_ne (Or.inl (hw _ (List.mem_of_getElem? (i := 20) rfl))) (Or.inl (hw _ (List.mem_of_getElem? (i := 13) rfl))) (by decide) (t := .int) (t' := (.array .int)) (by decide) (by decide)))
  have f18_4 := f8_4.other W17 xe1
  have f18_5 := f8_5.other W17 xe2
  have zz19 : n0 ≤ h17.size := Nat.le_trans zz9 (Keep.of_wr W17).1
  have kp20 : Keep h0 h17 [a0, b1, b2] := kp10.wr W17 (Or.inl (List.mem_of_getElem? (i := 0) rfl))
  have pre21 : Go p.tables e below S0 T17 (mkF m 35 #[vR a0, vI p1, vI p2] [(.ref a0)]) := fun t k => pre17 t (by
    refine XS.aloadN X17.here hx rfl (hb hby d7_34) rfl rfl ?_
    show Steps p.tables e below (T17.setTop (mkF m 35 #[vR a0, vI p1, vI p2] [(.ref a0)])) _
    exact k)
  obtain ⟨T22, X22, e22, st22⟩ := getF X17 hx hZ hown (host := "") (Or.inl (hw _ (List.mem_of_getElem? (i := 10) rfl))) Via.refl e17 f18_2 (g := (mkF m 35 #[vR a0, vI p1, vI p2] [(.ref a0)])) rfl rfl (hb hby d7_35)
  have pre22 : Go p.tables e below S0 T22 (mkF m 38 #[vR a0, vI p1, vI p2] [(.ref b1)]) := fun t k => pre21 t (st22 t k)
  have pre23 : Go p.tables e below S0 T22 (mkF m 39 #[vR a0, vI p1, vI p2] [(.ref a0), (.ref b1)]) := fun t k => pre22 t (by
    refine XS.aloadN X22.here hx rfl (hb hby d7_38) rfl rfl ?_
    show Steps p.tables e below (T22.setTop (mkF m 39 #[vR a0, vI p1, vI p2] [(.ref a0), (.ref b1)])) _
    exact k)
  obtain ⟨T24, X24, e24, st24⟩ := getF X22 hx hZ hown (host := "") (Or.inl (hw _ (List.mem_of_getElem? (i := 19) rfl))) Via.refl e22 f18_3 (g := (mkF m 39 #[vR a0, vI p1, vI p2] [(.ref a0), (.ref b1)])) rfl rfl (hb hby d7_39)
  have pre24 : Go p.tables e below S0 T24 (mkF m 42 #[vR a0, vI p1, vI p2] [(.int (2 : Int32)), (.ref b1)]) := fun t k => pre23 t (st24 t k)
  have pre25 : Go p.tables e below S0 T24 (mkF m 43 #[vR a0, vI p1, vI p2] [(.int p1), (.int (2 : Int32)), (.ref b1)]) := fun t k => pre24 t (by
    refine XS.iloadN X24.here hx rfl (hb hby d7_42) rfl ?_
    show Steps p.tables e below (T24.setTop (mkF m 43 #[vR a0, vI p1, vI p2] [(.int p1), (.int (2 : Int32)), (.ref b1)])) _
    exact k)
  obtain ⟨cl26, Ar26, q26, S26, M26, H26, G26⟩ := id f18_4
  have in26 : ¬ ((2 : Int32) < 0 ∨ cl26.slots.size ≤ ((2 : Int32)).toNatClampNeg) := inb_of S26 ⟨by decide, by decide⟩
  obtain ⟨T26, h26, X26, e26, W26, st26⟩ := stI X24 hx hZ e24 Ar26 (j := (2 : Int32)) in26 (g := (mkF m 43 #[vR a0, vI p1, vI p2] [(.int p1), (.int (2 : Int32)), (.ref b1)])) rfl rfl (hb hby d7_43)
  have pre26 : Go p.tables e below S0 T26 (mkF m 44 #[vR a0, vI p1, vI p2] []) := fun t k => pre25 t (st26 t k)
  have N26 := Fr.snoc X26 N17 xg1
  have av26 : Arv Z h26 b1 k1 .int (16 : Int32) [(.int y0), (.int y1), (.int p1), (.int (0 : Int32)), (.int (0 : Int32)), (.int (0 : Int32)), (.int (0 : Int32)), (.int (0 : Int32)), (.int (0 : Int32)), (.int (0 : Int32)), (.int (0 : Int32)), (.int (0 : Int32)), (.int (0 : Int32)), (.int (0 : Int32)), (.int (0 : Int32)), (.int (0 : Int32))] (.int (0 : Int32)) := Arv.set Ar26 q26 S26 M26 H26 G26 rfl W26 2 rfl (Nat.le_of_ble_eq_true rfl)
  have f27_1 := Exa.wr W26 f18_1
  have f27_2 := Fld.other W26 f18_2 (Or.inl (Ne.symm xe1))
  have f27_3 := Fld.other W26 fw17 (Or.inl (Ne.symm xe1))
  have f27_4 := Fld.other W26 f18_3 (Or.inl (Ne.symm xe1))
  have f27_5 := f18_5.other W26 (Ne.symm xe3)
  have zz28 : n0 ≤ h26.size := Nat.le_trans zz19 (Keep.of_wr W26).1
  have kp29 : Keep h0 h26 [a0, b1, b2] := kp20.wr W26 (Or.inl (List.mem_of_getElem? (i := 1) rfl))
  have pre30 : Go p.tables e below S0 T26 (mkF m 45 #[vR a0, vI p1, vI p2] [(.ref a0)]) := fun t k => pre26 t (by
    refine XS.aloadN X26.here hx rfl (hb hby d7_44) rfl rfl ?_
    show Steps p.tables e below (T26.setTop (mkF m 45 #[vR a0, vI p1, vI p2] [(.ref a0)])) _
    exact k)
  obtain ⟨T31, X31, e31, st31⟩ := getF X26 hx hZ hown (host := "") (Or.inl (hw _ (List.mem_of_getElem? (i := 12) rfl))) Via.refl e26 f27_3 (g := (mkF m 45 #[vR a0, vI p1, vI p2] [(.ref a0)])) rfl rfl (hb hby d7_45)
  have pre31 : Go p.tables e below S0 T31 (mkF m 48 #[vR a0, vI p1, vI p2] [(.ref b2)]) := fun t k => pre30 t (st31 t k)
  have pre32 : Go p.tables e below S0 T31 (mkF m 49 #[vR a0, vI p1, vI p2] [(.ref a0), (.ref b2)]) := fun t k => pre31 t (by
    refine XS.aloadN X31.here hx rfl (hb hby d7_48) rfl rfl ?_
    show Steps p.tables e below (T31.setTop (mkF m 49 #[vR a0, vI p1, vI p2] [(.ref a0), (.ref b2)])) _
    exact k)
  obtain ⟨T33, X33, e33, st33⟩ := getF X31 hx hZ hown (host := "") (Or.inl (hw _ (List.mem_of_getElem? (i := 19) rfl))) Via.refl e31 f27_4 (g := (mkF m 49 #[vR a0, vI p1, vI p2] [(.ref a0), (.ref b2)])) rfl rfl (hb hby d7_49)
  have pre33 : Go p.tables e below S0 T33 (mkF m 52 #[vR a0, vI p1, vI p2] [(.int (2 : Int32)), (.ref b2)]) := fun t k => pre32 t (st33 t k)
  have pre34 : Go p.tables e below S0 T33 (mkF m 53 #[vR a0, vI p1, vI p2] [(.int p2), (.int (2 : Int32)), (.ref b2)]) := fun t k => pre33 t (by
    refine XS.iloadN X33.here hx rfl (hb hby d7_52) rfl ?_
    show Steps p.tables e below (T33.setTop (mkF m 53 #[vR a0, vI p1, vI p2] [(.int p2), (.int (2 : Int32)), (.ref b2)])) _
    exact k)
  obtain ⟨cl35, Ar35, q35, S35, M35, H35, G35⟩ := id f27_5
  have in35 : ¬ ((2 : Int32) < 0 ∨ cl35.slots.size ≤ ((2 : Int32)).toNatClampNeg) := inb_of S35 ⟨by decide, by decide⟩
  obtain ⟨T35, h35, X35, e35, W35, st35⟩ := stI X33 hx hZ e33 Ar35 (j := (2 : Int32)) in35 (g := (mkF m 53 #[vR a0, vI p1, vI p2] [(.int p2), (.int (2 : Int32)), (.ref b2)])) rfl rfl (hb hby d7_53)
  have pre35 : Go p.tables e below S0 T35 (mkF m 54 #[vR a0, vI p1, vI p2] []) := fun t k => pre34 t (st35 t k)
  have N35 := Fr.snoc X35 N26 xg2
  have av35 : Arv Z h35 b2 k2 .int (16 : Int32) [(.int w0), (.int w1), (.int p2), (.int (0 : Int32)), (.int (0 : Int32)), (.int (0 : Int32)), (.int (0 : Int32)), (.int (0 : Int32)), (.int (0 : Int32)), (.int (0 : Int32)), (.int (0 : Int32)), (.int (0 : Int32)), (.int (0 : Int32)), (.int (0 : Int32)), (.int (0 : Int32)), (.int (0 : Int32))] (.int (0 : Int32)) := Arv.set Ar35 q35 S35 M35 H35 G35 rfl W35 2 rfl (Nat.le_of_ble_eq_true rfl)
  have f36_1 := Exa.wr W35 f27_1
  have f36_2 := Fld.other W35 f27_2 (Or.inl (Ne.symm xe2))
  have f36_3 := Fld.other W35 f27_3 (Or.inl (Ne.symm xe2))
  have f36_4 := Fld.other W35 f27_4 (Or.inl (Ne.symm xe2))
  have f36_5 := av26.other W35 xe3
  have zz37 : n0 ≤ h35.size := Nat.le_trans zz28 (Keep.of_wr W35).1
  have kp38 : Keep h0 h35 [a0, b1, b2] := kp29.wr W35 (Or.inl (List.mem_of_getElem? (i := 2) rfl))
  have pre39 : Go p.tables e below S0 T35 (mkF m 56 #[vR a0, vI p1, vI p2] [(.ref a0), (.ref a0)]) := fun t k => pre35 t (by
    refine XS.aloadN X35.here hx rfl (hb hby d7_54) rfl rfl ?_
    show Steps p.tables e below (T35.setTop (mkF m 55 #[vR a0, vI p1, vI p2] [(.ref a0)])) _
    refine XS.dup X35.here hx rfl (hb hby d7_55) rfl rfl ?_
    show Steps p.tables e below (T35.setTop (mkF m 56 #[vR a0, vI p1, vI p2] [(.ref a0), (.ref a0)])) _
    exact k)
  obtain ⟨T40, X40, e40, st40⟩ := getF X35 hx hZ hown (host := "") (Or.inl (hw _ (List.mem_of_getElem? (i := 19) rfl))) Via.refl e35 f36_4 (g := (mkF m 56 #[vR a0, vI p1, vI p2] [(.ref a0), (.ref a0)])) rfl rfl (hb hby d7_56)
  have pre40 : Go p.tables e below S0 T40 (mkF m 59 #[vR a0, vI p1, vI p2] [(.int (2 : Int32)), (.ref a0)]) := fun t k => pre39 t (st40 t k)
  have pre41 : Go p.tables e below S0 T40 (mkF m 61 #[vR a0, vI p1, vI p2] [(.int (3 : Int32)), (.ref a0)]) := fun t k => pre40 t (by
    refine XS.iconst X40.here hx rfl (hb hby d7_59) ?_
    show Steps p.tables e below (T40.setTop (mkF m 60 #[vR a0, vI p1, vI p2] [(.int (1 : Int32)), (.int (2 : Int32)), (.ref a0)])) _
    refine XS.iadd X40.here hx rfl (hb hby d7_60) rfl ?_
    show Steps p.tables e below (T40.setTop (mkF m 61 #[vR a0, vI p1, vI p2] [(.int (3 : Int32)), (.ref a0)])) _
    exact k)
  obtain ⟨T42, h42, X42, e42, W42, st42⟩ := putF X40 hx hZ hown (host := "") (Or.inl (hw _ (List.mem_of_getElem? (i := 19) rfl))) Via.refl e40 f36_4 f36_1 (Or.inl (hw _ (List.mem_of_getElem? (i := 20) rfl))) (hw _ (List.mem_of_getElem? (i := 2) rfl)) (ty := .int) (by decide) rfl rfl (g := (mkF m 61 #[vR a0, vI p1, vI p2] [(.int (3 : Int32)), (.ref a0)])) rfl rfl (hb hby d7_61)
  have pre42 : Go p.tables e below S0 T42 (mkF m 64 #[vR a0, vI p1, vI p2] []) := fun t k => pre41 t (st42 t k)
  have N42 := Fr.snoc X42 N35 g0
  have fw42 : Fld Z h42 a0 "com/example/motiflow/motiflow/UndoLog" "size" "I" (.int (3 : Int32)) := Fld.same W42 f36_4
  have f43_1 := Exa.wr W42 f36_1
  have f43_2 := Fld.other W42 f36_2 (Or.inr (slot_ne (Or.inl (hw _ (List.mem_of_getElem? (i := 11) rfl))) (Or.inl (hw _ (List.mem_of_getElem? (i := 20) rfl))) (by decide) (t := (.array .int)) (t' := .int) (by decide) (by decide)))
  have f43_3 := Fld.other W42 f36_3 (Or.inr (slot_ne (Or.inl (hw _ (List.mem_of_getElem? (i := 13) rfl))) (Or.inl (hw _ (List.mem_of_getElem? (i := 20) rfl))) (by decide) (t := (.array .int)) (t' := .int) (by decide) (by decide)))
  have f43_4 := f36_5.other W42 xe1
  have f43_5 := av35.other W42 xe2
  have zz44 : n0 ≤ h42.size := Nat.le_trans zz37 (Keep.of_wr W42).1
  have kp45 : Keep h0 h42 [a0, b1, b2] := kp38.wr W42 (Or.inl (List.mem_of_getElem? (i := 0) rfl))
  obtain ⟨fs, hr, hrun, hended, hW, hsame⟩ := X42.leave (v := none) (fun _ => rfl)
  exact ⟨_, _, pre42.fin hS0 (X42.returnOut hx Bd.returns (hb hby d7_64) hr), hrun, hended, _, _, rfl, (by
    show Q7_2 Z a0 p1 p2 b1 b2 k1 k2 y0 w0 y1 w1 h0 n0 _ T42.heap _
    rw [e42]
    exact ⟨rfl, N42, kp45, f43_1, f43_2, f43_3, fw42, f43_4, f43_5⟩), ⟨_, rfl⟩, hW, hsame.mono (by decide) (by decide)⟩
def own_put (q j w x : Int32) : Int32 := if q = j then w else x
theorem own_list {q w x0 x1 x2 x3 : Int32} (hq : ¬ q < 0 ∧ q < (4 : Int32)) : q.toNatClampNeg < 4 ∧ [Value.int x0, .int x1, .int x2, .int x3].set q.toNatClampNeg (.int w) = [.int (own_put q (0 : Int32) w x0), .int (own_put q (1 : Int32) w x1), .int (own_put q (2 : Int32) w x2), .int (own_put q (3 : Int32) w x3)] := by
  have h : q = (0 : Int32) ∨ q = (1 : Int32) ∨ q = (2 : Int32) ∨ q = (3 : Int32) := by
    simp only [Int32.lt_iff_toInt_lt, ← Int32.toInt_inj, Int32.reduceToInt] at *
    omega
  rcases h with rfl | rfl | rfl | rfl <;> exact ⟨by decide, rfl⟩
theorem ef_3_0 (m : MethodId) (x0 : Addr) (x1 : Addr) (x2 : Int32) : entryFrame m #[(.ref x0), (.ref x1), (.int x2)] 3 = mkF m 0 #[.val (.ref x0), .val (.ref x1), .val (.int x2)] [] := by first | (simp [entryFrame, mkF, argsToLocals, Value.category]; done) | rfl
theorem d3_0 : decode prog_138_method_5_code 0 = .ok (.aload_n 0, 1) := by decide +kernel
theorem d3_1 : decode prog_138_method_5_code 1 = .ok (.getfield 16, 3) := by decide +kernel
theorem d3_4 : decode prog_138_method_5_code 4 = .ok (.iload_n 2, 1) := by decide +kernel
theorem d3_5 : decode prog_138_method_5_code 5 = .ok (.if_icmp .le 36, 3) := by decide +kernel
theorem d3_41 : decode prog_138_method_5_code 41 = .ok (.return_, 1) := by decide +kernel
def Q3_0 (Z : State) (a0 a1 : Addr) (p2 : Int32) (b1 b2 : Addr) (k1 k2 k0 : ClassId) (x0 x1 x2 x3 : Int32) (y0 w0 : Int32) (y1 w1 : Int32) (y2 w2 : Int32) (h0 : Heap) (n0 : Nat) (v : Option Value) (h : Heap) (L : List Loc) : Prop := v = none ∧ Fr n0 L ∧ Keep h0 h [a0, a1] ∧ (Exa Z h a0 "com/example/motiflow/motiflow/UndoLog") ∧ (Fld Z h a0 "com/example/motiflow/motiflow/UndoLog" "places" "[I" (.ref b1)) ∧ (Fld Z h a0 "com/example/motiflow/motiflow/UndoLog" "values" "[I" (.ref b2)) ∧ (Fld Z h a0 "com/example/motiflow/motiflow/UndoLog" "size" "I" (.int (own_min (0 : Int32) p2))) ∧ (Arv Z h a1 k0 .int (4 : Int32) [(.int (own_expect (0 : Int32) x0 (0 : Int32) p2 y0 w0 y1 w1 y2 w2)), (.int (own_expect (1 : Int32) x1 (0 : Int32) p2 y0 w0 y1 w1 y2 w2)), (.int (own_expect (2 : Int32) x2 (0 : Int32) p2 y0 w0 y1 w1 y2 w2)), (.int (own_expect (3 : Int32) x3 (0 : Int32) p2 y0 w0 y1 w1 y2 w2))] (.int (0 : Int32)))
set_option maxRecDepth 65536 in
set_option maxHeartbeats 40000000 in
theorem rm3_0 (l : Launch) (Z : State) (A0 : Array Value) (hw : ∀ d ∈ tables_1, d.before A0 Z = true) (ws : List Jvm.Cond) (a0 : Addr) (a1 : Addr) (p2 : Int32) (b1 b2 : Addr) (k1 k2 k0 : ClassId) (x0 x1 x2 x3 : Int32) (y0 w0 : Int32) (y1 w1 : Int32) (y2 w2 : Int32) (h0 : Heap) (n0 : Nat) (Z0 : n0 ≤ h0.size) (E0 : Exa Z h0 a0 "com/example/motiflow/motiflow/UndoLog") (F_p : Fld Z h0 a0 "com/example/motiflow/motiflow/UndoLog" "places" "[I" (.ref b1)) (F_v : Fld Z h0 a0 "com/example/motiflow/motiflow/UndoLog" "values" "[I" (.ref b2)) (F_s : Fld Z h0 a0 "com/example/motiflow/motiflow/UndoLog" "size" "I" (.int (0 : Int32))) (V1 : Arv Z h0 b1 k1 .int (16 : Int32) [(.int (0 : Int32)), (.int (0 : Int32)), (.int (0 : Int32)), (.int (0 : Int32)), (.int (0 : Int32)), (.int (0 : Int32)), (.int (0 : Int32)), (.int (0 : Int32)), (.int (0 : Int32)), (.int (0 : Int32)), (.int (0 : Int32)), (.int (0 : Int32)), (.int (0 : Int32)), (.int (0 : Int32)), (.int (0 : Int32)), (.int (0 : Int32))] (.int (0 : Int32))) (V2 : Arv Z h0 b2 k2 .int (16 : Int32) [(.int (0 : Int32)), (.int (0 : Int32)), (.int (0 : Int32)), (.int (0 : Int32)), (.int (0 : Int32)), (.int (0 : Int32)), (.int (0 : Int32)), (.int (0 : Int32)), (.int (0 : Int32)), (.int (0 : Int32)), (.int (0 : Int32)), (.int (0 : Int32)), (.int (0 : Int32)), (.int (0 : Int32)), (.int (0 : Int32)), (.int (0 : Int32))] (.int (0 : Int32))) (V0 : Arv Z h0 a1 k0 .int (4 : Int32) [(.int x0), (.int x1), (.int x2), (.int x3)] (.int (0 : Int32))) (xe1 : b1 ≠ a0) (xe2 : b2 ≠ a0) (xe3 : a1 ≠ a0) (xe4 : b1 ≠ a1) (xe5 : b2 ≠ a1) (g0 : n0 ≤ a0) (xg1 : n0 ≤ a1) (hm : 0 ≤ p2.toInt) :
    MetFree l (⟨"com/example/motiflow/motiflow/UndoLog", "takeBack", "([II)V"⟩ : MethodName) (head1 (Jvm.Cond.code (⟨"com/example/motiflow/motiflow/UndoLog", "takeBack", "([II)V"⟩ : MethodName) prog_138_method_5_code 3 none :: ws) ({ frames := 0, cells := 0, slots := 0, locals := 0 } : Room)) (fun a U => a = #[(.ref a0), (.ref a1), (.int p2)] ∧ Z.Warmed39 U.vm ∧ U.heap = h0) (fun _ _ _ _ _ => True) (fun _ U o U' => ∃ v L, o = .returned v ∧ Q3_0 Z a0 a1 p2 b1 b2 k1 k2 k0 x0 x1 x2 x3 y0 w0 y1 w1 y2 w2 h0 n0 v U'.heap L ∧ FrameEnd U o U' L ({ frames := 0, cells := 0, slots := 0, locals := 0 } : Room).cells ({ frames := 0, cells := 0, slots := 0, locals := 0 } : Room).slots) := by
  refine MetFree.of_bodySF (plainFor_of_name pn_1) hisR ?_
  intro p e s m args below meth c s₁ Bd hml0 hP hK
  obtain ⟨rfl, hZ, hh⟩ := hP
  have hx := Bd.exec
  have hby := Bd.bytes
  have hml : c.maxLocals = 3 := hml0
  have hown : s.vm.findClass "com/example/motiflow/motiflow/UndoLog" = some m.cls := findClass_of_methodNamed Bd.named
  have hnm := (name_of_methodNamed Bd.named Bd.method).1
  have X0 : Stand p l e ({ frames := 0, cells := 0, slots := 0, locals := 0 } : Room) s m #[(.ref a0), (.ref a1), (.int p2)] below meth c s₁ [] 0 0 := Stand.of_body Bd
  have e0 : s₁.heap = h0 := by rw [← hh, Bd.state]; rfl
  have N0 := Fr.nil n0
  have kp0 : Keep h0 h0 [a0, a1] := Keep.refl _ _
  obtain ⟨S0, hS0⟩ : ∃ z, z = s₁.setTop (entryFrame m #[(.ref a0), (.ref a1), (.int p2)] 3) := ⟨_, rfl⟩
  have pre0 : Go p.tables e below S0 s₁ (mkF m 0 #[vR a0, vR a1, vI p2] []) := fun t k => by rw [hS0]; exact castTop (ef_3_0 m a0 a1 p2) k
  have pre1 : Go p.tables e below S0 s₁ (mkF m 1 #[vR a0, vR a1, vI p2] [(.ref a0)]) := fun t k => pre0 t (by
    refine XS.aloadN X0.here hx rfl (hb hby d3_0) rfl rfl ?_
    show Steps p.tables e below (s₁.setTop (mkF m 1 #[vR a0, vR a1, vI p2] [(.ref a0)])) _
    exact k)
  obtain ⟨T2, X2, e2, st2⟩ := getF X0 hx hZ hown (host := "") (Or.inl (hw _ (List.mem_of_getElem? (i := 19) rfl))) Via.refl e0 F_s (g := (mkF m 1 #[vR a0, vR a1, vI p2] [(.ref a0)])) rfl rfl (hb hby d3_1)
  have pre2 : Go p.tables e below S0 T2 (mkF m 4 #[vR a0, vR a1, vI p2] [(.int (0 : Int32))]) := fun t k => pre1 t (st2 t k)
  have pre3 : Go p.tables e below S0 T2 (mkF m 5 #[vR a0, vR a1, vI p2] [(.int p2), (.int (0 : Int32))]) := fun t k => pre2 t (by
    refine XS.iloadN X2.here hx rfl (hb hby d3_4) rfl ?_
    show Steps p.tables e below (T2.setTop (mkF m 5 #[vR a0, vR a1, vI p2] [(.int p2), (.int (0 : Int32))])) _
    exact k)
  have cc4 : ¬ (p2 < (0 : Int32)) := by rw [Int32.lt_iff_toInt_lt]; exact Int.not_lt.mpr hm
  have pre5 : Go p.tables e below S0 T2 (mkF m 41 #[vR a0, vR a1, vI p2] []) := fun t k => pre3 t (by
    refine XS.icmpYes X2.here hx rfl (pc0 := 5) (pc' := 41) rfl (hb hby d3_5) rfl (flt cc4).2.2.2 (by decide) (by decide) ?_
    show Steps p.tables e below (T2.setTop (mkF m 41 #[vR a0, vR a1, vI p2] [])) _
    exact k)
  obtain ⟨fs, hr, hrun, hended, hW, hsame⟩ := X2.leave (v := none) (fun _ => rfl)
  exact ⟨_, _, pre5.fin hS0 (X2.returnOut hx Bd.returns (hb hby d3_41) hr), hrun, hended, _, _, rfl, (by
    show Q3_0 Z a0 a1 p2 b1 b2 k1 k2 k0 x0 x1 x2 x3 y0 w0 y1 w1 y2 w2 h0 n0 _ T2.heap _
    rw [e2]
    have l0 : own_min (0 : Int32) p2 = (0 : Int32) := by
      unfold own_min
      have z : ¬ (p2 < (0 : Int32)) := by simp only [Int32.lt_iff_toInt_lt, Int32.reduceToInt]; omega
      first | (rw [if_neg z]; done) | (rw [if_pos z]; apply Int32.toInt_inj.mp; simp only [Int32.reduceToInt]; omega)
    have r0 : own_expect (0 : Int32) x0 (0 : Int32) p2 y0 w0 y1 w1 y2 w2 = x0 := by simp [own_expect, own_expect_18, own_expect_37, own_put]
    have r1 : own_expect (1 : Int32) x1 (0 : Int32) p2 y0 w0 y1 w1 y2 w2 = x1 := by simp [own_expect, own_expect_18, own_expect_37, own_put]
    have r2 : own_expect (2 : Int32) x2 (0 : Int32) p2 y0 w0 y1 w1 y2 w2 = x2 := by simp [own_expect, own_expect_18, own_expect_37, own_put]
    have r3 : own_expect (3 : Int32) x3 (0 : Int32) p2 y0 w0 y1 w1 y2 w2 = x3 := by simp [own_expect, own_expect_18, own_expect_37, own_put]
    rw [show Q3_0 Z a0 a1 p2 b1 b2 k1 k2 k0 x0 x1 x2 x3 y0 w0 y1 w1 y2 w2 h0 n0 = Q3_0 Z a0 a1 p2 b1 b2 k1 k2 k0 x0 x1 x2 x3 y0 w0 y1 w1 y2 w2 h0 n0 from rfl]
    unfold Q3_0
    rw [l0, r0, r1, r2, r3]
    exact ⟨rfl, N0, kp0, E0, F_p, F_v, F_s, V0⟩), ⟨_, rfl⟩, hW, hsame.mono (by decide) (by decide)⟩
theorem ef_3_1 (m : MethodId) (x0 : Addr) (x1 : Addr) (x2 : Int32) : entryFrame m #[(.ref x0), (.ref x1), (.int x2)] 3 = mkF m 0 #[.val (.ref x0), .val (.ref x1), .val (.int x2)] [] := by first | (simp [entryFrame, mkF, argsToLocals, Value.category]; done) | rfl
theorem d3_8 : decode prog_138_method_5_code 8 = .ok (.aload_n 0, 1) := by decide +kernel
theorem d3_9 : decode prog_138_method_5_code 9 = .ok (.dup, 1) := by decide +kernel
theorem d3_10 : decode prog_138_method_5_code 10 = .ok (.getfield 16, 3) := by decide +kernel
theorem d3_13 : decode prog_138_method_5_code 13 = .ok (.iconst 1, 1) := by decide +kernel
theorem d3_14 : decode prog_138_method_5_code 14 = .ok (.isub, 1) := by decide +kernel
theorem d3_15 : decode prog_138_method_5_code 15 = .ok (.putfield 16, 3) := by decide +kernel
theorem d3_18 : decode prog_138_method_5_code 18 = .ok (.aload_n 1, 1) := by decide +kernel
theorem d3_19 : decode prog_138_method_5_code 19 = .ok (.aload_n 0, 1) := by decide +kernel
theorem d3_20 : decode prog_138_method_5_code 20 = .ok (.getfield 7, 3) := by decide +kernel
theorem d3_23 : decode prog_138_method_5_code 23 = .ok (.aload_n 0, 1) := by decide +kernel
theorem d3_24 : decode prog_138_method_5_code 24 = .ok (.getfield 16, 3) := by decide +kernel
theorem d3_27 : decode prog_138_method_5_code 27 = .ok (.iaload, 1) := by decide +kernel
theorem d3_28 : decode prog_138_method_5_code 28 = .ok (.aload_n 0, 1) := by decide +kernel
theorem d3_29 : decode prog_138_method_5_code 29 = .ok (.getfield 13, 3) := by decide +kernel
theorem d3_32 : decode prog_138_method_5_code 32 = .ok (.aload_n 0, 1) := by decide +kernel
theorem d3_33 : decode prog_138_method_5_code 33 = .ok (.getfield 16, 3) := by decide +kernel
theorem d3_36 : decode prog_138_method_5_code 36 = .ok (.iaload, 1) := by decide +kernel
theorem d3_37 : decode prog_138_method_5_code 37 = .ok (.iastore, 1) := by decide +kernel
theorem d3_38 : decode prog_138_method_5_code 38 = .ok (.goto (-38), 3) := by decide +kernel
def Q3_1 (Z : State) (a0 a1 : Addr) (p2 : Int32) (b1 b2 : Addr) (k1 k2 k0 : ClassId) (x0 x1 x2 x3 : Int32) (y0 w0 : Int32) (y1 w1 : Int32) (y2 w2 : Int32) (h0 : Heap) (n0 : Nat) (v : Option Value) (h : Heap) (L : List Loc) : Prop := v = none ∧ Fr n0 L ∧ Keep h0 h [a0, a1] ∧ (Exa Z h a0 "com/example/motiflow/motiflow/UndoLog") ∧ (Fld Z h a0 "com/example/motiflow/motiflow/UndoLog" "places" "[I" (.ref b1)) ∧ (Fld Z h a0 "com/example/motiflow/motiflow/UndoLog" "values" "[I" (.ref b2)) ∧ (Fld Z h a0 "com/example/motiflow/motiflow/UndoLog" "size" "I" (.int (own_min (1 : Int32) p2))) ∧ (Arv Z h a1 k0 .int (4 : Int32) [(.int (own_expect (0 : Int32) x0 (1 : Int32) p2 y0 w0 y1 w1 y2 w2)), (.int (own_expect (1 : Int32) x1 (1 : Int32) p2 y0 w0 y1 w1 y2 w2)), (.int (own_expect (2 : Int32) x2 (1 : Int32) p2 y0 w0 y1 w1 y2 w2)), (.int (own_expect (3 : Int32) x3 (1 : Int32) p2 y0 w0 y1 w1 y2 w2))] (.int (0 : Int32)))
set_option maxRecDepth 65536 in
set_option maxHeartbeats 40000000 in
theorem rm3_1 (l : Launch) (Z : State) (A0 : Array Value) (hw : ∀ d ∈ tables_1, d.before A0 Z = true) (ws : List Jvm.Cond) (a0 : Addr) (a1 : Addr) (p2 : Int32) (b1 b2 : Addr) (k1 k2 k0 : ClassId) (x0 x1 x2 x3 : Int32) (y0 w0 : Int32) (y1 w1 : Int32) (y2 w2 : Int32) (h0 : Heap) (n0 : Nat) (Z0 : n0 ≤ h0.size) (E0 : Exa Z h0 a0 "com/example/motiflow/motiflow/UndoLog") (F_p : Fld Z h0 a0 "com/example/motiflow/motiflow/UndoLog" "places" "[I" (.ref b1)) (F_v : Fld Z h0 a0 "com/example/motiflow/motiflow/UndoLog" "values" "[I" (.ref b2)) (F_s : Fld Z h0 a0 "com/example/motiflow/motiflow/UndoLog" "size" "I" (.int (1 : Int32))) (V1 : Arv Z h0 b1 k1 .int (16 : Int32) [(.int y0), (.int (0 : Int32)), (.int (0 : Int32)), (.int (0 : Int32)), (.int (0 : Int32)), (.int (0 : Int32)), (.int (0 : Int32)), (.int (0 : Int32)), (.int (0 : Int32)), (.int (0 : Int32)), (.int (0 : Int32)), (.int (0 : Int32)), (.int (0 : Int32)), (.int (0 : Int32)), (.int (0 : Int32)), (.int (0 : Int32))] (.int (0 : Int32))) (V2 : Arv Z h0 b2 k2 .int (16 : Int32) [(.int w0), (.int (0 : Int32)), (.int (0 : Int32)), (.int (0 : Int32)), (.int (0 : Int32)), (.int (0 : Int32)), (.int (0 : Int32)), (.int (0 : Int32)), (.int (0 : Int32)), (.int (0 : Int32)), (.int (0 : Int32)), (.int (0 : Int32)), (.int (0 : Int32)), (.int (0 : Int32)), (.int (0 : Int32)), (.int (0 : Int32))] (.int (0 : Int32))) (V0 : Arv Z h0 a1 k0 .int (4 : Int32) [(.int x0), (.int x1), (.int x2), (.int x3)] (.int (0 : Int32))) (xe1 : b1 ≠ a0) (xe2 : b2 ≠ a0) (xe3 : a1 ≠ a0) (xe4 : b1 ≠ a1) (xe5 : b2 ≠ a1) (g0 : n0 ≤ a0) (xg1 : n0 ≤ a1) (hy0 : ¬ y0 < 0 ∧ y0 < (4 : Int32)) (hm : 0 ≤ p2.toInt) :
    MetFree l (⟨"com/example/motiflow/motiflow/UndoLog", "takeBack", "([II)V"⟩ : MethodName) (head1 (Jvm.Cond.code (⟨"com/example/motiflow/motiflow/UndoLog", "takeBack", "([II)V"⟩ : MethodName) prog_138_method_5_code 3 none :: ws) ({ frames := 0, cells := 0, slots := 0, locals := 0 } : Room)) (fun a U => a = #[(.ref a0), (.ref a1), (.int p2)] ∧ Z.Warmed39 U.vm ∧ U.heap = h0) (fun _ _ _ _ _ => True) (fun _ U o U' => ∃ v L, o = .returned v ∧ Q3_1 Z a0 a1 p2 b1 b2 k1 k2 k0 x0 x1 x2 x3 y0 w0 y1 w1 y2 w2 h0 n0 v U'.heap L ∧ FrameEnd U o U' L ({ frames := 0, cells := 0, slots := 0, locals := 0 } : Room).cells ({ frames := 0, cells := 0, slots := 0, locals := 0 } : Room).slots) := by
  refine MetFree.of_bodySF (plainFor_of_name pn_1) hisR ?_
  intro p e s m args below meth c s₁ Bd hml0 hP hK
  obtain ⟨rfl, hZ, hh⟩ := hP
  have hx := Bd.exec
  have hby := Bd.bytes
  have hml : c.maxLocals = 3 := hml0
  have hown : s.vm.findClass "com/example/motiflow/motiflow/UndoLog" = some m.cls := findClass_of_methodNamed Bd.named
  have hnm := (name_of_methodNamed Bd.named Bd.method).1
  have X0 : Stand p l e ({ frames := 0, cells := 0, slots := 0, locals := 0 } : Room) s m #[(.ref a0), (.ref a1), (.int p2)] below meth c s₁ [] 0 0 := Stand.of_body Bd
  have e0 : s₁.heap = h0 := by rw [← hh, Bd.state]; rfl
  have N0 := Fr.nil n0
  have kp0 : Keep h0 h0 [a0, a1] := Keep.refl _ _
  obtain ⟨S0, hS0⟩ : ∃ z, z = s₁.setTop (entryFrame m #[(.ref a0), (.ref a1), (.int p2)] 3) := ⟨_, rfl⟩
  have pre0 : Go p.tables e below S0 s₁ (mkF m 0 #[vR a0, vR a1, vI p2] []) := fun t k => by rw [hS0]; exact castTop (ef_3_1 m a0 a1 p2) k
  have pre1 : Go p.tables e below S0 s₁ (mkF m 1 #[vR a0, vR a1, vI p2] [(.ref a0)]) := fun t k => pre0 t (by
    refine XS.aloadN X0.here hx rfl (hb hby d3_0) rfl rfl ?_
    show Steps p.tables e below (s₁.setTop (mkF m 1 #[vR a0, vR a1, vI p2] [(.ref a0)])) _
    exact k)
  obtain ⟨T2, X2, e2, st2⟩ := getF X0 hx hZ hown (host := "") (Or.inl (hw _ (List.mem_of_getElem? (i := 19) rfl))) Via.refl e0 F_s (g := (mkF m 1 #[vR a0, vR a1, vI p2] [(.ref a0)])) rfl rfl (hb hby d3_1)
  have pre2 : Go p.tables e below S0 T2 (mkF m 4 #[vR a0, vR a1, vI p2] [(.int (1 : Int32))]) := fun t k => pre1 t (st2 t k)
  have pre3 : Go p.tables e below S0 T2 (mkF m 5 #[vR a0, vR a1, vI p2] [(.int p2), (.int (1 : Int32))]) := fun t k => pre2 t (by
    refine XS.iloadN X2.here hx rfl (hb hby d3_4) rfl ?_
    show Steps p.tables e below (T2.setTop (mkF m 5 #[vR a0, vR a1, vI p2] [(.int p2), (.int (1 : Int32))])) _
    exact k)
  by_cases c5_4 : p2 < (1 : Int32)
  · skip
    have pre5 : Go p.tables e below S0 T2 (mkF m 10 #[vR a0, vR a1, vI p2] [(.ref a0), (.ref a0)]) := fun t k => pre3 t (by
      refine XS.icmpNo X2.here hx rfl (hb hby d3_5) rfl (tlt c5_4).2.2.2 ?_
      show Steps p.tables e below (T2.setTop (mkF m 8 #[vR a0, vR a1, vI p2] [])) _
      refine XS.aloadN X2.here hx rfl (hb hby d3_8) rfl rfl ?_
      show Steps p.tables e below (T2.setTop (mkF m 9 #[vR a0, vR a1, vI p2] [(.ref a0)])) _
      refine XS.dup X2.here hx rfl (hb hby d3_9) rfl rfl ?_
      show Steps p.tables e below (T2.setTop (mkF m 10 #[vR a0, vR a1, vI p2] [(.ref a0), (.ref a0)])) _
      exact k)
    obtain ⟨T6, X6, e6, st6⟩ := getF X2 hx hZ hown (host := "") (Or.inl (hw _ (List.mem_of_getElem? (i := 19) rfl))) Via.refl e2 F_s (g := (mkF m 10 #[vR a0, vR a1, vI p2] [(.ref a0), (.ref a0)])) rfl rfl (hb hby d3_10)
    have pre6 : Go p.tables e below S0 T6 (mkF m 13 #[vR a0, vR a1, vI p2] [(.int (1 : Int32)), (.ref a0)]) := fun t k => pre5 t (st6 t k)
    have pre7 : Go p.tables e below S0 T6 (mkF m 15 #[vR a0, vR a1, vI p2] [(.int (0 : Int32)), (.ref a0)]) := fun t k => pre6 t (by
      refine XS.iconst X6.here hx rfl (hb hby d3_13) ?_
      show Steps p.tables e below (T6.setTop (mkF m 14 #[vR a0, vR a1, vI p2] [(.int (1 : Int32)), (.int (1 : Int32)), (.ref a0)])) _
      refine XS.isub X6.here hx rfl (hb hby d3_14) rfl ?_
      show Steps p.tables e below (T6.setTop (mkF m 15 #[vR a0, vR a1, vI p2] [(.int (0 : Int32)), (.ref a0)])) _
      exact k)
    obtain ⟨T8, h8, X8, e8, W8, st8⟩ := putF X6 hx hZ hown (host := "") (Or.inl (hw _ (List.mem_of_getElem? (i := 19) rfl))) Via.refl e6 F_s E0 (Or.inl (hw _ (List.mem_of_getElem? (i := 20) rfl))) (hw _ (List.mem_of_getElem? (i := 2) rfl)) (ty := .int) (by decide) rfl rfl (g := (mkF m 15 #[vR a0, vR a1, vI p2] [(.int (0 : Int32)), (.ref a0)])) rfl rfl (hb hby d3_15)
    have pre8 : Go p.tables e below S0 T8 (mkF m 18 #[vR a0, vR a1, vI p2] []) := fun t k => pre7 t (st8 t k)
    have N8 := Fr.snoc X8 N0 g0
    have fw8 : Fld Z h8 a0 "com/example/motiflow/motiflow/UndoLog" "size" "I" (.int (0 : Int32)) := Fld.same W8 F_s
    have f9_1 := Exa.wr W8 E0
    have f9_2 := Fld.other W8 F_p (Or.inr (slot_ne (Or.inl (hw _ (List.mem_of_getElem? (i := 11) rfl))) (Or.inl (hw _ (List.mem_of_getElem? (i := 20) rfl))) (by decide) (t := (.array .int)) (t' := .int) (by decide) (by decide)))
    have f9_3 := Fld.other W8 F_v (Or.inr (slot_ne (Or.inl (hw _ (List.mem_of_getElem? (i := 13) rfl))) (Or.inl (hw _ (List.mem_of_getElem? (i := 20) rfl))) (by decide) (t := (.array .int)) (t' := .int) (by decide) (by decide)))
    have f9_4 := V1.other W8 xe1
    have f9_5 := V2.other W8 xe2
    have f9_6 := V0.other W8 xe3
    have zz10 : n0 ≤ h8.size := Nat.le_trans Z0 (Keep.of_wr W8).1
    have kp11 : Keep h0 h8 [a0, a1] := kp0.wr W8 (Or.inl (List.mem_of_getElem? (i := 0) rfl))
    have pre12 : Go p.tables e below S0 T8 (mkF m 20 #[vR a0, vR a1, vI p2] [(.ref a0), (.ref a1)]) := fun t k => pre8 t (by
      refine XS.aloadN X8.here hx rfl (hb hby d3_18) rfl rfl ?_
      show Steps p.tables e below (T8.setTop (mkF m 19 #[vR a0, vR a1, vI p2] [(.ref a1)])) _
      refine XS.aloadN X8.here hx rfl (hb hby d3_19) rfl rfl ?_
      show Steps p.tables e below (T8.setTop (mkF m 20 #[vR a0, vR a1, vI p2] [(.ref a0), (.ref a1)])) _
      exact k)
    obtain ⟨T13, X13, e13, st13⟩ := getF X8 hx hZ hown (host := "") (Or.inl (hw _ (List.mem_of_getElem? (i := 10) rfl))) Via.refl e8 f9_2 (g := (mkF m 20 #[vR a0, vR a1, vI p2] [(.ref a0), (.ref a1)])) rfl rfl (hb hby d3_20)
    have pre13 : Go p.tables e below S0 T13 (mkF m 23 #[vR a0, vR a1, vI p2] [(.ref b1), (.ref a1)]) := fun t k => pre12 t (st13 t k)
    have pre14 : Go p.tables e below S0 T13 (mkF m 24 #[vR a0, vR a1, vI p2] [(.ref a0), (.ref b1), (.ref a1)]) := fun t k => pre13 t (by
      refine XS.aloadN X13.here hx rfl (hb hby d3_23) rfl rfl ?_
      show Steps p.tables e below (T13.setTop (mkF m 24 #[vR a0, vR a1, vI p2] [(.ref a0), (.ref b1), (.ref a1)])) _
      exact k)
    obtain ⟨T15, X15, e15, st15⟩ := getF X13 hx hZ hown (host := "") (Or.inl (hw _ (List.mem_of_getElem? (i := 19) rfl))) Via.refl e13 fw8 (g := (mkF m 24 #[vR a0, vR a1, vI p2] [(.ref a0), (.ref b1), (.ref a1)])) rfl rfl (hb hby d3_24)
    have pre15 : Go p.tables e below S0 T15 (mkF m 27 #[vR a0, vR a1, vI p2] [(.int (0 : Int32)), (.ref b1), (.ref a1)]) := fun t k => pre14 t (st15 t k)
    obtain ⟨cl16, Ar16, q16, S16, M16, H16, G16⟩ := id f9_4
    have in16 : ¬ ((0 : Int32) < 0 ∨ cl16.slots.size ≤ ((0 : Int32)).toNatClampNeg) := inb_of S16 ⟨by decide, by decide⟩
    have at16 : cl16.slots[((0 : Int32)).toNatClampNeg]? = some (.int y0) := H16.at in16 rfl
    have pre17 : Go p.tables e below S0 T15 (mkF m 29 #[vR a0, vR a1, vI p2] [(.ref a0), (.int y0), (.ref a1)]) := fun t k => pre15 t (by
      refine X15.iaload hx (j := (0 : Int32)) (v := (.int y0)) (by rw [e15]; exact Ar16.1) (State.isArrayOf_alike hZ.alike Ar16.2.1) Ar16.2.2 in16 at16 (g := (mkF m 27 #[vR a0, vR a1, vI p2] [(.int (0 : Int32)), (.ref b1), (.ref a1)])) rfl rfl (hb hby d3_27) _ ?_
      show Steps p.tables e below (T15.setTop (mkF m 28 #[vR a0, vR a1, vI p2] [(.int y0), (.ref a1)])) _
      refine XS.aloadN X15.here hx rfl (hb hby d3_28) rfl rfl ?_
      show Steps p.tables e below (T15.setTop (mkF m 29 #[vR a0, vR a1, vI p2] [(.ref a0), (.int y0), (.ref a1)])) _
      exact k)
    obtain ⟨T18, X18, e18, st18⟩ := getF X15 hx hZ hown (host := "") (Or.inl (hw _ (List.mem_of_getElem? (i := 12) rfl))) Via.refl e15 f9_3 (g := (mkF m 29 #[vR a0, vR a1, vI p2] [(.ref a0), (.int y0), (.ref a1)])) rfl rfl (hb hby d3_29)
    have pre18 : Go p.tables e below S0 T18 (mkF m 32 #[vR a0, vR a1, vI p2] [(.ref b2), (.int y0), (.ref a1)]) := fun t k => pre17 t (st18 t k)
    have pre19 : Go p.tables e below S0 T18 (mkF m 33 #[vR a0, vR a1, vI p2] [(.ref a0), (.ref b2), (.int y0), (.ref a1)]) := fun t k => pre18 t (by
      refine XS.aloadN X18.here hx rfl (hb hby d3_32) rfl rfl ?_
      show Steps p.tables e below (T18.setTop (mkF m 33 #[vR a0, vR a1, vI p2] [(.ref a0), (.ref b2), (.int y0), (.ref a1)])) _
      exact k)
    obtain ⟨T20, X20, e20, st20⟩ := getF X18 hx hZ hown (host := "") (Or.inl (hw _ (List.mem_of_getElem? (i := 19) rfl))) Via.refl e18 fw8 (g := (mkF m 33 #[vR a0, vR a1, vI p2] [(.ref a0), (.ref b2), (.int y0), (.ref a1)])) rfl rfl (hb hby d3_33)
    have pre20 : Go p.tables e below S0 T20 (mkF m 36 #[vR a0, vR a1, vI p2] [(.int (0 : Int32)), (.ref b2), (.int y0), (.ref a1)]) := fun t k => pre19 t (st20 t k)
    obtain ⟨cl21, Ar21, q21, S21, M21, H21, G21⟩ := id f9_5
    have in21 : ¬ ((0 : Int32) < 0 ∨ cl21.slots.size ≤ ((0 : Int32)).toNatClampNeg) := inb_of S21 ⟨by decide, by decide⟩
    have at21 : cl21.slots[((0 : Int32)).toNatClampNeg]? = some (.int w0) := H21.at in21 rfl
    have pre22 : Go p.tables e below S0 T20 (mkF m 37 #[vR a0, vR a1, vI p2] [(.int w0), (.int y0), (.ref a1)]) := fun t k => pre20 t (by
      refine X20.iaload hx (j := (0 : Int32)) (v := (.int w0)) (by rw [e20]; exact Ar21.1) (State.isArrayOf_alike hZ.alike Ar21.2.1) Ar21.2.2 in21 at21 (g := (mkF m 36 #[vR a0, vR a1, vI p2] [(.int (0 : Int32)), (.ref b2), (.int y0), (.ref a1)])) rfl rfl (hb hby d3_36) _ ?_
      show Steps p.tables e below (T20.setTop (mkF m 37 #[vR a0, vR a1, vI p2] [(.int w0), (.int y0), (.ref a1)])) _
      exact k)
    obtain ⟨cl23, Ar23, q23, S23, M23, H23, G23⟩ := id f9_6
    have in23 : ¬ (y0 < 0 ∨ cl23.slots.size ≤ (y0).toNatClampNeg) := inb_of S23 hy0
    obtain ⟨T23, h23, X23, e23, W23, st23⟩ := stI X20 hx hZ e20 Ar23 (j := y0) in23 (g := (mkF m 37 #[vR a0, vR a1, vI p2] [(.int w0), (.int y0), (.ref a1)])) rfl rfl (hb hby d3_37)
    have pre23 : Go p.tables e below S0 T23 (mkF m 38 #[vR a0, vR a1, vI p2] []) := fun t k => pre22 t (st23 t k)
    have N23 := Fr.snoc X23 N8 xg1
    have av23 : Arv Z h23 a1 k0 .int (4 : Int32) [(.int (own_put y0 (0 : Int32) w0 x0)), (.int (own_put y0 (1 : Int32) w0 x1)), (.int (own_put y0 (2 : Int32) w0 x2)), (.int (own_put y0 (3 : Int32) w0 x3))] (.int (0 : Int32)) := by
      have q := Arv.set Ar23 q23 S23 M23 H23 G23 rfl W23 _ rfl (own_list (w := 0) (x0 := 0) (x1 := 0) (x2 := 0) (x3 := 0) hy0).1
      rw [(own_list hy0).2] at q
      exact q
    have f24_1 := Exa.wr W23 f9_1
    have f24_2 := Fld.other W23 f9_2 (Or.inl (Ne.symm xe3))
    have f24_3 := Fld.other W23 f9_3 (Or.inl (Ne.symm xe3))
    have f24_4 := Fld.other W23 fw8 (Or.inl (Ne.symm xe3))
    have f24_5 := f9_4.other W23 xe4
    have f24_6 := f9_5.other W23 xe5
    have zz25 : n0 ≤ h23.size := Nat.le_trans zz10 (Keep.of_wr W23).1
    have kp26 : Keep h0 h23 [a0, a1] := kp11.wr W23 (Or.inl (List.mem_of_getElem? (i := 1) rfl))
    have pre27 : Go p.tables e below S0 T23 (mkF m 1 #[vR a0, vR a1, vI p2] [(.ref a0)]) := fun t k => pre23 t (by
      refine XS.goto X23.here hx rfl (pc0 := 38) (pc' := 0) rfl (hb hby d3_38) (by decide) (by decide) ?_
      show Steps p.tables e below (T23.setTop (mkF m 0 #[vR a0, vR a1, vI p2] [])) _
      refine XS.aloadN X23.here hx rfl (hb hby d3_0) rfl rfl ?_
      show Steps p.tables e below (T23.setTop (mkF m 1 #[vR a0, vR a1, vI p2] [(.ref a0)])) _
      exact k)
    obtain ⟨T28, X28, e28, st28⟩ := getF X23 hx hZ hown (host := "") (Or.inl (hw _ (List.mem_of_getElem? (i := 19) rfl))) Via.refl e23 f24_4 (g := (mkF m 1 #[vR a0, vR a1, vI p2] [(.ref a0)])) rfl rfl (hb hby d3_1)
    have pre28 : Go p.tables e below S0 T28 (mkF m 4 #[vR a0, vR a1, vI p2] [(.int (0 : Int32))]) := fun t k => pre27 t (st28 t k)
    have pre29 : Go p.tables e below S0 T28 (mkF m 5 #[vR a0, vR a1, vI p2] [(.int p2), (.int (0 : Int32))]) := fun t k => pre28 t (by
      refine XS.iloadN X28.here hx rfl (hb hby d3_4) rfl ?_
      show Steps p.tables e below (T28.setTop (mkF m 5 #[vR a0, vR a1, vI p2] [(.int p2), (.int (0 : Int32))])) _
      exact k)
    have cc30 : ¬ (p2 < (0 : Int32)) := by rw [Int32.lt_iff_toInt_lt]; exact Int.not_lt.mpr hm
    have pre31 : Go p.tables e below S0 T28 (mkF m 41 #[vR a0, vR a1, vI p2] []) := fun t k => pre29 t (by
      refine XS.icmpYes X28.here hx rfl (pc0 := 5) (pc' := 41) rfl (hb hby d3_5) rfl (flt cc30).2.2.2 (by decide) (by decide) ?_
      show Steps p.tables e below (T28.setTop (mkF m 41 #[vR a0, vR a1, vI p2] [])) _
      exact k)
    obtain ⟨fs, hr, hrun, hended, hW, hsame⟩ := X28.leave (v := none) (fun _ => rfl)
    exact ⟨_, _, pre31.fin hS0 (X28.returnOut hx Bd.returns (hb hby d3_41) hr), hrun, hended, _, _, rfl, (by
      show Q3_1 Z a0 a1 p2 b1 b2 k1 k2 k0 x0 x1 x2 x3 y0 w0 y1 w1 y2 w2 h0 n0 _ T28.heap _
      rw [e28]
      simp only [Int32.lt_iff_toInt_lt, Int32.reduceToInt] at c5_4
      have m0 : ¬ ((0 : Int32) < p2) := by simp only [Int32.lt_iff_toInt_lt, Int32.reduceToInt]; omega
      have l0 : own_min (1 : Int32) p2 = (0 : Int32) := by
        unfold own_min
        have z : p2 < (1 : Int32) := by simp only [Int32.lt_iff_toInt_lt, Int32.reduceToInt]; omega
        first | (rw [if_neg z]; done) | (rw [if_pos z]; apply Int32.toInt_inj.mp; simp only [Int32.reduceToInt]; omega)
      have r0 : own_expect (0 : Int32) x0 (1 : Int32) p2 y0 w0 y1 w1 y2 w2 = (own_put y0 (0 : Int32) w0 x0) := by simp [own_expect, own_expect_18, own_expect_37, own_put, m0]
      have r1 : own_expect (1 : Int32) x1 (1 : Int32) p2 y0 w0 y1 w1 y2 w2 = (own_put y0 (1 : Int32) w0 x1) := by simp [own_expect, own_expect_18, own_expect_37, own_put, m0]
      have r2 : own_expect (2 : Int32) x2 (1 : Int32) p2 y0 w0 y1 w1 y2 w2 = (own_put y0 (2 : Int32) w0 x2) := by simp [own_expect, own_expect_18, own_expect_37, own_put, m0]
      have r3 : own_expect (3 : Int32) x3 (1 : Int32) p2 y0 w0 y1 w1 y2 w2 = (own_put y0 (3 : Int32) w0 x3) := by simp [own_expect, own_expect_18, own_expect_37, own_put, m0]
      rw [show Q3_1 Z a0 a1 p2 b1 b2 k1 k2 k0 x0 x1 x2 x3 y0 w0 y1 w1 y2 w2 h0 n0 = Q3_1 Z a0 a1 p2 b1 b2 k1 k2 k0 x0 x1 x2 x3 y0 w0 y1 w1 y2 w2 h0 n0 from rfl]
      unfold Q3_1
      rw [l0, r0, r1, r2, r3]
      exact ⟨rfl, N23, kp26, f24_1, f24_2, f24_3, f24_4, av23⟩), ⟨_, rfl⟩, hW, hsame.mono (by decide) (by decide)⟩
  · skip
    have pre32 : Go p.tables e below S0 T2 (mkF m 41 #[vR a0, vR a1, vI p2] []) := fun t k => pre3 t (by
      refine XS.icmpYes X2.here hx rfl (pc0 := 5) (pc' := 41) rfl (hb hby d3_5) rfl (flt c5_4).2.2.2 (by decide) (by decide) ?_
      show Steps p.tables e below (T2.setTop (mkF m 41 #[vR a0, vR a1, vI p2] [])) _
      exact k)
    obtain ⟨fs, hr, hrun, hended, hW, hsame⟩ := X2.leave (v := none) (fun _ => rfl)
    exact ⟨_, _, pre32.fin hS0 (X2.returnOut hx Bd.returns (hb hby d3_41) hr), hrun, hended, _, _, rfl, (by
      show Q3_1 Z a0 a1 p2 b1 b2 k1 k2 k0 x0 x1 x2 x3 y0 w0 y1 w1 y2 w2 h0 n0 _ T2.heap _
      rw [e2]
      simp only [Int32.lt_iff_toInt_lt, Int32.reduceToInt] at c5_4
      have m0 : (0 : Int32) < p2 := by simp only [Int32.lt_iff_toInt_lt, Int32.reduceToInt]; omega
      have l0 : own_min (1 : Int32) p2 = (1 : Int32) := by
        unfold own_min
        have z : ¬ (p2 < (1 : Int32)) := by simp only [Int32.lt_iff_toInt_lt, Int32.reduceToInt]; omega
        first | (rw [if_neg z]; done) | (rw [if_pos z]; apply Int32.toInt_inj.mp; simp only [Int32.reduceToInt]; omega)
      have r0 : own_expect (0 : Int32) x0 (1 : Int32) p2 y0 w0 y1 w1 y2 w2 = x0 := by simp [own_expect, own_expect_18, own_expect_37, own_put, m0]
      have r1 : own_expect (1 : Int32) x1 (1 : Int32) p2 y0 w0 y1 w1 y2 w2 = x1 := by simp [own_expect, own_expect_18, own_expect_37, own_put, m0]
      have r2 : own_expect (2 : Int32) x2 (1 : Int32) p2 y0 w0 y1 w1 y2 w2 = x2 := by simp [own_expect, own_expect_18, own_expect_37, own_put, m0]
      have r3 : own_expect (3 : Int32) x3 (1 : Int32) p2 y0 w0 y1 w1 y2 w2 = x3 := by simp [own_expect, own_expect_18, own_expect_37, own_put, m0]
      rw [show Q3_1 Z a0 a1 p2 b1 b2 k1 k2 k0 x0 x1 x2 x3 y0 w0 y1 w1 y2 w2 h0 n0 = Q3_1 Z a0 a1 p2 b1 b2 k1 k2 k0 x0 x1 x2 x3 y0 w0 y1 w1 y2 w2 h0 n0 from rfl]
      unfold Q3_1
      rw [l0, r0, r1, r2, r3]
      exact ⟨rfl, N0, kp0, E0, F_p, F_v, F_s, V0⟩), ⟨_, rfl⟩, hW, hsame.mono (by decide) (by decide)⟩
theorem ef_3_2 (m : MethodId) (x0 : Addr) (x1 : Addr) (x2 : Int32) : entryFrame m #[(.ref x0), (.ref x1), (.int x2)] 3 = mkF m 0 #[.val (.ref x0), .val (.ref x1), .val (.int x2)] [] := by first | (simp [entryFrame, mkF, argsToLocals, Value.category]; done) | rfl
def Q3_2 (Z : State) (a0 a1 : Addr) (p2 : Int32) (b1 b2 : Addr) (k1 k2 k0 : ClassId) (x0 x1 x2 x3 : Int32) (y0 w0 : Int32) (y1 w1 : Int32) (y2 w2 : Int32) (h0 : Heap) (n0 : Nat) (v : Option Value) (h : Heap) (L : List Loc) : Prop := v = none ∧ Fr n0 L ∧ Keep h0 h [a0, a1] ∧ (Exa Z h a0 "com/example/motiflow/motiflow/UndoLog") ∧ (Fld Z h a0 "com/example/motiflow/motiflow/UndoLog" "places" "[I" (.ref b1)) ∧ (Fld Z h a0 "com/example/motiflow/motiflow/UndoLog" "values" "[I" (.ref b2)) ∧ (Fld Z h a0 "com/example/motiflow/motiflow/UndoLog" "size" "I" (.int (own_min (2 : Int32) p2))) ∧ (Arv Z h a1 k0 .int (4 : Int32) [(.int (own_expect (0 : Int32) x0 (2 : Int32) p2 y0 w0 y1 w1 y2 w2)), (.int (own_expect (1 : Int32) x1 (2 : Int32) p2 y0 w0 y1 w1 y2 w2)), (.int (own_expect (2 : Int32) x2 (2 : Int32) p2 y0 w0 y1 w1 y2 w2)), (.int (own_expect (3 : Int32) x3 (2 : Int32) p2 y0 w0 y1 w1 y2 w2))] (.int (0 : Int32)))
set_option maxRecDepth 65536 in
set_option maxHeartbeats 40000000 in
theorem rm3_2 (l : Launch) (Z : State) (A0 : Array Value) (hw : ∀ d ∈ tables_1, d.before A0 Z = true) (ws : List Jvm.Cond) (a0 : Addr) (a1 : Addr) (p2 : Int32) (b1 b2 : Addr) (k1 k2 k0 : ClassId) (x0 x1 x2 x3 : Int32) (y0 w0 : Int32) (y1 w1 : Int32) (y2 w2 : Int32) (h0 : Heap) (n0 : Nat) (Z0 : n0 ≤ h0.size) (E0 : Exa Z h0 a0 "com/example/motiflow/motiflow/UndoLog") (F_p : Fld Z h0 a0 "com/example/motiflow/motiflow/UndoLog" "places" "[I" (.ref b1)) (F_v : Fld Z h0 a0 "com/example/motiflow/motiflow/UndoLog" "values" "[I" (.ref b2)) (F_s : Fld Z h0 a0 "com/example/motiflow/motiflow/UndoLog" "size" "I" (.int (2 : Int32))) (V1 : Arv Z h0 b1 k1 .int (16 : Int32) [(.int y0), (.int y1), (.int (0 : Int32)), (.int (0 : Int32)), (.int (0 : Int32)), (.int (0 : Int32)), (.int (0 : Int32)), (.int (0 : Int32)), (.int (0 : Int32)), (.int (0 : Int32)), (.int (0 : Int32)), (.int (0 : Int32)), (.int (0 : Int32)), (.int (0 : Int32)), (.int (0 : Int32)), (.int (0 : Int32))] (.int (0 : Int32))) (V2 : Arv Z h0 b2 k2 .int (16 : Int32) [(.int w0), (.int w1), (.int (0 : Int32)), (.int (0 : Int32)), (.int (0 : Int32)), (.int (0 : Int32)), (.int (0 : Int32)), (.int (0 : Int32)), (.int (0 : Int32)), (.int (0 : Int32)), (.int (0 : Int32)), (.int (0 : Int32)), (.int (0 : Int32)), (.int (0 : Int32)), (.int (0 : Int32)), (.int (0 : Int32))] (.int (0 : Int32))) (V0 : Arv Z h0 a1 k0 .int (4 : Int32) [(.int x0), (.int x1), (.int x2), (.int x3)] (.int (0 : Int32))) (xe1 : b1 ≠ a0) (xe2 : b2 ≠ a0) (xe3 : a1 ≠ a0) (xe4 : b1 ≠ a1) (xe5 : b2 ≠ a1) (g0 : n0 ≤ a0) (xg1 : n0 ≤ a1) (hy0 : ¬ y0 < 0 ∧ y0 < (4 : Int32)) (hy1 : ¬ y1 < 0 ∧ y1 < (4 : Int32)) (hm : 0 ≤ p2.toInt) :
    MetFree l (⟨"com/example/motiflow/motiflow/UndoLog", "takeBack", "([II)V"⟩ : MethodName) (head1 (Jvm.Cond.code (⟨"com/example/motiflow/motiflow/UndoLog", "takeBack", "([II)V"⟩ : MethodName) prog_138_method_5_code 3 none :: ws) ({ frames := 0, cells := 0, slots := 0, locals := 0 } : Room)) (fun a U => a = #[(.ref a0), (.ref a1), (.int p2)] ∧ Z.Warmed39 U.vm ∧ U.heap = h0) (fun _ _ _ _ _ => True) (fun _ U o U' => ∃ v L, o = .returned v ∧ Q3_2 Z a0 a1 p2 b1 b2 k1 k2 k0 x0 x1 x2 x3 y0 w0 y1 w1 y2 w2 h0 n0 v U'.heap L ∧ FrameEnd U o U' L ({ frames := 0, cells := 0, slots := 0, locals := 0 } : Room).cells ({ frames := 0, cells := 0, slots := 0, locals := 0 } : Room).slots) := by
  refine MetFree.of_bodySF (plainFor_of_name pn_1) hisR ?_
  intro p e s m args below meth c s₁ Bd hml0 hP hK
  obtain ⟨rfl, hZ, hh⟩ := hP
  have hx := Bd.exec
  have hby := Bd.bytes
  have hml : c.maxLocals = 3 := hml0
  have hown : s.vm.findClass "com/example/motiflow/motiflow/UndoLog" = some m.cls := findClass_of_methodNamed Bd.named
  have hnm := (name_of_methodNamed Bd.named Bd.method).1
  have X0 : Stand p l e ({ frames := 0, cells := 0, slots := 0, locals := 0 } : Room) s m #[(.ref a0), (.ref a1), (.int p2)] below meth c s₁ [] 0 0 := Stand.of_body Bd
  have e0 : s₁.heap = h0 := by rw [← hh, Bd.state]; rfl
  have N0 := Fr.nil n0
  have kp0 : Keep h0 h0 [a0, a1] := Keep.refl _ _
  obtain ⟨S0, hS0⟩ : ∃ z, z = s₁.setTop (entryFrame m #[(.ref a0), (.ref a1), (.int p2)] 3) := ⟨_, rfl⟩
  have pre0 : Go p.tables e below S0 s₁ (mkF m 0 #[vR a0, vR a1, vI p2] []) := fun t k => by rw [hS0]; exact castTop (ef_3_2 m a0 a1 p2) k
  have pre1 : Go p.tables e below S0 s₁ (mkF m 1 #[vR a0, vR a1, vI p2] [(.ref a0)]) := fun t k => pre0 t (by
    refine XS.aloadN X0.here hx rfl (hb hby d3_0) rfl rfl ?_
    show Steps p.tables e below (s₁.setTop (mkF m 1 #[vR a0, vR a1, vI p2] [(.ref a0)])) _
    exact k)
  obtain ⟨T2, X2, e2, st2⟩ := getF X0 hx hZ hown (host := "") (Or.inl (hw _ (List.mem_of_getElem? (i := 19) rfl))) Via.refl e0 F_s (g := (mkF m 1 #[vR a0, vR a1, vI p2] [(.ref a0)])) rfl rfl (hb hby d3_1)
  have pre2 : Go p.tables e below S0 T2 (mkF m 4 #[vR a0, vR a1, vI p2] [(.int (2 : Int32))]) := fun t k => pre1 t (st2 t k)
  have pre3 : Go p.tables e below S0 T2 (mkF m 5 #[vR a0, vR a1, vI p2] [(.int p2), (.int (2 : Int32))]) := fun t k => pre2 t (by
    refine XS.iloadN X2.here hx rfl (hb hby d3_4) rfl ?_
    show Steps p.tables e below (T2.setTop (mkF m 5 #[vR a0, vR a1, vI p2] [(.int p2), (.int (2 : Int32))])) _
    exact k)
  by_cases c5_4 : p2 < (2 : Int32)
  · skip
    have pre5 : Go p.tables e below S0 T2 (mkF m 10 #[vR a0, vR a1, vI p2] [(.ref a0), (.ref a0)]) := fun t k => pre3 t (by
      refine XS.icmpNo X2.here hx rfl (hb hby d3_5) rfl (tlt c5_4).2.2.2 ?_
      show Steps p.tables e below (T2.setTop (mkF m 8 #[vR a0, vR a1, vI p2] [])) _
      refine XS.aloadN X2.here hx rfl (hb hby d3_8) rfl rfl ?_
      show Steps p.tables e below (T2.setTop (mkF m 9 #[vR a0, vR a1, vI p2] [(.ref a0)])) _
      refine XS.dup X2.here hx rfl (hb hby d3_9) rfl rfl ?_
      show Steps p.tables e below (T2.setTop (mkF m 10 #[vR a0, vR a1, vI p2] [(.ref a0), (.ref a0)])) _
      exact k)
    obtain ⟨T6, X6, e6, st6⟩ := getF X2 hx hZ hown (host := "") (Or.inl (hw _ (List.mem_of_getElem? (i := 19) rfl))) Via.refl e2 F_s (g := (mkF m 10 #[vR a0, vR a1, vI p2] [(.ref a0), (.ref a0)])) rfl rfl (hb hby d3_10)
    have pre6 : Go p.tables e below S0 T6 (mkF m 13 #[vR a0, vR a1, vI p2] [(.int (2 : Int32)), (.ref a0)]) := fun t k => pre5 t (st6 t k)
    have pre7 : Go p.tables e below S0 T6 (mkF m 15 #[vR a0, vR a1, vI p2] [(.int (1 : Int32)), (.ref a0)]) := fun t k => pre6 t (by
      refine XS.iconst X6.here hx rfl (hb hby d3_13) ?_
      show Steps p.tables e below (T6.setTop (mkF m 14 #[vR a0, vR a1, vI p2] [(.int (1 : Int32)), (.int (2 : Int32)), (.ref a0)])) _
      refine XS.isub X6.here hx rfl (hb hby d3_14) rfl ?_
      show Steps p.tables e below (T6.setTop (mkF m 15 #[vR a0, vR a1, vI p2] [(.int (1 : Int32)), (.ref a0)])) _
      exact k)
    obtain ⟨T8, h8, X8, e8, W8, st8⟩ := putF X6 hx hZ hown (host := "") (Or.inl (hw _ (List.mem_of_getElem? (i := 19) rfl))) Via.refl e6 F_s E0 (Or.inl (hw _ (List.mem_of_getElem? (i := 20) rfl))) (hw _ (List.mem_of_getElem? (i := 2) rfl)) (ty := .int) (by decide) rfl rfl (g := (mkF m 15 #[vR a0, vR a1, vI p2] [(.int (1 : Int32)), (.ref a0)])) rfl rfl (hb hby d3_15)
    have pre8 : Go p.tables e below S0 T8 (mkF m 18 #[vR a0, vR a1, vI p2] []) := fun t k => pre7 t (st8 t k)
    have N8 := Fr.snoc X8 N0 g0
    have fw8 : Fld Z h8 a0 "com/example/motiflow/motiflow/UndoLog" "size" "I" (.int (1 : Int32)) := Fld.same W8 F_s
    have f9_1 := Exa.wr W8 E0
    have f9_2 := Fld.other W8 F_p (Or.inr (slot_ne (Or.inl (hw _ (List.mem_of_getElem? (i := 11) rfl))) (Or.inl (hw _ (List.mem_of_getElem? (i := 20) rfl))) (by decide) (t := (.array .int)) (t' := .int) (by decide) (by decide)))
    have f9_3 := Fld.other W8 F_v (Or.inr (slot_ne (Or.inl (hw _ (List.mem_of_getElem? (i := 13) rfl))) (Or.inl (hw _ (List.mem_of_getElem? (i := 20) rfl))) (by decide) (t := (.array .int)) (t' := .int) (by decide) (by decide)))
    have f9_4 := V1.other W8 xe1
    have f9_5 := V2.other W8 xe2
    have f9_6 := V0.other W8 xe3
    have zz10 : n0 ≤ h8.size := Nat.le_trans Z0 (Keep.of_wr W8).1
    have kp11 : Keep h0 h8 [a0, a1] := kp0.wr W8 (Or.inl (List.mem_of_getElem? (i := 0) rfl))
    have pre12 : Go p.tables e below S0 T8 (mkF m 20 #[vR a0, vR a1, vI p2] [(.ref a0), (.ref a1)]) := fun t k => pre8 t (by
      refine XS.aloadN X8.here hx rfl (hb hby d3_18) rfl rfl ?_
      show Steps p.tables e below (T8.setTop (mkF m 19 #[vR a0, vR a1, vI p2] [(.ref a1)])) _
      refine XS.aloadN X8.here hx rfl (hb hby d3_19) rfl rfl ?_
      show Steps p.tables e below (T8.setTop (mkF m 20 #[vR a0, vR a1, vI p2] [(.ref a0), (.ref a1)])) _
      exact k)
    obtain ⟨T13, X13, e13, st13⟩ := getF X8 hx hZ hown (host := "") (Or.inl (hw _ (List.mem_of_getElem? (i := 10) rfl))) Via.refl e8 f9_2 (g := (mkF m 20 #[vR a0, vR a1, vI p2] [(.ref a0), (.ref a1)])) rfl rfl (hb hby d3_20)
    have pre13 : Go p.tables e below S0 T13 (mkF m 23 #[vR a0, vR a1, vI p2] [(.ref b1), (.ref a1)]) := fun t k => pre12 t (st13 t k)
    have pre14 : Go p.tables e below S0 T13 (mkF m 24 #[vR a0, vR a1, vI p2] [(.ref a0), (.ref b1), (.ref a1)]) := fun t k => pre13 t (by
      refine XS.aloadN X13.here hx rfl (hb hby d3_23) rfl rfl ?_
      show Steps p.tables e below (T13.setTop (mkF m 24 #[vR a0, vR a1, vI p2] [(.ref a0), (.ref b1), (.ref a1)])) _
      exact k)
    obtain ⟨T15, X15, e15, st15⟩ := getF X13 hx hZ hown (host := "") (Or.inl (hw _ (List.mem_of_getElem? (i := 19) rfl))) Via.refl e13 fw8 (g := (mkF m 24 #[vR a0, vR a1, vI p2] [(.ref a0), (.ref b1), (.ref a1)])) rfl rfl (hb hby d3_24)
    have pre15 : Go p.tables e below S0 T15 (mkF m 27 #[vR a0, vR a1, vI p2] [(.int (1 : Int32)), (.ref b1), (.ref a1)]) := fun t k => pre14 t (st15 t k)
    obtain ⟨cl16, Ar16, q16, S16, M16, H16, G16⟩ := id f9_4
    have in16 : ¬ ((1 : Int32) < 0 ∨ cl16.slots.size ≤ ((1 : Int32)).toNatClampNeg) := inb_of S16 ⟨by decide, by decide⟩
    have at16 : cl16.slots[((1 : Int32)).toNatClampNeg]? = some (.int y1) := H16.at in16 rfl
    have pre17 : Go p.tables e below S0 T15 (mkF m 29 #[vR a0, vR a1, vI p2] [(.ref a0), (.int y1), (.ref a1)]) := fun t k => pre15 t (by
      refine X15.iaload hx (j := (1 : Int32)) (v := (.int y1)) (by rw [e15]; exact Ar16.1) (State.isArrayOf_alike hZ.alike Ar16.2.1) Ar16.2.2 in16 at16 (g := (mkF m 27 #[vR a0, vR a1, vI p2] [(.int (1 : Int32)), (.ref b1), (.ref a1)])) rfl rfl (hb hby d3_27) _ ?_
      show Steps p.tables e below (T15.setTop (mkF m 28 #[vR a0, vR a1, vI p2] [(.int y1), (.ref a1)])) _
      refine XS.aloadN X15.here hx rfl (hb hby d3_28) rfl rfl ?_
      show Steps p.tables e below (T15.setTop (mkF m 29 #[vR a0, vR a1, vI p2] [(.ref a0), (.int y1), (.ref a1)])) _
      exact k)
    obtain ⟨T18, X18, e18, st18⟩ := getF X15 hx hZ hown (host := "") (Or.inl (hw _ (List.mem_of_getElem? (i := 12) rfl))) Via.refl e15 f9_3 (g := (mkF m 29 #[vR a0, vR a1, vI p2] [(.ref a0), (.int y1), (.ref a1)])) rfl rfl (hb hby d3_29)
    have pre18 : Go p.tables e below S0 T18 (mkF m 32 #[vR a0, vR a1, vI p2] [(.ref b2), (.int y1), (.ref a1)]) := fun t k => pre17 t (st18 t k)
    have pre19 : Go p.tables e below S0 T18 (mkF m 33 #[vR a0, vR a1, vI p2] [(.ref a0), (.ref b2), (.int y1), (.ref a1)]) := fun t k => pre18 t (by
      refine XS.aloadN X18.here hx rfl (hb hby d3_32) rfl rfl ?_
      show Steps p.tables e below (T18.setTop (mkF m 33 #[vR a0, vR a1, vI p2] [(.ref a0), (.ref b2), (.int y1), (.ref a1)])) _
      exact k)
    obtain ⟨T20, X20, e20, st20⟩ := getF X18 hx hZ hown (host := "") (Or.inl (hw _ (List.mem_of_getElem? (i := 19) rfl))) Via.refl e18 fw8 (g := (mkF m 33 #[vR a0, vR a1, vI p2] [(.ref a0), (.ref b2), (.int y1), (.ref a1)])) rfl rfl (hb hby d3_33)
    have pre20 : Go p.tables e below S0 T20 (mkF m 36 #[vR a0, vR a1, vI p2] [(.int (1 : Int32)), (.ref b2), (.int y1), (.ref a1)]) := fun t k => pre19 t (st20 t k)
    obtain ⟨cl21, Ar21, q21, S21, M21, H21, G21⟩ := id f9_5
    have in21 : ¬ ((1 : Int32) < 0 ∨ cl21.slots.size ≤ ((1 : Int32)).toNatClampNeg) := inb_of S21 ⟨by decide, by decide⟩
    have at21 : cl21.slots[((1 : Int32)).toNatClampNeg]? = some (.int w1) := H21.at in21 rfl
    have pre22 : Go p.tables e below S0 T20 (mkF m 37 #[vR a0, vR a1, vI p2] [(.int w1), (.int y1), (.ref a1)]) := fun t k => pre20 t (by
      refine X20.iaload hx (j := (1 : Int32)) (v := (.int w1)) (by rw [e20]; exact Ar21.1) (State.isArrayOf_alike hZ.alike Ar21.2.1) Ar21.2.2 in21 at21 (g := (mkF m 36 #[vR a0, vR a1, vI p2] [(.int (1 : Int32)), (.ref b2), (.int y1), (.ref a1)])) rfl rfl (hb hby d3_36) _ ?_
      show Steps p.tables e below (T20.setTop (mkF m 37 #[vR a0, vR a1, vI p2] [(.int w1), (.int y1), (.ref a1)])) _
      exact k)
    obtain ⟨cl23, Ar23, q23, S23, M23, H23, G23⟩ := id f9_6
    have in23 : ¬ (y1 < 0 ∨ cl23.slots.size ≤ (y1).toNatClampNeg) := inb_of S23 hy1
    obtain ⟨T23, h23, X23, e23, W23, st23⟩ := stI X20 hx hZ e20 Ar23 (j := y1) in23 (g := (mkF m 37 #[vR a0, vR a1, vI p2] [(.int w1), (.int y1), (.ref a1)])) rfl rfl (hb hby d3_37)
    have pre23 : Go p.tables e below S0 T23 (mkF m 38 #[vR a0, vR a1, vI p2] []) := fun t k => pre22 t (st23 t k)
    have N23 := Fr.snoc X23 N8 xg1
    have av23 : Arv Z h23 a1 k0 .int (4 : Int32) [(.int (own_put y1 (0 : Int32) w1 x0)), (.int (own_put y1 (1 : Int32) w1 x1)), (.int (own_put y1 (2 : Int32) w1 x2)), (.int (own_put y1 (3 : Int32) w1 x3))] (.int (0 : Int32)) := by
      have q := Arv.set Ar23 q23 S23 M23 H23 G23 rfl W23 _ rfl (own_list (w := 0) (x0 := 0) (x1 := 0) (x2 := 0) (x3 := 0) hy1).1
      rw [(own_list hy1).2] at q
      exact q
    have f24_1 := Exa.wr W23 f9_1
    have f24_2 := Fld.other W23 f9_2 (Or.inl (Ne.symm xe3))
    have f24_3 := Fld.other W23 f9_3 (Or.inl (Ne.symm xe3))
    have f24_4 := Fld.other W23 fw8 (Or.inl (Ne.symm xe3))
    have f24_5 := f9_4.other W23 xe4
    have f24_6 := f9_5.other W23 xe5
    have zz25 : n0 ≤ h23.size := Nat.le_trans zz10 (Keep.of_wr W23).1
    have kp26 : Keep h0 h23 [a0, a1] := kp11.wr W23 (Or.inl (List.mem_of_getElem? (i := 1) rfl))
    have pre27 : Go p.tables e below S0 T23 (mkF m 1 #[vR a0, vR a1, vI p2] [(.ref a0)]) := fun t k => pre23 t (by
      refine XS.goto X23.here hx rfl (pc0 := 38) (pc' := 0) rfl (hb hby d3_38) (by decide) (by decide) ?_
      show Steps p.tables e below (T23.setTop (mkF m 0 #[vR a0, vR a1, vI p2] [])) _
      refine XS.aloadN X23.here hx rfl (hb hby d3_0) rfl rfl ?_
      show Steps p.tables e below (T23.setTop (mkF m 1 #[vR a0, vR a1, vI p2] [(.ref a0)])) _
      exact k)
    obtain ⟨T28, X28, e28, st28⟩ := getF X23 hx hZ hown (host := "") (Or.inl (hw _ (List.mem_of_getElem? (i := 19) rfl))) Via.refl e23 f24_4 (g := (mkF m 1 #[vR a0, vR a1, vI p2] [(.ref a0)])) rfl rfl (hb hby d3_1)
    have pre28 : Go p.tables e below S0 T28 (mkF m 4 #[vR a0, vR a1, vI p2] [(.int (1 : Int32))]) := fun t k => pre27 t (st28 t k)
    have pre29 : Go p.tables e below S0 T28 (mkF m 5 #[vR a0, vR a1, vI p2] [(.int p2), (.int (1 : Int32))]) := fun t k => pre28 t (by
      refine XS.iloadN X28.here hx rfl (hb hby d3_4) rfl ?_
      show Steps p.tables e below (T28.setTop (mkF m 5 #[vR a0, vR a1, vI p2] [(.int p2), (.int (1 : Int32))])) _
      exact k)
    by_cases c5_30 : p2 < (1 : Int32)
    · skip
      have pre31 : Go p.tables e below S0 T28 (mkF m 10 #[vR a0, vR a1, vI p2] [(.ref a0), (.ref a0)]) := fun t k => pre29 t (by
        refine XS.icmpNo X28.here hx rfl (hb hby d3_5) rfl (tlt c5_30).2.2.2 ?_
        show Steps p.tables e below (T28.setTop (mkF m 8 #[vR a0, vR a1, vI p2] [])) _
        refine XS.aloadN X28.here hx rfl (hb hby d3_8) rfl rfl ?_
        show Steps p.tables e below (T28.setTop (mkF m 9 #[vR a0, vR a1, vI p2] [(.ref a0)])) _
        refine XS.dup X28.here hx rfl (hb hby d3_9) rfl rfl ?_
        show Steps p.tables e below (T28.setTop (mkF m 10 #[vR a0, vR a1, vI p2] [(.ref a0), (.ref a0)])) _
        exact k)
      obtain ⟨T32, X32, e32, st32⟩ := getF X28 hx hZ hown (host := "") (Or.inl (hw _ (List.mem_of_getElem? (i := 19) rfl))) Via.refl e28 f24_4 (g := (mkF m 10 #[vR a0, vR a1, vI p2] [(.ref a0), (.ref a0)])) rfl rfl (hb hby d3_10)
      have pre32 : Go p.tables e below S0 T32 (mkF m 13 #[vR a0, vR a1, vI p2] [(.int (1 : Int32)), (.ref a0)]) := fun t k => pre31 t (st32 t k)
      have pre33 : Go p.tables e below S0 T32 (mkF m 15 #[vR a0, vR a1, vI p2] [(.int (0 : Int32)), (.ref a0)]) := fun t k => pre32 t (by
        refine XS.iconst X32.here hx rfl (hb hby d3_13) ?_
        show Steps p.tables e below (T32.setTop (mkF m 14 #[vR a0, vR a1, vI p2] [(.int (1 : Int32)), (.int (1 : Int32)), (.ref a0)])) _
        refine XS.isub X32.here hx rfl (hb hby d3_14) rfl ?_
        show Steps p.tables e below (T32.setTop (mkF m 15 #[vR a0, vR a1, vI p2] [(.int (0 : Int32)), (.ref a0)])) _
        exact k)
      obtain ⟨T34, h34, X34, e34, W34, st34⟩ := putF X32 hx hZ hown (host := "") (Or.inl (hw _ (List.mem_of_getElem? (i := 19) rfl))) Via.refl e32 f24_4 f24_1 (Or.inl (hw _ (List.mem_of_getElem? (i := 20) rfl))) (hw _ (List.mem_of_getElem? (i := 2) rfl)) (ty := .int) (by decide) rfl rfl (g := (mkF m 15 #[vR a0, vR a1, vI p2] [(.int (0 : Int32)), (.ref a0)])) rfl rfl (hb hby d3_15)
      have pre34 : Go p.tables e below S0 T34 (mkF m 18 #[vR a0, vR a1, vI p2] []) := fun t k => pre33 t (st34 t k)
      have N34 := Fr.snoc X34 N23 g0
      have fw34 : Fld Z h34 a0 "com/example/motiflow/motiflow/UndoLog" "size" "I" (.int (0 : Int32)) := Fld.same W34 f24_4
      have f35_1 := Exa.wr W34 f24_1
      have f35_2 := Fld.other W34 f24_2 (Or.inr (slot_ne (Or.inl (hw _ (List.mem_of_getElem? (i := 11) rfl))) (Or.inl (hw _ (List.mem_of_getElem? (i := 20) rfl))) (by decide) (t := (.array .int)) (t' := .int) (by decide) (by decide)))
      have f35_3 := Fld.other W34 f24_3 (Or.inr (slot_ne (Or.inl (hw _ (List.mem_of_getElem? (i := 13) rfl))) (Or.inl (hw _ (List.mem_of_getElem? (i := 20) rfl))) (by decide) (t := (.array .int)) (t' := .int) (by decide) (by decide)))
      have f35_4 := f24_5.other W34 xe1
      have f35_5 := f24_6.other W34 xe2
      have f35_6 := av23.other W34 xe3
      have zz36 : n0 ≤ h34.size := Nat.le_trans zz25 (Keep.of_wr W34).1
      have kp37 : Keep h0 h34 [a0, a1] := kp26.wr W34 (Or.inl (List.mem_of_getElem? (i := 0) rfl))
      have pre38 : Go p.tables e below S0 T34 (mkF m 20 #[vR a0, vR a1, vI p2] [(.ref a0), (.ref a1)]) := fun t k => pre34 t (by
        refine XS.aloadN X34.here hx rfl (hb hby d3_18) rfl rfl ?_
        show Steps p.tables e below (T34.setTop (mkF m 19 #[vR a0, vR a1, vI p2] [(.ref a1)])) _
        refine XS.aloadN X34.here hx rfl (hb hby d3_19) rfl rfl ?_
        show Steps p.tables e below (T34.setTop (mkF m 20 #[vR a0, vR a1, vI p2] [(.ref a0), (.ref a1)])) _
        exact k)
      obtain ⟨T39, X39, e39, st39⟩ := getF X34 hx hZ hown (host := "") (Or.inl (hw _ (List.mem_of_getElem? (i := 10) rfl))) Via.refl e34 f35_2 (g := (mkF m 20 #[vR a0, vR a1, vI p2] [(.ref a0), (.ref a1)])) rfl rfl (hb hby d3_20)
      have pre39 : Go p.tables e below S0 T39 (mkF m 23 #[vR a0, vR a1, vI p2] [(.ref b1), (.ref a1)]) := fun t k => pre38 t (st39 t k)
      have pre40 : Go p.tables e below S0 T39 (mkF m 24 #[vR a0, vR a1, vI p2] [(.ref a0), (.ref b1), (.ref a1)]) := fun t k => pre39 t (by
        refine XS.aloadN X39.here hx rfl (hb hby d3_23) rfl rfl ?_
        show Steps p.tables e below (T39.setTop (mkF m 24 #[vR a0, vR a1, vI p2] [(.ref a0), (.ref b1), (.ref a1)])) _
        exact k)
      obtain ⟨T41, X41, e41, st41⟩ := getF X39 hx hZ hown (host := "") (Or.inl (hw _ (List.mem_of_getElem? (i := 19) rfl))) Via.refl e39 fw34 (g := (mkF m 24 #[vR a0, vR a1, vI p2] [(.ref a0), (.ref b1), (.ref a1)])) rfl rfl (hb hby d3_24)
      have pre41 : Go p.tables e below S0 T41 (mkF m 27 #[vR a0, vR a1, vI p2] [(.int (0 : Int32)), (.ref b1), (.ref a1)]) := fun t k => pre40 t (st41 t k)
      obtain ⟨cl42, Ar42, q42, S42, M42, H42, G42⟩ := id f35_4
      have in42 : ¬ ((0 : Int32) < 0 ∨ cl42.slots.size ≤ ((0 : Int32)).toNatClampNeg) := inb_of S42 ⟨by decide, by decide⟩
      have at42 : cl42.slots[((0 : Int32)).toNatClampNeg]? = some (.int y0) := H42.at in42 rfl
      have pre43 : Go p.tables e below S0 T41 (mkF m 29 #[vR a0, vR a1, vI p2] [(.ref a0), (.int y0), (.ref a1)]) := fun t k => pre41 t (by
        refine X41.iaload hx (j := (0 : Int32)) (v := (.int y0)) (by rw [e41]; exact Ar42.1) (State.isArrayOf_alike hZ.alike Ar42.2.1) Ar42.2.2 in42 at42 (g := (mkF m 27 #[vR a0, vR a1, vI p2] [(.int (0 : Int32)), (.ref b1), (.ref a1)])) rfl rfl (hb hby d3_27) _ ?_
        show Steps p.tables e below (T41.setTop (mkF m 28 #[vR a0, vR a1, vI p2] [(.int y0), (.ref a1)])) _
        refine XS.aloadN X41.here hx rfl (hb hby d3_28) rfl rfl ?_
        show Steps p.tables e below (T41.setTop (mkF m 29 #[vR a0, vR a1, vI p2] [(.ref a0), (.int y0), (.ref a1)])) _
        exact k)
      obtain ⟨T44, X44, e44, st44⟩ := getF X41 hx hZ hown (host := "") (Or.inl (hw _ (List.mem_of_getElem? (i := 12) rfl))) Via.refl e41 f35_3 (g := (mkF m 29 #[vR a0, vR a1, vI p2] [(.ref a0), (.int y0), (.ref a1)])) rfl rfl (hb hby d3_29)
      have pre44 : Go p.tables e below S0 T44 (mkF m 32 #[vR a0, vR a1, vI p2] [(.ref b2), (.int y0), (.ref a1)]) := fun t k => pre43 t (st44 t k)
      have pre45 : Go p.tables e below S0 T44 (mkF m 33 #[vR a0, vR a1, vI p2] [(.ref a0), (.ref b2), (.int y0), (.ref a1)]) := fun t k => pre44 t (by
        refine XS.aloadN X44.here hx rfl (hb hby d3_32) rfl rfl ?_
        show Steps p.tables e below (T44.setTop (mkF m 33 #[vR a0, vR a1, vI p2] [(.ref a0), (.ref b2), (.int y0), (.ref a1)])) _
        exact k)
      obtain ⟨T46, X46, e46, st46⟩ := getF X44 hx hZ hown (host := "") (Or.inl (hw _ (List.mem_of_getElem? (i := 19) rfl))) Via.refl e44 fw34 (g := (mkF m 33 #[vR a0, vR a1, vI p2] [(.ref a0), (.ref b2), (.int y0), (.ref a1)])) rfl rfl (hb hby d3_33)
      have pre46 : Go p.tables e below S0 T46 (mkF m 36 #[vR a0, vR a1, vI p2] [(.int (0 : Int32)), (.ref b2), (.int y0), (.ref a1)]) := fun t k => pre45 t (st46 t k)
      obtain ⟨cl47, Ar47, q47, S47, M47, H47, G47⟩ := id f35_5
      have in47 : ¬ ((0 : Int32) < 0 ∨ cl47.slots.size ≤ ((0 : Int32)).toNatClampNeg) := inb_of S47 ⟨by decide, by decide⟩
      have at47 : cl47.slots[((0 : Int32)).toNatClampNeg]? = some (.int w0) := H47.at in47 rfl
      have pre48 : Go p.tables e below S0 T46 (mkF m 37 #[vR a0, vR a1, vI p2] [(.int w0), (.int y0), (.ref a1)]) := fun t k => pre46 t (by
        refine X46.iaload hx (j := (0 : Int32)) (v := (.int w0)) (by rw [e46]; exact Ar47.1) (State.isArrayOf_alike hZ.alike Ar47.2.1) Ar47.2.2 in47 at47 (g := (mkF m 36 #[vR a0, vR a1, vI p2] [(.int (0 : Int32)), (.ref b2), (.int y0), (.ref a1)])) rfl rfl (hb hby d3_36) _ ?_
        show Steps p.tables e below (T46.setTop (mkF m 37 #[vR a0, vR a1, vI p2] [(.int w0), (.int y0), (.ref a1)])) _
        exact k)
      obtain ⟨cl49, Ar49, q49, S49, M49, H49, G49⟩ := id f35_6
      have in49 : ¬ (y0 < 0 ∨ cl49.slots.size ≤ (y0).toNatClampNeg) := inb_of S49 hy0
      obtain ⟨T49, h49, X49, e49, W49, st49⟩ := stI X46 hx hZ e46 Ar49 (j := y0) in49 (g := (mkF m 37 #[vR a0, vR a1, vI p2] [(.int w0), (.int y0), (.ref a1)])) rfl rfl (hb hby d3_37)
      have pre49 : Go p.tables e below S0 T49 (mkF m 38 #[vR a0, vR a1, vI p2] []) := fun t k => pre48 t (st49 t k)
      have N49 := Fr.snoc X49 N34 xg1
      have av49 : Arv Z h49 a1 k0 .int (4 : Int32) [(.int (own_put y0 (0 : Int32) w0 (own_put y1 (0 : Int32) w1 x0))), (.int (own_put y0 (1 : Int32) w0 (own_put y1 (1 : Int32) w1 x1))), (.int (own_put y0 (2 : Int32) w0 (own_put y1 (2 : Int32) w1 x2))), (.int (own_put y0 (3 : Int32) w0 (own_put y1 (3 : Int32) w1 x3)))] (.int (0 : Int32)) := by
        have q := Arv.set Ar49 q49 S49 M49 H49 G49 rfl W49 _ rfl (own_list (w := 0) (x0 := 0) (x1 := 0) (x2 := 0) (x3 := 0) hy0).1
        rw [(own_list hy0).2] at q
        exact q
      have f50_1 := Exa.wr W49 f35_1
      have f50_2 := Fld.other W49 f35_2 (Or.inl (Ne.symm xe3))
      have f50_3 := Fld.other W49 f35_3 (Or.inl (Ne.symm xe3))
      have f50_4 := Fld.other W49 fw34 (Or.inl (Ne.symm xe3))
      have f50_5 := f35_4.other W49 xe4
      have f50_6 := f35_5.other W49 xe5
      have zz51 : n0 ≤ h49.size := Nat.le_trans zz36 (Keep.of_wr W49).1
      have kp52 : Keep h0 h49 [a0, a1] := kp37.wr W49 (Or.inl (List.mem_of_getElem? (i := 1) rfl))
      have pre53 : Go p.tables e below S0 T49 (mkF m 1 #[vR a0, vR a1, vI p2] [(.ref a0)]) := fun t k => pre49 t (by
        refine XS.goto X49.here hx rfl (pc0 := 38) (pc' := 0) rfl (hb hby d3_38) (by decide) (by decide) ?_
        show Steps p.tables e below (T49.setTop (mkF m 0 #[vR a0, vR a1, vI p2] [])) _
        refine XS.aloadN X49.here hx rfl (hb hby d3_0) rfl rfl ?_
        show Steps p.tables e below (T49.setTop (mkF m 1 #[vR a0, vR a1, vI p2] [(.ref a0)])) _
        exact k)
      obtain ⟨T54, X54, e54, st54⟩ := getF X49 hx hZ hown (host := "") (Or.inl (hw _ (List.mem_of_getElem? (i := 19) rfl))) Via.refl e49 f50_4 (g := (mkF m 1 #[vR a0, vR a1, vI p2] [(.ref a0)])) rfl rfl (hb hby d3_1)
      have pre54 : Go p.tables e below S0 T54 (mkF m 4 #[vR a0, vR a1, vI p2] [(.int (0 : Int32))]) := fun t k => pre53 t (st54 t k)
      have pre55 : Go p.tables e below S0 T54 (mkF m 5 #[vR a0, vR a1, vI p2] [(.int p2), (.int (0 : Int32))]) := fun t k => pre54 t (by
        refine XS.iloadN X54.here hx rfl (hb hby d3_4) rfl ?_
        show Steps p.tables e below (T54.setTop (mkF m 5 #[vR a0, vR a1, vI p2] [(.int p2), (.int (0 : Int32))])) _
        exact k)
      have cc56 : ¬ (p2 < (0 : Int32)) := by rw [Int32.lt_iff_toInt_lt]; exact Int.not_lt.mpr hm
      have pre57 : Go p.tables e below S0 T54 (mkF m 41 #[vR a0, vR a1, vI p2] []) := fun t k => pre55 t (by
        refine XS.icmpYes X54.here hx rfl (pc0 := 5) (pc' := 41) rfl (hb hby d3_5) rfl (flt cc56).2.2.2 (by decide) (by decide) ?_
        show Steps p.tables e below (T54.setTop (mkF m 41 #[vR a0, vR a1, vI p2] [])) _
        exact k)
      obtain ⟨fs, hr, hrun, hended, hW, hsame⟩ := X54.leave (v := none) (fun _ => rfl)
      exact ⟨_, _, pre57.fin hS0 (X54.returnOut hx Bd.returns (hb hby d3_41) hr), hrun, hended, _, _, rfl, (by
        show Q3_2 Z a0 a1 p2 b1 b2 k1 k2 k0 x0 x1 x2 x3 y0 w0 y1 w1 y2 w2 h0 n0 _ T54.heap _
        rw [e54]
        simp only [Int32.lt_iff_toInt_lt, Int32.reduceToInt] at c5_4 c5_30
        have m0 : ¬ ((0 : Int32) < p2) := by simp only [Int32.lt_iff_toInt_lt, Int32.reduceToInt]; omega
        have m1 : ¬ ((1 : Int32) < p2) := by simp only [Int32.lt_iff_toInt_lt, Int32.reduceToInt]; omega
        have l0 : own_min (2 : Int32) p2 = (0 : Int32) := by
          unfold own_min
          have z : p2 < (2 : Int32) := by simp only [Int32.lt_iff_toInt_lt, Int32.reduceToInt]; omega
          first | (rw [if_neg z]; done) | (rw [if_pos z]; apply Int32.toInt_inj.mp; simp only [Int32.reduceToInt]; omega)
        have r0 : own_expect (0 : Int32) x0 (2 : Int32) p2 y0 w0 y1 w1 y2 w2 = (own_put y0 (0 : Int32) w0 (own_put y1 (0 : Int32) w1 x0)) := by simp [own_expect, own_expect_18, own_expect_37, own_put, m0, m1]
        have r1 : own_expect (1 : Int32) x1 (2 : Int32) p2 y0 w0 y1 w1 y2 w2 = (own_put y0 (1 : Int32) w0 (own_put y1 (1 : Int32) w1 x1)) := by simp [own_expect, own_expect_18, own_expect_37, own_put, m0, m1]
        have r2 : own_expect (2 : Int32) x2 (2 : Int32) p2 y0 w0 y1 w1 y2 w2 = (own_put y0 (2 : Int32) w0 (own_put y1 (2 : Int32) w1 x2)) := by simp [own_expect, own_expect_18, own_expect_37, own_put, m0, m1]
        have r3 : own_expect (3 : Int32) x3 (2 : Int32) p2 y0 w0 y1 w1 y2 w2 = (own_put y0 (3 : Int32) w0 (own_put y1 (3 : Int32) w1 x3)) := by simp [own_expect, own_expect_18, own_expect_37, own_put, m0, m1]
        rw [show Q3_2 Z a0 a1 p2 b1 b2 k1 k2 k0 x0 x1 x2 x3 y0 w0 y1 w1 y2 w2 h0 n0 = Q3_2 Z a0 a1 p2 b1 b2 k1 k2 k0 x0 x1 x2 x3 y0 w0 y1 w1 y2 w2 h0 n0 from rfl]
        unfold Q3_2
        rw [l0, r0, r1, r2, r3]
        exact ⟨rfl, N49, kp52, f50_1, f50_2, f50_3, f50_4, av49⟩), ⟨_, rfl⟩, hW, hsame.mono (by decide) (by decide)⟩
    · skip
      have pre58 : Go p.tables e below S0 T28 (mkF m 41 #[vR a0, vR a1, vI p2] []) := fun t k => pre29 t (by
        refine XS.icmpYes X28.here hx rfl (pc0 := 5) (pc' := 41) rfl (hb hby d3_5) rfl (flt c5_30).2.2.2 (by decide) (by decide) ?_
        show Steps p.tables e below (T28.setTop (mkF m 41 #[vR a0, vR a1, vI p2] [])) _
        exact k)
      obtain ⟨fs, hr, hrun, hended, hW, hsame⟩ := X28.leave (v := none) (fun _ => rfl)
      exact ⟨_, _, pre58.fin hS0 (X28.returnOut hx Bd.returns (hb hby d3_41) hr), hrun, hended, _, _, rfl, (by
        show Q3_2 Z a0 a1 p2 b1 b2 k1 k2 k0 x0 x1 x2 x3 y0 w0 y1 w1 y2 w2 h0 n0 _ T28.heap _
        rw [e28]
        simp only [Int32.lt_iff_toInt_lt, Int32.reduceToInt] at c5_4 c5_30
        have m0 : (0 : Int32) < p2 := by simp only [Int32.lt_iff_toInt_lt, Int32.reduceToInt]; omega
        have m1 : ¬ ((1 : Int32) < p2) := by simp only [Int32.lt_iff_toInt_lt, Int32.reduceToInt]; omega
        have l0 : own_min (2 : Int32) p2 = (1 : Int32) := by
          unfold own_min
          have z : p2 < (2 : Int32) := by simp only [Int32.lt_iff_toInt_lt, Int32.reduceToInt]; omega
          first | (rw [if_neg z]; done) | (rw [if_pos z]; apply Int32.toInt_inj.mp; simp only [Int32.reduceToInt]; omega)
        have r0 : own_expect (0 : Int32) x0 (2 : Int32) p2 y0 w0 y1 w1 y2 w2 = (own_put y1 (0 : Int32) w1 x0) := by simp [own_expect, own_expect_18, own_expect_37, own_put, m0, m1]
        have r1 : own_expect (1 : Int32) x1 (2 : Int32) p2 y0 w0 y1 w1 y2 w2 = (own_put y1 (1 : Int32) w1 x1) := by simp [own_expect, own_expect_18, own_expect_37, own_put, m0, m1]
        have r2 : own_expect (2 : Int32) x2 (2 : Int32) p2 y0 w0 y1 w1 y2 w2 = (own_put y1 (2 : Int32) w1 x2) := by simp [own_expect, own_expect_18, own_expect_37, own_put, m0, m1]
        have r3 : own_expect (3 : Int32) x3 (2 : Int32) p2 y0 w0 y1 w1 y2 w2 = (own_put y1 (3 : Int32) w1 x3) := by simp [own_expect, own_expect_18, own_expect_37, own_put, m0, m1]
        rw [show Q3_2 Z a0 a1 p2 b1 b2 k1 k2 k0 x0 x1 x2 x3 y0 w0 y1 w1 y2 w2 h0 n0 = Q3_2 Z a0 a1 p2 b1 b2 k1 k2 k0 x0 x1 x2 x3 y0 w0 y1 w1 y2 w2 h0 n0 from rfl]
        unfold Q3_2
        rw [l0, r0, r1, r2, r3]
        exact ⟨rfl, N23, kp26, f24_1, f24_2, f24_3, f24_4, av23⟩), ⟨_, rfl⟩, hW, hsame.mono (by decide) (by decide)⟩
  · skip
    have pre59 : Go p.tables e below S0 T2 (mkF m 41 #[vR a0, vR a1, vI p2] []) := fun t k => pre3 t (by
      refine XS.icmpYes X2.here hx rfl (pc0 := 5) (pc' := 41) rfl (hb hby d3_5) rfl (flt c5_4).2.2.2 (by decide) (by decide) ?_
      show Steps p.tables e below (T2.setTop (mkF m 41 #[vR a0, vR a1, vI p2] [])) _
      exact k)
    obtain ⟨fs, hr, hrun, hended, hW, hsame⟩ := X2.leave (v := none) (fun _ => rfl)
    exact ⟨_, _, pre59.fin hS0 (X2.returnOut hx Bd.returns (hb hby d3_41) hr), hrun, hended, _, _, rfl, (by
      show Q3_2 Z a0 a1 p2 b1 b2 k1 k2 k0 x0 x1 x2 x3 y0 w0 y1 w1 y2 w2 h0 n0 _ T2.heap _
      rw [e2]
      simp only [Int32.lt_iff_toInt_lt, Int32.reduceToInt] at c5_4
      have m0 : (0 : Int32) < p2 := by simp only [Int32.lt_iff_toInt_lt, Int32.reduceToInt]; omega
      have m1 : (1 : Int32) < p2 := by simp only [Int32.lt_iff_toInt_lt, Int32.reduceToInt]; omega
      have l0 : own_min (2 : Int32) p2 = (2 : Int32) := by
        unfold own_min
        have z : ¬ (p2 < (2 : Int32)) := by simp only [Int32.lt_iff_toInt_lt, Int32.reduceToInt]; omega
        first | (rw [if_neg z]; done) | (rw [if_pos z]; apply Int32.toInt_inj.mp; simp only [Int32.reduceToInt]; omega)
      have r0 : own_expect (0 : Int32) x0 (2 : Int32) p2 y0 w0 y1 w1 y2 w2 = x0 := by simp [own_expect, own_expect_18, own_expect_37, own_put, m0, m1]
      have r1 : own_expect (1 : Int32) x1 (2 : Int32) p2 y0 w0 y1 w1 y2 w2 = x1 := by simp [own_expect, own_expect_18, own_expect_37, own_put, m0, m1]
      have r2 : own_expect (2 : Int32) x2 (2 : Int32) p2 y0 w0 y1 w1 y2 w2 = x2 := by simp [own_expect, own_expect_18, own_expect_37, own_put, m0, m1]
      have r3 : own_expect (3 : Int32) x3 (2 : Int32) p2 y0 w0 y1 w1 y2 w2 = x3 := by simp [own_expect, own_expect_18, own_expect_37, own_put, m0, m1]
      rw [show Q3_2 Z a0 a1 p2 b1 b2 k1 k2 k0 x0 x1 x2 x3 y0 w0 y1 w1 y2 w2 h0 n0 = Q3_2 Z a0 a1 p2 b1 b2 k1 k2 k0 x0 x1 x2 x3 y0 w0 y1 w1 y2 w2 h0 n0 from rfl]
      unfold Q3_2
      rw [l0, r0, r1, r2, r3]
      exact ⟨rfl, N0, kp0, E0, F_p, F_v, F_s, V0⟩), ⟨_, rfl⟩, hW, hsame.mono (by decide) (by decide)⟩
theorem ef_3_3 (m : MethodId) (x0 : Addr) (x1 : Addr) (x2 : Int32) : entryFrame m #[(.ref x0), (.ref x1), (.int x2)] 3 = mkF m 0 #[.val (.ref x0), .val (.ref x1), .val (.int x2)] [] := by first | (simp [entryFrame, mkF, argsToLocals, Value.category]; done) | rfl
def Q3_3 (Z : State) (a0 a1 : Addr) (p2 : Int32) (b1 b2 : Addr) (k1 k2 k0 : ClassId) (x0 x1 x2 x3 : Int32) (y0 w0 : Int32) (y1 w1 : Int32) (y2 w2 : Int32) (h0 : Heap) (n0 : Nat) (v : Option Value) (h : Heap) (L : List Loc) : Prop := v = none ∧ Fr n0 L ∧ Keep h0 h [a0, a1] ∧ (Exa Z h a0 "com/example/motiflow/motiflow/UndoLog") ∧ (Fld Z h a0 "com/example/motiflow/motiflow/UndoLog" "places" "[I" (.ref b1)) ∧ (Fld Z h a0 "com/example/motiflow/motiflow/UndoLog" "values" "[I" (.ref b2)) ∧ (Fld Z h a0 "com/example/motiflow/motiflow/UndoLog" "size" "I" (.int (own_min (3 : Int32) p2))) ∧ (Arv Z h a1 k0 .int (4 : Int32) [(.int (own_expect (0 : Int32) x0 (3 : Int32) p2 y0 w0 y1 w1 y2 w2)), (.int (own_expect (1 : Int32) x1 (3 : Int32) p2 y0 w0 y1 w1 y2 w2)), (.int (own_expect (2 : Int32) x2 (3 : Int32) p2 y0 w0 y1 w1 y2 w2)), (.int (own_expect (3 : Int32) x3 (3 : Int32) p2 y0 w0 y1 w1 y2 w2))] (.int (0 : Int32)))
set_option maxRecDepth 65536 in
set_option maxHeartbeats 40000000 in
theorem rm3_3 (l : Launch) (Z : State) (A0 : Array Value) (hw : ∀ d ∈ tables_1, d.before A0 Z = true) (ws : List Jvm.Cond) (a0 : Addr) (a1 : Addr) (p2 : Int32) (b1 b2 : Addr) (k1 k2 k0 : ClassId) (x0 x1 x2 x3 : Int32) (y0 w0 : Int32) (y1 w1 : Int32) (y2 w2 : Int32) (h0 : Heap) (n0 : Nat) (Z0 : n0 ≤ h0.size) (E0 : Exa Z h0 a0 "com/example/motiflow/motiflow/UndoLog") (F_p : Fld Z h0 a0 "com/example/motiflow/motiflow/UndoLog" "places" "[I" (.ref b1)) (F_v : Fld Z h0 a0 "com/example/motiflow/motiflow/UndoLog" "values" "[I" (.ref b2)) (F_s : Fld Z h0 a0 "com/example/motiflow/motiflow/UndoLog" "size" "I" (.int (3 : Int32))) (V1 : Arv Z h0 b1 k1 .int (16 : Int32) [(.int y0), (.int y1), (.int y2), (.int (0 : Int32)), (.int (0 : Int32)), (.int (0 : Int32)), (.int (0 : Int32)), (.int (0 : Int32)), (.int (0 : Int32)), (.int (0 : Int32)), (.int (0 : Int32)), (.int (0 : Int32)), (.int (0 : Int32)), (.int (0 : Int32)), (.int (0 : Int32)), (.int (0 : Int32))] (.int (0 : Int32))) (V2 : Arv Z h0 b2 k2 .int (16 : Int32) [(.int w0), (.int w1), (.int w2), (.int (0 : Int32)), (.int (0 : Int32)), (.int (0 : Int32)), (.int (0 : Int32)), (.int (0 : Int32)), (.int (0 : Int32)), (.int (0 : Int32)), (.int (0 : Int32)), (.int (0 : Int32)), (.int (0 : Int32)), (.int (0 : Int32)), (.int (0 : Int32)), (.int (0 : Int32))] (.int (0 : Int32))) (V0 : Arv Z h0 a1 k0 .int (4 : Int32) [(.int x0), (.int x1), (.int x2), (.int x3)] (.int (0 : Int32))) (xe1 : b1 ≠ a0) (xe2 : b2 ≠ a0) (xe3 : a1 ≠ a0) (xe4 : b1 ≠ a1) (xe5 : b2 ≠ a1) (g0 : n0 ≤ a0) (xg1 : n0 ≤ a1) (hy0 : ¬ y0 < 0 ∧ y0 < (4 : Int32)) (hy1 : ¬ y1 < 0 ∧ y1 < (4 : Int32)) (hy2 : ¬ y2 < 0 ∧ y2 < (4 : Int32)) (hm : 0 ≤ p2.toInt) :
    MetFree l (⟨"com/example/motiflow/motiflow/UndoLog", "takeBack", "([II)V"⟩ : MethodName) (head1 (Jvm.Cond.code (⟨"com/example/motiflow/motiflow/UndoLog", "takeBack", "([II)V"⟩ : MethodName) prog_138_method_5_code 3 none :: ws) ({ frames := 0, cells := 0, slots := 0, locals := 0 } : Room)) (fun a U => a = #[(.ref a0), (.ref a1), (.int p2)] ∧ Z.Warmed39 U.vm ∧ U.heap = h0) (fun _ _ _ _ _ => True) (fun _ U o U' => ∃ v L, o = .returned v ∧ Q3_3 Z a0 a1 p2 b1 b2 k1 k2 k0 x0 x1 x2 x3 y0 w0 y1 w1 y2 w2 h0 n0 v U'.heap L ∧ FrameEnd U o U' L ({ frames := 0, cells := 0, slots := 0, locals := 0 } : Room).cells ({ frames := 0, cells := 0, slots := 0, locals := 0 } : Room).slots) := by
  refine MetFree.of_bodySF (plainFor_of_name pn_1) hisR ?_
  intro p e s m args below meth c s₁ Bd hml0 hP hK
  obtain ⟨rfl, hZ, hh⟩ := hP
  have hx := Bd.exec
  have hby := Bd.bytes
  have hml : c.maxLocals = 3 := hml0
  have hown : s.vm.findClass "com/example/motiflow/motiflow/UndoLog" = some m.cls := findClass_of_methodNamed Bd.named
  have hnm := (name_of_methodNamed Bd.named Bd.method).1
  have X0 : Stand p l e ({ frames := 0, cells := 0, slots := 0, locals := 0 } : Room) s m #[(.ref a0), (.ref a1), (.int p2)] below meth c s₁ [] 0 0 := Stand.of_body Bd
  have e0 : s₁.heap = h0 := by rw [← hh, Bd.state]; rfl
  have N0 := Fr.nil n0
  have kp0 : Keep h0 h0 [a0, a1] := Keep.refl _ _
  obtain ⟨S0, hS0⟩ : ∃ z, z = s₁.setTop (entryFrame m #[(.ref a0), (.ref a1), (.int p2)] 3) := ⟨_, rfl⟩
  have pre0 : Go p.tables e below S0 s₁ (mkF m 0 #[vR a0, vR a1, vI p2] []) := fun t k => by rw [hS0]; exact castTop (ef_3_3 m a0 a1 p2) k
  have pre1 : Go p.tables e below S0 s₁ (mkF m 1 #[vR a0, vR a1, vI p2] [(.ref a0)]) := fun t k => pre0 t (by
    refine XS.aloadN X0.here hx rfl (hb hby d3_0) rfl rfl ?_
    show Steps p.tables e below (s₁.setTop (mkF m 1 #[vR a0, vR a1, vI p2] [(.ref a0)])) _
    exact k)
  obtain ⟨T2, X2, e2, st2⟩ := getF X0 hx hZ hown (host := "") (Or.inl (hw _ (List.mem_of_getElem? (i := 19) rfl))) Via.refl e0 F_s (g := (mkF m 1 #[vR a0, vR a1, vI p2] [(.ref a0)])) rfl rfl (hb hby d3_1)
  have pre2 : Go p.tables e below S0 T2 (mkF m 4 #[vR a0, vR a1, vI p2] [(.int (3 : Int32))]) := fun t k => pre1 t (st2 t k)
  have pre3 : Go p.tables e below S0 T2 (mkF m 5 #[vR a0, vR a1, vI p2] [(.int p2), (.int (3 : Int32))]) := fun t k => pre2 t (by
    refine XS.iloadN X2.here hx rfl (hb hby d3_4) rfl ?_
    show Steps p.tables e below (T2.setTop (mkF m 5 #[vR a0, vR a1, vI p2] [(.int p2), (.int (3 : Int32))])) _
    exact k)
  by_cases c5_4 : p2 < (3 : Int32)
  · skip
    have pre5 : Go p.tables e below S0 T2 (mkF m 10 #[vR a0, vR a1, vI p2] [(.ref a0), (.ref a0)]) := fun t k => pre3 t (by
      refine XS.icmpNo X2.here hx rfl (hb hby d3_5) rfl (tlt c5_4).2.2.2 ?_
      show Steps p.tables e below (T2.setTop (mkF m 8 #[vR a0, vR a1, vI p2] [])) _
      refine XS.aloadN X2.here hx rfl (hb hby d3_8) rfl rfl ?_
      show Steps p.tables e below (T2.setTop (mkF m 9 #[vR a0, vR a1, vI p2] [(.ref a0)])) _
      refine XS.dup X2.here hx rfl (hb hby d3_9) rfl rfl ?_
      show Steps p.tables e below (T2.setTop (mkF m 10 #[vR a0, vR a1, vI p2] [(.ref a0), (.ref a0)])) _
      exact k)
    obtain ⟨T6, X6, e6, st6⟩ := getF X2 hx hZ hown (host := "") (Or.inl (hw _ (List.mem_of_getElem? (i := 19) rfl))) Via.refl e2 F_s (g := (mkF m 10 #[vR a0, vR a1, vI p2] [(.ref a0), (.ref a0)])) rfl rfl (hb hby d3_10)
    have pre6 : Go p.tables e below S0 T6 (mkF m 13 #[vR a0, vR a1, vI p2] [(.int (3 : Int32)), (.ref a0)]) := fun t k => pre5 t (st6 t k)
    have pre7 : Go p.tables e below S0 T6 (mkF m 15 #[vR a0, vR a1, vI p2] [(.int (2 : Int32)), (.ref a0)]) := fun t k => pre6 t (by
      refine XS.iconst X6.here hx rfl (hb hby d3_13) ?_
      show Steps p.tables e below (T6.setTop (mkF m 14 #[vR a0, vR a1, vI p2] [(.int (1 : Int32)), (.int (3 : Int32)), (.ref a0)])) _
      refine XS.isub X6.here hx rfl (hb hby d3_14) rfl ?_
      show Steps p.tables e below (T6.setTop (mkF m 15 #[vR a0, vR a1, vI p2] [(.int (2 : Int32)), (.ref a0)])) _
      exact k)
    obtain ⟨T8, h8, X8, e8, W8, st8⟩ := putF X6 hx hZ hown (host := "") (Or.inl (hw _ (List.mem_of_getElem? (i := 19) rfl))) Via.refl e6 F_s E0 (Or.inl (hw _ (List.mem_of_getElem? (i := 20) rfl))) (hw _ (List.mem_of_getElem? (i := 2) rfl)) (ty := .int) (by decide) rfl rfl (g := (mkF m 15 #[vR a0, vR a1, vI p2] [(.int (2 : Int32)), (.ref a0)])) rfl rfl (hb hby d3_15)
    have pre8 : Go p.tables e below S0 T8 (mkF m 18 #[vR a0, vR a1, vI p2] []) := fun t k => pre7 t (st8 t k)
    have N8 := Fr.snoc X8 N0 g0
    have fw8 : Fld Z h8 a0 "com/example/motiflow/motiflow/UndoLog" "size" "I" (.int (2 : Int32)) := Fld.same W8 F_s
    have f9_1 := Exa.wr W8 E0
    have f9_2 := Fld.other W8 F_p (Or.inr (slot_ne (Or.inl (hw _ (List.mem_of_getElem? (i := 11) rfl))) (Or.inl (hw _ (List.mem_of_getElem? (i := 20) rfl))) (by decide) (t := (.array .int)) (t' := .int) (by decide) (by decide)))
    have f9_3 := Fld.other W8 F_v (Or.inr (slot_ne (Or.inl (hw _ (List.mem_of_getElem? (i := 13) rfl))) (Or.inl (hw _ (List.mem_of_getElem? (i := 20) rfl))) (by decide) (t := (.array .int)) (t' := .int) (by decide) (by decide)))
    have f9_4 := V1.other W8 xe1
    have f9_5 := V2.other W8 xe2
    have f9_6 := V0.other W8 xe3
    have zz10 : n0 ≤ h8.size := Nat.le_trans Z0 (Keep.of_wr W8).1
    have kp11 : Keep h0 h8 [a0, a1] := kp0.wr W8 (Or.inl (List.mem_of_getElem? (i := 0) rfl))
    have pre12 : Go p.tables e below S0 T8 (mkF m 20 #[vR a0, vR a1, vI p2] [(.ref a0), (.ref a1)]) := fun t k => pre8 t (by
      refine XS.aloadN X8.here hx rfl (hb hby d3_18) rfl rfl ?_
      show Steps p.tables e below (T8.setTop (mkF m 19 #[vR a0, vR a1, vI p2] [(.ref a1)])) _
      refine XS.aloadN X8.here hx rfl (hb hby d3_19) rfl rfl ?_
      show Steps p.tables e below (T8.setTop (mkF m 20 #[vR a0, vR a1, vI p2] [(.ref a0), (.ref a1)])) _
      exact k)
    obtain ⟨T13, X13, e13, st13⟩ := getF X8 hx hZ hown (host := "") (Or.inl (hw _ (List.mem_of_getElem? (i := 10) rfl))) Via.refl e8 f9_2 (g := (mkF m 20 #[vR a0, vR a1, vI p2] [(.ref a0), (.ref a1)])) rfl rfl (hb hby d3_20)
    have pre13 : Go p.tables e below S0 T13 (mkF m 23 #[vR a0, vR a1, vI p2] [(.ref b1), (.ref a1)]) := fun t k => pre12 t (st13 t k)
    have pre14 : Go p.tables e below S0 T13 (mkF m 24 #[vR a0, vR a1, vI p2] [(.ref a0), (.ref b1), (.ref a1)]) := fun t k => pre13 t (by
      refine XS.aloadN X13.here hx rfl (hb hby d3_23) rfl rfl ?_
      show Steps p.tables e below (T13.setTop (mkF m 24 #[vR a0, vR a1, vI p2] [(.ref a0), (.ref b1), (.ref a1)])) _
      exact k)
    obtain ⟨T15, X15, e15, st15⟩ := getF X13 hx hZ hown (host := "") (Or.inl (hw _ (List.mem_of_getElem? (i := 19) rfl))) Via.refl e13 fw8 (g := (mkF m 24 #[vR a0, vR a1, vI p2] [(.ref a0), (.ref b1), (.ref a1)])) rfl rfl (hb hby d3_24)
    have pre15 : Go p.tables e below S0 T15 (mkF m 27 #[vR a0, vR a1, vI p2] [(.int (2 : Int32)), (.ref b1), (.ref a1)]) := fun t k => pre14 t (st15 t k)
    obtain ⟨cl16, Ar16, q16, S16, M16, H16, G16⟩ := id f9_4
    have in16 : ¬ ((2 : Int32) < 0 ∨ cl16.slots.size ≤ ((2 : Int32)).toNatClampNeg) := inb_of S16 ⟨by decide, by decide⟩
    have at16 : cl16.slots[((2 : Int32)).toNatClampNeg]? = some (.int y2) := H16.at in16 rfl
    have pre17 : Go p.tables e below S0 T15 (mkF m 29 #[vR a0, vR a1, vI p2] [(.ref a0), (.int y2), (.ref a1)]) := fun t k => pre15 t (by
      refine X15.iaload hx (j := (2 : Int32)) (v := (.int y2)) (by rw [e15]; exact Ar16.1) (State.isArrayOf_alike hZ.alike Ar16.2.1) Ar16.2.2 in16 at16 (g := (mkF m 27 #[vR a0, vR a1, vI p2] [(.int (2 : Int32)), (.ref b1), (.ref a1)])) rfl rfl (hb hby d3_27) _ ?_
      show Steps p.tables e below (T15.setTop (mkF m 28 #[vR a0, vR a1, vI p2] [(.int y2), (.ref a1)])) _
      refine XS.aloadN X15.here hx rfl (hb hby d3_28) rfl rfl ?_
      show Steps p.tables e below (T15.setTop (mkF m 29 #[vR a0, vR a1, vI p2] [(.ref a0), (.int y2), (.ref a1)])) _
      exact k)
    obtain ⟨T18, X18, e18, st18⟩ := getF X15 hx hZ hown (host := "") (Or.inl (hw _ (List.mem_of_getElem? (i := 12) rfl))) Via.refl e15 f9_3 (g := (mkF m 29 #[vR a0, vR a1, vI p2] [(.ref a0), (.int y2), (.ref a1)])) rfl rfl (hb hby d3_29)
    have pre18 : Go p.tables e below S0 T18 (mkF m 32 #[vR a0, vR a1, vI p2] [(.ref b2), (.int y2), (.ref a1)]) := fun t k => pre17 t (st18 t k)
    have pre19 : Go p.tables e below S0 T18 (mkF m 33 #[vR a0, vR a1, vI p2] [(.ref a0), (.ref b2), (.int y2), (.ref a1)]) := fun t k => pre18 t (by
      refine XS.aloadN X18.here hx rfl (hb hby d3_32) rfl rfl ?_
      show Steps p.tables e below (T18.setTop (mkF m 33 #[vR a0, vR a1, vI p2] [(.ref a0), (.ref b2), (.int y2), (.ref a1)])) _
      exact k)
    obtain ⟨T20, X20, e20, st20⟩ := getF X18 hx hZ hown (host := "") (Or.inl (hw _ (List.mem_of_getElem? (i := 19) rfl))) Via.refl e18 fw8 (g := (mkF m 33 #[vR a0, vR a1, vI p2] [(.ref a0), (.ref b2), (.int y2), (.ref a1)])) rfl rfl (hb hby d3_33)
    have pre20 : Go p.tables e below S0 T20 (mkF m 36 #[vR a0, vR a1, vI p2] [(.int (2 : Int32)), (.ref b2), (.int y2), (.ref a1)]) := fun t k => pre19 t (st20 t k)
    obtain ⟨cl21, Ar21, q21, S21, M21, H21, G21⟩ := id f9_5
    have in21 : ¬ ((2 : Int32) < 0 ∨ cl21.slots.size ≤ ((2 : Int32)).toNatClampNeg) := inb_of S21 ⟨by decide, by decide⟩
    have at21 : cl21.slots[((2 : Int32)).toNatClampNeg]? = some (.int w2) := H21.at in21 rfl
    have pre22 : Go p.tables e below S0 T20 (mkF m 37 #[vR a0, vR a1, vI p2] [(.int w2), (.int y2), (.ref a1)]) := fun t k => pre20 t (by
      refine X20.iaload hx (j := (2 : Int32)) (v := (.int w2)) (by rw [e20]; exact Ar21.1) (State.isArrayOf_alike hZ.alike Ar21.2.1) Ar21.2.2 in21 at21 (g := (mkF m 36 #[vR a0, vR a1, vI p2] [(.int (2 : Int32)), (.ref b2), (.int y2), (.ref a1)])) rfl rfl (hb hby d3_36) _ ?_
      show Steps p.tables e below (T20.setTop (mkF m 37 #[vR a0, vR a1, vI p2] [(.int w2), (.int y2), (.ref a1)])) _
      exact k)
    obtain ⟨cl23, Ar23, q23, S23, M23, H23, G23⟩ := id f9_6
    have in23 : ¬ (y2 < 0 ∨ cl23.slots.size ≤ (y2).toNatClampNeg) := inb_of S23 hy2
    obtain ⟨T23, h23, X23, e23, W23, st23⟩ := stI X20 hx hZ e20 Ar23 (j := y2) in23 (g := (mkF m 37 #[vR a0, vR a1, vI p2] [(.int w2), (.int y2), (.ref a1)])) rfl rfl (hb hby d3_37)
    have pre23 : Go p.tables e below S0 T23 (mkF m 38 #[vR a0, vR a1, vI p2] []) := fun t k => pre22 t (st23 t k)
    have N23 := Fr.snoc X23 N8 xg1
    have av23 : Arv Z h23 a1 k0 .int (4 : Int32) [(.int (own_put y2 (0 : Int32) w2 x0)), (.int (own_put y2 (1 : Int32) w2 x1)), (.int (own_put y2 (2 : Int32) w2 x2)), (.int (own_put y2 (3 : Int32) w2 x3))] (.int (0 : Int32)) := by
      have q := Arv.set Ar23 q23 S23 M23 H23 G23 rfl W23 _ rfl (own_list (w := 0) (x0 := 0) (x1 := 0) (x2 := 0) (x3 := 0) hy2).1
      rw [(own_list hy2).2] at q
      exact q
    have f24_1 := Exa.wr W23 f9_1
    have f24_2 := Fld.other W23 f9_2 (Or.inl (Ne.symm xe3))
    have f24_3 := Fld.other W23 f9_3 (Or.inl (Ne.symm xe3))
    have f24_4 := Fld.other W23 fw8 (Or.inl (Ne.symm xe3))
    have f24_5 := f9_4.other W23 xe4
    have f24_6 := f9_5.other W23 xe5
    have zz25 : n0 ≤ h23.size := Nat.le_trans zz10 (Keep.of_wr W23).1
    have kp26 : Keep h0 h23 [a0, a1] := kp11.wr W23 (Or.inl (List.mem_of_getElem? (i := 1) rfl))
    have pre27 : Go p.tables e below S0 T23 (mkF m 1 #[vR a0, vR a1, vI p2] [(.ref a0)]) := fun t k => pre23 t (by
      refine XS.goto X23.here hx rfl (pc0 := 38) (pc' := 0) rfl (hb hby d3_38) (by decide) (by decide) ?_
      show Steps p.tables e below (T23.setTop (mkF m 0 #[vR a0, vR a1, vI p2] [])) _
      refine XS.aloadN X23.here hx rfl (hb hby d3_0) rfl rfl ?_
      show Steps p.tables e below (T23.setTop (mkF m 1 #[vR a0, vR a1, vI p2] [(.ref a0)])) _
      exact k)
    obtain ⟨T28, X28, e28, st28⟩ := getF X23 hx hZ hown (host := "") (Or.inl (hw _ (List.mem_of_getElem? (i := 19) rfl))) Via.refl e23 f24_4 (g := (mkF m 1 #[vR a0, vR a1, vI p2] [(.ref a0)])) rfl rfl (hb hby d3_1)
    have pre28 : Go p.tables e below S0 T28 (mkF m 4 #[vR a0, vR a1, vI p2] [(.int (2 : Int32))]) := fun t k => pre27 t (st28 t k)
    have pre29 : Go p.tables e below S0 T28 (mkF m 5 #[vR a0, vR a1, vI p2] [(.int p2), (.int (2 : Int32))]) := fun t k => pre28 t (by
      refine XS.iloadN X28.here hx rfl (hb hby d3_4) rfl ?_
      show Steps p.tables e below (T28.setTop (mkF m 5 #[vR a0, vR a1, vI p2] [(.int p2), (.int (2 : Int32))])) _
      exact k)
    by_cases c5_30 : p2 < (2 : Int32)
    · skip
      have pre31 : Go p.tables e below S0 T28 (mkF m 10 #[vR a0, vR a1, vI p2] [(.ref a0), (.ref a0)]) := fun t k => pre29 t (by
        refine XS.icmpNo X28.here hx rfl (hb hby d3_5) rfl (tlt c5_30).2.2.2 ?_
        show Steps p.tables e below (T28.setTop (mkF m 8 #[vR a0, vR a1, vI p2] [])) _
        refine XS.aloadN X28.here hx rfl (hb hby d3_8) rfl rfl ?_
        show Steps p.tables e below (T28.setTop (mkF m 9 #[vR a0, vR a1, vI p2] [(.ref a0)])) _
        refine XS.dup X28.here hx rfl (hb hby d3_9) rfl rfl ?_
        show Steps p.tables e below (T28.setTop (mkF m 10 #[vR a0, vR a1, vI p2] [(.ref a0), (.ref a0)])) _
        exact k)
      obtain ⟨T32, X32, e32, st32⟩ := getF X28 hx hZ hown (host := "") (Or.inl (hw _ (List.mem_of_getElem? (i := 19) rfl))) Via.refl e28 f24_4 (g := (mkF m 10 #[vR a0, vR a1, vI p2] [(.ref a0), (.ref a0)])) rfl rfl (hb hby d3_10)
      have pre32 : Go p.tables e below S0 T32 (mkF m 13 #[vR a0, vR a1, vI p2] [(.int (2 : Int32)), (.ref a0)]) := fun t k => pre31 t (st32 t k)
      have pre33 : Go p.tables e below S0 T32 (mkF m 15 #[vR a0, vR a1, vI p2] [(.int (1 : Int32)), (.ref a0)]) := fun t k => pre32 t (by
        refine XS.iconst X32.here hx rfl (hb hby d3_13) ?_
        show Steps p.tables e below (T32.setTop (mkF m 14 #[vR a0, vR a1, vI p2] [(.int (1 : Int32)), (.int (2 : Int32)), (.ref a0)])) _
        refine XS.isub X32.here hx rfl (hb hby d3_14) rfl ?_
        show Steps p.tables e below (T32.setTop (mkF m 15 #[vR a0, vR a1, vI p2] [(.int (1 : Int32)), (.ref a0)])) _
        exact k)
      obtain ⟨T34, h34, X34, e34, W34, st34⟩ := putF X32 hx hZ hown (host := "") (Or.inl (hw _ (List.mem_of_getElem? (i := 19) rfl))) Via.refl e32 f24_4 f24_1 (Or.inl (hw _ (List.mem_of_getElem? (i := 20) rfl))) (hw _ (List.mem_of_getElem? (i := 2) rfl)) (ty := .int) (by decide) rfl rfl (g := (mkF m 15 #[vR a0, vR a1, vI p2] [(.int (1 : Int32)), (.ref a0)])) rfl rfl (hb hby d3_15)
      have pre34 : Go p.tables e below S0 T34 (mkF m 18 #[vR a0, vR a1, vI p2] []) := fun t k => pre33 t (st34 t k)
      have N34 := Fr.snoc X34 N23 g0
      have fw34 : Fld Z h34 a0 "com/example/motiflow/motiflow/UndoLog" "size" "I" (.int (1 : Int32)) := Fld.same W34 f24_4
      have f35_1 := Exa.wr W34 f24_1
      have f35_2 := Fld.other W34 f24_2 (Or.inr (slot_ne (Or.inl (hw _ (List.mem_of_getElem? (i := 11) rfl))) (Or.inl (hw _ (List.mem_of_getElem? (i := 20) rfl))) (by decide) (t := (.array .int)) (t' := .int) (by decide) (by decide)))
      have f35_3 := Fld.other W34 f24_3 (Or.inr (slot_ne (Or.inl (hw _ (List.mem_of_getElem? (i := 13) rfl))) (Or.inl (hw _ (List.mem_of_getElem? (i := 20) rfl))) (by decide) (t := (.array .int)) (t' := .int) (by decide) (by decide)))
      have f35_4 := f24_5.other W34 xe1
      have f35_5 := f24_6.other W34 xe2
      have f35_6 := av23.other W34 xe3
      have zz36 : n0 ≤ h34.size := Nat.le_trans zz25 (Keep.of_wr W34).1
      have kp37 : Keep h0 h34 [a0, a1] := kp26.wr W34 (Or.inl (List.mem_of_getElem? (i := 0) rfl))
      have pre38 : Go p.tables e below S0 T34 (mkF m 20 #[vR a0, vR a1, vI p2] [(.ref a0), (.ref a1)]) := fun t k => pre34 t (by
        refine XS.aloadN X34.here hx rfl (hb hby d3_18) rfl rfl ?_
        show Steps p.tables e below (T34.setTop (mkF m 19 #[vR a0, vR a1, vI p2] [(.ref a1)])) _
        refine XS.aloadN X34.here hx rfl (hb hby d3_19) rfl rfl ?_
        show Steps p.tables e below (T34.setTop (mkF m 20 #[vR a0, vR a1, vI p2] [(.ref a0), (.ref a1)])) _
        exact k)
      obtain ⟨T39, X39, e39, st39⟩ := getF X34 hx hZ hown (host := "") (Or.inl (hw _ (List.mem_of_getElem? (i := 10) rfl))) Via.refl e34 f35_2 (g := (mkF m 20 #[vR a0, vR a1, vI p2] [(.ref a0), (.ref a1)])) rfl rfl (hb hby d3_20)
      have pre39 : Go p.tables e below S0 T39 (mkF m 23 #[vR a0, vR a1, vI p2] [(.ref b1), (.ref a1)]) := fun t k => pre38 t (st39 t k)
      have pre40 : Go p.tables e below S0 T39 (mkF m 24 #[vR a0, vR a1, vI p2] [(.ref a0), (.ref b1), (.ref a1)]) := fun t k => pre39 t (by
        refine XS.aloadN X39.here hx rfl (hb hby d3_23) rfl rfl ?_
        show Steps p.tables e below (T39.setTop (mkF m 24 #[vR a0, vR a1, vI p2] [(.ref a0), (.ref b1), (.ref a1)])) _
        exact k)
      obtain ⟨T41, X41, e41, st41⟩ := getF X39 hx hZ hown (host := "") (Or.inl (hw _ (List.mem_of_getElem? (i := 19) rfl))) Via.refl e39 fw34 (g := (mkF m 24 #[vR a0, vR a1, vI p2] [(.ref a0), (.ref b1), (.ref a1)])) rfl rfl (hb hby d3_24)
      have pre41 : Go p.tables e below S0 T41 (mkF m 27 #[vR a0, vR a1, vI p2] [(.int (1 : Int32)), (.ref b1), (.ref a1)]) := fun t k => pre40 t (st41 t k)
      obtain ⟨cl42, Ar42, q42, S42, M42, H42, G42⟩ := id f35_4
      have in42 : ¬ ((1 : Int32) < 0 ∨ cl42.slots.size ≤ ((1 : Int32)).toNatClampNeg) := inb_of S42 ⟨by decide, by decide⟩
      have at42 : cl42.slots[((1 : Int32)).toNatClampNeg]? = some (.int y1) := H42.at in42 rfl
      have pre43 : Go p.tables e below S0 T41 (mkF m 29 #[vR a0, vR a1, vI p2] [(.ref a0), (.int y1), (.ref a1)]) := fun t k => pre41 t (by
        refine X41.iaload hx (j := (1 : Int32)) (v := (.int y1)) (by rw [e41]; exact Ar42.1) (State.isArrayOf_alike hZ.alike Ar42.2.1) Ar42.2.2 in42 at42 (g := (mkF m 27 #[vR a0, vR a1, vI p2] [(.int (1 : Int32)), (.ref b1), (.ref a1)])) rfl rfl (hb hby d3_27) _ ?_
        show Steps p.tables e below (T41.setTop (mkF m 28 #[vR a0, vR a1, vI p2] [(.int y1), (.ref a1)])) _
        refine XS.aloadN X41.here hx rfl (hb hby d3_28) rfl rfl ?_
        show Steps p.tables e below (T41.setTop (mkF m 29 #[vR a0, vR a1, vI p2] [(.ref a0), (.int y1), (.ref a1)])) _
        exact k)
      obtain ⟨T44, X44, e44, st44⟩ := getF X41 hx hZ hown (host := "") (Or.inl (hw _ (List.mem_of_getElem? (i := 12) rfl))) Via.refl e41 f35_3 (g := (mkF m 29 #[vR a0, vR a1, vI p2] [(.ref a0), (.int y1), (.ref a1)])) rfl rfl (hb hby d3_29)
      have pre44 : Go p.tables e below S0 T44 (mkF m 32 #[vR a0, vR a1, vI p2] [(.ref b2), (.int y1), (.ref a1)]) := fun t k => pre43 t (st44 t k)
      have pre45 : Go p.tables e below S0 T44 (mkF m 33 #[vR a0, vR a1, vI p2] [(.ref a0), (.ref b2), (.int y1), (.ref a1)]) := fun t k => pre44 t (by
        refine XS.aloadN X44.here hx rfl (hb hby d3_32) rfl rfl ?_
        show Steps p.tables e below (T44.setTop (mkF m 33 #[vR a0, vR a1, vI p2] [(.ref a0), (.ref b2), (.int y1), (.ref a1)])) _
        exact k)
      obtain ⟨T46, X46, e46, st46⟩ := getF X44 hx hZ hown (host := "") (Or.inl (hw _ (List.mem_of_getElem? (i := 19) rfl))) Via.refl e44 fw34 (g := (mkF m 33 #[vR a0, vR a1, vI p2] [(.ref a0), (.ref b2), (.int y1), (.ref a1)])) rfl rfl (hb hby d3_33)
      have pre46 : Go p.tables e below S0 T46 (mkF m 36 #[vR a0, vR a1, vI p2] [(.int (1 : Int32)), (.ref b2), (.int y1), (.ref a1)]) := fun t k => pre45 t (st46 t k)
      obtain ⟨cl47, Ar47, q47, S47, M47, H47, G47⟩ := id f35_5
      have in47 : ¬ ((1 : Int32) < 0 ∨ cl47.slots.size ≤ ((1 : Int32)).toNatClampNeg) := inb_of S47 ⟨by decide, by decide⟩
      have at47 : cl47.slots[((1 : Int32)).toNatClampNeg]? = some (.int w1) := H47.at in47 rfl
      have pre48 : Go p.tables e below S0 T46 (mkF m 37 #[vR a0, vR a1, vI p2] [(.int w1), (.int y1), (.ref a1)]) := fun t k => pre46 t (by
        refine X46.iaload hx (j := (1 : Int32)) (v := (.int w1)) (by rw [e46]; exact Ar47.1) (State.isArrayOf_alike hZ.alike Ar47.2.1) Ar47.2.2 in47 at47 (g := (mkF m 36 #[vR a0, vR a1, vI p2] [(.int (1 : Int32)), (.ref b2), (.int y1), (.ref a1)])) rfl rfl (hb hby d3_36) _ ?_
        show Steps p.tables e below (T46.setTop (mkF m 37 #[vR a0, vR a1, vI p2] [(.int w1), (.int y1), (.ref a1)])) _
        exact k)
      obtain ⟨cl49, Ar49, q49, S49, M49, H49, G49⟩ := id f35_6
      have in49 : ¬ (y1 < 0 ∨ cl49.slots.size ≤ (y1).toNatClampNeg) := inb_of S49 hy1
      obtain ⟨T49, h49, X49, e49, W49, st49⟩ := stI X46 hx hZ e46 Ar49 (j := y1) in49 (g := (mkF m 37 #[vR a0, vR a1, vI p2] [(.int w1), (.int y1), (.ref a1)])) rfl rfl (hb hby d3_37)
      have pre49 : Go p.tables e below S0 T49 (mkF m 38 #[vR a0, vR a1, vI p2] []) := fun t k => pre48 t (st49 t k)
      have N49 := Fr.snoc X49 N34 xg1
      have av49 : Arv Z h49 a1 k0 .int (4 : Int32) [(.int (own_put y1 (0 : Int32) w1 (own_put y2 (0 : Int32) w2 x0))), (.int (own_put y1 (1 : Int32) w1 (own_put y2 (1 : Int32) w2 x1))), (.int (own_put y1 (2 : Int32) w1 (own_put y2 (2 : Int32) w2 x2))), (.int (own_put y1 (3 : Int32) w1 (own_put y2 (3 : Int32) w2 x3)))] (.int (0 : Int32)) := by
        have q := Arv.set Ar49 q49 S49 M49 H49 G49 rfl W49 _ rfl (own_list (w := 0) (x0 := 0) (x1 := 0) (x2 := 0) (x3 := 0) hy1).1
        rw [(own_list hy1).2] at q
        exact q
      have f50_1 := Exa.wr W49 f35_1
      have f50_2 := Fld.other W49 f35_2 (Or.inl (Ne.symm xe3))
      have f50_3 := Fld.other W49 f35_3 (Or.inl (Ne.symm xe3))
      have f50_4 := Fld.other W49 fw34 (Or.inl (Ne.symm xe3))
      have f50_5 := f35_4.other W49 xe4
      have f50_6 := f35_5.other W49 xe5
      have zz51 : n0 ≤ h49.size := Nat.le_trans zz36 (Keep.of_wr W49).1
      have kp52 : Keep h0 h49 [a0, a1] := kp37.wr W49 (Or.inl (List.mem_of_getElem? (i := 1) rfl))
      have pre53 : Go p.tables e below S0 T49 (mkF m 1 #[vR a0, vR a1, vI p2] [(.ref a0)]) := fun t k => pre49 t (by
        refine XS.goto X49.here hx rfl (pc0 := 38) (pc' := 0) rfl (hb hby d3_38) (by decide) (by decide) ?_
        show Steps p.tables e below (T49.setTop (mkF m 0 #[vR a0, vR a1, vI p2] [])) _
        refine XS.aloadN X49.here hx rfl (hb hby d3_0) rfl rfl ?_
        show Steps p.tables e below (T49.setTop (mkF m 1 #[vR a0, vR a1, vI p2] [(.ref a0)])) _
        exact k)
      obtain ⟨T54, X54, e54, st54⟩ := getF X49 hx hZ hown (host := "") (Or.inl (hw _ (List.mem_of_getElem? (i := 19) rfl))) Via.refl e49 f50_4 (g := (mkF m 1 #[vR a0, vR a1, vI p2] [(.ref a0)])) rfl rfl (hb hby d3_1)
      have pre54 : Go p.tables e below S0 T54 (mkF m 4 #[vR a0, vR a1, vI p2] [(.int (1 : Int32))]) := fun t k => pre53 t (st54 t k)
      have pre55 : Go p.tables e below S0 T54 (mkF m 5 #[vR a0, vR a1, vI p2] [(.int p2), (.int (1 : Int32))]) := fun t k => pre54 t (by
        refine XS.iloadN X54.here hx rfl (hb hby d3_4) rfl ?_
        show Steps p.tables e below (T54.setTop (mkF m 5 #[vR a0, vR a1, vI p2] [(.int p2), (.int (1 : Int32))])) _
        exact k)
      by_cases c5_56 : p2 < (1 : Int32)
      · skip
        have pre57 : Go p.tables e below S0 T54 (mkF m 10 #[vR a0, vR a1, vI p2] [(.ref a0), (.ref a0)]) := fun t k => pre55 t (by
          refine XS.icmpNo X54.here hx rfl (hb hby d3_5) rfl (tlt c5_56).2.2.2 ?_
          show Steps p.tables e below (T54.setTop (mkF m 8 #[vR a0, vR a1, vI p2] [])) _
          refine XS.aloadN X54.here hx rfl (hb hby d3_8) rfl rfl ?_
          show Steps p.tables e below (T54.setTop (mkF m 9 #[vR a0, vR a1, vI p2] [(.ref a0)])) _
          refine XS.dup X54.here hx rfl (hb hby d3_9) rfl rfl ?_
          show Steps p.tables e below (T54.setTop (mkF m 10 #[vR a0, vR a1, vI p2] [(.ref a0), (.ref a0)])) _
          exact k)
        obtain ⟨T58, X58, e58, st58⟩ := getF X54 hx hZ hown (host := "") (Or.inl (hw _ (List.mem_of_getElem? (i := 19) rfl))) Via.refl e54 f50_4 (g := (mkF m 10 #[vR a0, vR a1, vI p2] [(.ref a0), (.ref a0)])) rfl rfl (hb hby d3_10)
        have pre58 : Go p.tables e below S0 T58 (mkF m 13 #[vR a0, vR a1, vI p2] [(.int (1 : Int32)), (.ref a0)]) := fun t k => pre57 t (st58 t k)
        have pre59 : Go p.tables e below S0 T58 (mkF m 15 #[vR a0, vR a1, vI p2] [(.int (0 : Int32)), (.ref a0)]) := fun t k => pre58 t (by
          refine XS.iconst X58.here hx rfl (hb hby d3_13) ?_
          show Steps p.tables e below (T58.setTop (mkF m 14 #[vR a0, vR a1, vI p2] [(.int (1 : Int32)), (.int (1 : Int32)), (.ref a0)])) _
          refine XS.isub X58.here hx rfl (hb hby d3_14) rfl ?_
          show Steps p.tables e below (T58.setTop (mkF m 15 #[vR a0, vR a1, vI p2] [(.int (0 : Int32)), (.ref a0)])) _
          exact k)
        obtain ⟨T60, h60, X60, e60, W60, st60⟩ := putF X58 hx hZ hown (host := "") (Or.inl (hw _ (List.mem_of_getElem? (i := 19) rfl))) Via.refl e58 f50_4 f50_1 (Or.inl (hw _ (List.mem_of_getElem? (i := 20) rfl))) (hw _ (List.mem_of_getElem? (i := 2) rfl)) (ty := .int) (by decide) rfl rfl (g := (mkF m 15 #[vR a0, vR a1, vI p2] [(.int (0 : Int32)), (.ref a0)])) rfl rfl (hb hby d3_15)
        have pre60 : Go p.tables e below S0 T60 (mkF m 18 #[vR a0, vR a1, vI p2] []) := fun t k => pre59 t (st60 t k)
        have N60 := Fr.snoc X60 N49 g0
        have fw60 : Fld Z h60 a0 "com/example/motiflow/motiflow/UndoLog" "size" "I" (.int (0 : Int32)) := Fld.same W60 f50_4
        have f61_1 := Exa.wr W60 f50_1
        have f61_2 := Fld.other W60 f50_2 (Or.inr (slot_ne (Or.inl (hw _ (List.mem_of_getElem? (i := 11) rfl))) (Or.inl (hw _ (List.mem_of_getElem? (i := 20) rfl))) (by decide) (t := (.array .int)) (t' := .int) (by decide) (by decide)))
        have f61_3 := Fld.other W60 f50_3 (Or.inr (slot_ne (Or.inl (hw _ (List.mem_of_getElem? (i := 13) rfl))) (Or.inl (hw _ (List.mem_of_getElem? (i := 20) rfl))) (by decide) (t := (.array .int)) (t' := .int) (by decide) (by decide)))
        have f61_4 := f50_5.other W60 xe1
        have f61_5 := f50_6.other W60 xe2
        have f61_6 := av49.other W60 xe3
        have zz62 : n0 ≤ h60.size := Nat.le_trans zz51 (Keep.of_wr W60).1
        have kp63 : Keep h0 h60 [a0, a1] := kp52.wr W60 (Or.inl (List.mem_of_getElem? (i := 0) rfl))
        have pre64 : Go p.tables e below S0 T60 (mkF m 20 #[vR a0, vR a1, vI p2] [(.ref a0), (.ref a1)]) := fun t k => pre60 t (by
          refine XS.aloadN X60.here hx rfl (hb hby d3_18) rfl rfl ?_
          show Steps p.tables e below (T60.setTop (mkF m 19 #[vR a0, vR a1, vI p2] [(.ref a1)])) _
          refine XS.aloadN X60.here hx rfl (hb hby d3_19) rfl rfl ?_
          show Steps p.tables e below (T60.setTop (mkF m 20 #[vR a0, vR a1, vI p2] [(.ref a0), (.ref a1)])) _
          exact k)
        obtain ⟨T65, X65, e65, st65⟩ := getF X60 hx hZ hown (host := "") (Or.inl (hw _ (List.mem_of_getElem? (i := 10) rfl))) Via.refl e60 f61_2 (g := (mkF m 20 #[vR a0, vR a1, vI p2] [(.ref a0), (.ref a1)])) rfl rfl (hb hby d3_20)
        have pre65 : Go p.tables e below S0 T65 (mkF m 23 #[vR a0, vR a1, vI p2] [(.ref b1), (.ref a1)]) := fun t k => pre64 t (st65 t k)
        have pre66 : Go p.tables e below S0 T65 (mkF m 24 #[vR a0, vR a1, vI p2] [(.ref a0), (.ref b1), (.ref a1)]) := fun t k => pre65 t (by
          refine XS.aloadN X65.here hx rfl (hb hby d3_23) rfl rfl ?_
          show Steps p.tables e below (T65.setTop (mkF m 24 #[vR a0, vR a1, vI p2] [(.ref a0), (.ref b1), (.ref a1)])) _
          exact k)
        obtain ⟨T67, X67, e67, st67⟩ := getF X65 hx hZ hown (host := "") (Or.inl (hw _ (List.mem_of_getElem? (i := 19) rfl))) Via.refl e65 fw60 (g := (mkF m 24 #[vR a0, vR a1, vI p2] [(.ref a0), (.ref b1), (.ref a1)])) rfl rfl (hb hby d3_24)
        have pre67 : Go p.tables e below S0 T67 (mkF m 27 #[vR a0, vR a1, vI p2] [(.int (0 : Int32)), (.ref b1), (.ref a1)]) := fun t k => pre66 t (st67 t k)
        obtain ⟨cl68, Ar68, q68, S68, M68, H68, G68⟩ := id f61_4
        have in68 : ¬ ((0 : Int32) < 0 ∨ cl68.slots.size ≤ ((0 : Int32)).toNatClampNeg) := inb_of S68 ⟨by decide, by decide⟩
        have at68 : cl68.slots[((0 : Int32)).toNatClampNeg]? = some (.int y0) := H68.at in68 rfl
        have pre69 : Go p.tables e below S0 T67 (mkF m 29 #[vR a0, vR a1, vI p2] [(.ref a0), (.int y0), (.ref a1)]) := fun t k => pre67 t (by
          refine X67.iaload hx (j := (0 : Int32)) (v := (.int y0)) (by rw [e67]; exact Ar68.1) (State.isArrayOf_alike hZ.alike Ar68.2.1) Ar68.2.2 in68 at68 (g := (mkF m 27 #[vR a0, vR a1, vI p2] [(.int (0 : Int32)), (.ref b1), (.ref a1)])) rfl rfl (hb hby d3_27) _ ?_
          show Steps p.tables e below (T67.setTop (mkF m 28 #[vR a0, vR a1, vI p2] [(.int y0), (.ref a1)])) _
          refine XS.aloadN X67.here hx rfl (hb hby d3_28) rfl rfl ?_
          show Steps p.tables e below (T67.setTop (mkF m 29 #[vR a0, vR a1, vI p2] [(.ref a0), (.int y0), (.ref a1)])) _
          exact k)
        obtain ⟨T70, X70, e70, st70⟩ := getF X67 hx hZ hown (host := "") (Or.inl (hw _ (List.mem_of_getElem? (i := 12) rfl))) Via.refl e67 f61_3 (g := (mkF m 29 #[vR a0, vR a1, vI p2] [(.ref a0), (.int y0), (.ref a1)])) rfl rfl (hb hby d3_29)
        have pre70 : Go p.tables e below S0 T70 (mkF m 32 #[vR a0, vR a1, vI p2] [(.ref b2), (.int y0), (.ref a1)]) := fun t k => pre69 t (st70 t k)
        have pre71 : Go p.tables e below S0 T70 (mkF m 33 #[vR a0, vR a1, vI p2] [(.ref a0), (.ref b2), (.int y0), (.ref a1)]) := fun t k => pre70 t (by
          refine XS.aloadN X70.here hx rfl (hb hby d3_32) rfl rfl ?_
          show Steps p.tables e below (T70.setTop (mkF m 33 #[vR a0, vR a1, vI p2] [(.ref a0), (.ref b2), (.int y0), (.ref a1)])) _
          exact k)
        obtain ⟨T72, X72, e72, st72⟩ := getF X70 hx hZ hown (host := "") (Or.inl (hw _ (List.mem_of_getElem? (i := 19) rfl))) Via.refl e70 fw60 (g := (mkF m 33 #[vR a0, vR a1, vI p2] [(.ref a0), (.ref b2), (.int y0), (.ref a1)])) rfl rfl (hb hby d3_33)
        have pre72 : Go p.tables e below S0 T72 (mkF m 36 #[vR a0, vR a1, vI p2] [(.int (0 : Int32)), (.ref b2), (.int y0), (.ref a1)]) := fun t k => pre71 t (st72 t k)
        obtain ⟨cl73, Ar73, q73, S73, M73, H73, G73⟩ := id f61_5
        have in73 : ¬ ((0 : Int32) < 0 ∨ cl73.slots.size ≤ ((0 : Int32)).toNatClampNeg) := inb_of S73 ⟨by decide, by decide⟩
        have at73 : cl73.slots[((0 : Int32)).toNatClampNeg]? = some (.int w0) := H73.at in73 rfl
        have pre74 : Go p.tables e below S0 T72 (mkF m 37 #[vR a0, vR a1, vI p2] [(.int w0), (.int y0), (.ref a1)]) := fun t k => pre72 t (by
          refine X72.iaload hx (j := (0 : Int32)) (v := (.int w0)) (by rw [e72]; exact Ar73.1) (State.isArrayOf_alike hZ.alike Ar73.2.1) Ar73.2.2 in73 at73 (g := (mkF m 36 #[vR a0, vR a1, vI p2] [(.int (0 : Int32)), (.ref b2), (.int y0), (.ref a1)])) rfl rfl (hb hby d3_36) _ ?_
          show Steps p.tables e below (T72.setTop (mkF m 37 #[vR a0, vR a1, vI p2] [(.int w0), (.int y0), (.ref a1)])) _
          exact k)
        obtain ⟨cl75, Ar75, q75, S75, M75, H75, G75⟩ := id f61_6
        have in75 : ¬ (y0 < 0 ∨ cl75.slots.size ≤ (y0).toNatClampNeg) := inb_of S75 hy0
        obtain ⟨T75, h75, X75, e75, W75, st75⟩ := stI X72 hx hZ e72 Ar75 (j := y0) in75 (g := (mkF m 37 #[vR a0, vR a1, vI p2] [(.int w0), (.int y0), (.ref a1)])) rfl rfl (hb hby d3_37)
        have pre75 : Go p.tables e below S0 T75 (mkF m 38 #[vR a0, vR a1, vI p2] []) := fun t k => pre74 t (st75 t k)
        have N75 := Fr.snoc X75 N60 xg1
        have av75 : Arv Z h75 a1 k0 .int (4 : Int32) [(.int (own_put y0 (0 : Int32) w0 (own_put y1 (0 : Int32) w1 (own_put y2 (0 : Int32) w2 x0)))), (.int (own_put y0 (1 : Int32) w0 (own_put y1 (1 : Int32) w1 (own_put y2 (1 : Int32) w2 x1)))), (.int (own_put y0 (2 : Int32) w0 (own_put y1 (2 : Int32) w1 (own_put y2 (2 : Int32) w2 x2)))), (.int (own_put y0 (3 : Int32) w0 (own_put y1 (3 : Int32) w1 (own_put y2 (3 : Int32) w2 x3))))] (.int (0 : Int32)) := by
          have q := Arv.set Ar75 q75 S75 M75 H75 G75 rfl W75 _ rfl (own_list (w := 0) (x0 := 0) (x1 := 0) (x2 := 0) (x3 := 0) hy0).1
          rw [(own_list hy0).2] at q
          exact q
        have f76_1 := Exa.wr W75 f61_1
        have f76_2 := Fld.other W75 f61_2 (Or.inl (Ne.symm xe3))
        have f76_3 := Fld.other W75 f61_3 (Or.inl (Ne.symm xe3))
        have f76_4 := Fld.other W75 fw60 (Or.inl (Ne.symm xe3))
        have f76_5 := f61_4.other W75 xe4
        have f76_6 := f61_5.other W75 xe5
        have zz77 : n0 ≤ h75.size := Nat.le_trans zz62 (Keep.of_wr W75).1
        have kp78 : Keep h0 h75 [a0, a1] := kp63.wr W75 (Or.inl (List.mem_of_getElem? (i := 1) rfl))
        have pre79 : Go p.tables e below S0 T75 (mkF m 1 #[vR a0, vR a1, vI p2] [(.ref a0)]) := fun t k => pre75 t (by
          refine XS.goto X75.here hx rfl (pc0 := 38) (pc' := 0) rfl (hb hby d3_38) (by decide) (by decide) ?_
          show Steps p.tables e below (T75.setTop (mkF m 0 #[vR a0, vR a1, vI p2] [])) _
          refine XS.aloadN X75.here hx rfl (hb hby d3_0) rfl rfl ?_
          show Steps p.tables e below (T75.setTop (mkF m 1 #[vR a0, vR a1, vI p2] [(.ref a0)])) _
          exact k)
        obtain ⟨T80, X80, e80, st80⟩ := getF X75 hx hZ hown (host := "") (Or.inl (hw _ (List.mem_of_getElem? (i := 19) rfl))) Via.refl e75 f76_4 (g := (mkF m 1 #[vR a0, vR a1, vI p2] [(.ref a0)])) rfl rfl (hb hby d3_1)
        have pre80 : Go p.tables e below S0 T80 (mkF m 4 #[vR a0, vR a1, vI p2] [(.int (0 : Int32))]) := fun t k => pre79 t (st80 t k)
        have pre81 : Go p.tables e below S0 T80 (mkF m 5 #[vR a0, vR a1, vI p2] [(.int p2), (.int (0 : Int32))]) := fun t k => pre80 t (by
          refine XS.iloadN X80.here hx rfl (hb hby d3_4) rfl ?_
          show Steps p.tables e below (T80.setTop (mkF m 5 #[vR a0, vR a1, vI p2] [(.int p2), (.int (0 : Int32))])) _
          exact k)
        have cc82 : ¬ (p2 < (0 : Int32)) := by rw [Int32.lt_iff_toInt_lt]; exact Int.not_lt.mpr hm
        have pre83 : Go p.tables e below S0 T80 (mkF m 41 #[vR a0, vR a1, vI p2] []) := fun t k => pre81 t (by
          refine XS.icmpYes X80.here hx rfl (pc0 := 5) (pc' := 41) rfl (hb hby d3_5) rfl (flt cc82).2.2.2 (by decide) (by decide) ?_
          show Steps p.tables e below (T80.setTop (mkF m 41 #[vR a0, vR a1, vI p2] [])) _
          exact k)
        obtain ⟨fs, hr, hrun, hended, hW, hsame⟩ := X80.leave (v := none) (fun _ => rfl)
        exact ⟨_, _, pre83.fin hS0 (X80.returnOut hx Bd.returns (hb hby d3_41) hr), hrun, hended, _, _, rfl, (by
          show Q3_3 Z a0 a1 p2 b1 b2 k1 k2 k0 x0 x1 x2 x3 y0 w0 y1 w1 y2 w2 h0 n0 _ T80.heap _
          rw [e80]
          simp only [Int32.lt_iff_toInt_lt, Int32.reduceToInt] at c5_4 c5_30 c5_56
          have m0 : ¬ ((0 : Int32) < p2) := by simp only [Int32.lt_iff_toInt_lt, Int32.reduceToInt]; omega
          have m1 : ¬ ((1 : Int32) < p2) := by simp only [Int32.lt_iff_toInt_lt, Int32.reduceToInt]; omega
          have m2 : ¬ ((2 : Int32) < p2) := by simp only [Int32.lt_iff_toInt_lt, Int32.reduceToInt]; omega
          have l0 : own_min (3 : Int32) p2 = (0 : Int32) := by
            unfold own_min
            have z : p2 < (3 : Int32) := by simp only [Int32.lt_iff_toInt_lt, Int32.reduceToInt]; omega
            first | (rw [if_neg z]; done) | (rw [if_pos z]; apply Int32.toInt_inj.mp; simp only [Int32.reduceToInt]; omega)
          have r0 : own_expect (0 : Int32) x0 (3 : Int32) p2 y0 w0 y1 w1 y2 w2 = (own_put y0 (0 : Int32) w0 (own_put y1 (0 : Int32) w1 (own_put y2 (0 : Int32) w2 x0))) := by simp [own_expect, own_expect_18, own_expect_37, own_put, m0, m1, m2]
          have r1 : own_expect (1 : Int32) x1 (3 : Int32) p2 y0 w0 y1 w1 y2 w2 = (own_put y0 (1 : Int32) w0 (own_put y1 (1 : Int32) w1 (own_put y2 (1 : Int32) w2 x1))) := by simp [own_expect, own_expect_18, own_expect_37, own_put, m0, m1, m2]
          have r2 : own_expect (2 : Int32) x2 (3 : Int32) p2 y0 w0 y1 w1 y2 w2 = (own_put y0 (2 : Int32) w0 (own_put y1 (2 : Int32) w1 (own_put y2 (2 : Int32) w2 x2))) := by simp [own_expect, own_expect_18, own_expect_37, own_put, m0, m1, m2]
          have r3 : own_expect (3 : Int32) x3 (3 : Int32) p2 y0 w0 y1 w1 y2 w2 = (own_put y0 (3 : Int32) w0 (own_put y1 (3 : Int32) w1 (own_put y2 (3 : Int32) w2 x3))) := by simp [own_expect, own_expect_18, own_expect_37, own_put, m0, m1, m2]
          rw [show Q3_3 Z a0 a1 p2 b1 b2 k1 k2 k0 x0 x1 x2 x3 y0 w0 y1 w1 y2 w2 h0 n0 = Q3_3 Z a0 a1 p2 b1 b2 k1 k2 k0 x0 x1 x2 x3 y0 w0 y1 w1 y2 w2 h0 n0 from rfl]
          unfold Q3_3
          rw [l0, r0, r1, r2, r3]
          exact ⟨rfl, N75, kp78, f76_1, f76_2, f76_3, f76_4, av75⟩), ⟨_, rfl⟩, hW, hsame.mono (by decide) (by decide)⟩
      · skip
        have pre84 : Go p.tables e below S0 T54 (mkF m 41 #[vR a0, vR a1, vI p2] []) := fun t k => pre55 t (by
          refine XS.icmpYes X54.here hx rfl (pc0 := 5) (pc' := 41) rfl (hb hby d3_5) rfl (flt c5_56).2.2.2 (by decide) (by decide) ?_
          show Steps p.tables e below (T54.setTop (mkF m 41 #[vR a0, vR a1, vI p2] [])) _
          exact k)
        obtain ⟨fs, hr, hrun, hended, hW, hsame⟩ := X54.leave (v := none) (fun _ => rfl)
        exact ⟨_, _, pre84.fin hS0 (X54.returnOut hx Bd.returns (hb hby d3_41) hr), hrun, hended, _, _, rfl, (by
          show Q3_3 Z a0 a1 p2 b1 b2 k1 k2 k0 x0 x1 x2 x3 y0 w0 y1 w1 y2 w2 h0 n0 _ T54.heap _
          rw [e54]
          simp only [Int32.lt_iff_toInt_lt, Int32.reduceToInt] at c5_4 c5_30 c5_56
          have m0 : (0 : Int32) < p2 := by simp only [Int32.lt_iff_toInt_lt, Int32.reduceToInt]; omega
          have m1 : ¬ ((1 : Int32) < p2) := by simp only [Int32.lt_iff_toInt_lt, Int32.reduceToInt]; omega
          have m2 : ¬ ((2 : Int32) < p2) := by simp only [Int32.lt_iff_toInt_lt, Int32.reduceToInt]; omega
          have l0 : own_min (3 : Int32) p2 = (1 : Int32) := by
            unfold own_min
            have z : p2 < (3 : Int32) := by simp only [Int32.lt_iff_toInt_lt, Int32.reduceToInt]; omega
            first | (rw [if_neg z]; done) | (rw [if_pos z]; apply Int32.toInt_inj.mp; simp only [Int32.reduceToInt]; omega)
          have r0 : own_expect (0 : Int32) x0 (3 : Int32) p2 y0 w0 y1 w1 y2 w2 = (own_put y1 (0 : Int32) w1 (own_put y2 (0 : Int32) w2 x0)) := by simp [own_expect, own_expect_18, own_expect_37, own_put, m0, m1, m2]
          have r1 : own_expect (1 : Int32) x1 (3 : Int32) p2 y0 w0 y1 w1 y2 w2 = (own_put y1 (1 : Int32) w1 (own_put y2 (1 : Int32) w2 x1)) := by simp [own_expect, own_expect_18, own_expect_37, own_put, m0, m1, m2]
          have r2 : own_expect (2 : Int32) x2 (3 : Int32) p2 y0 w0 y1 w1 y2 w2 = (own_put y1 (2 : Int32) w1 (own_put y2 (2 : Int32) w2 x2)) := by simp [own_expect, own_expect_18, own_expect_37, own_put, m0, m1, m2]
          have r3 : own_expect (3 : Int32) x3 (3 : Int32) p2 y0 w0 y1 w1 y2 w2 = (own_put y1 (3 : Int32) w1 (own_put y2 (3 : Int32) w2 x3)) := by simp [own_expect, own_expect_18, own_expect_37, own_put, m0, m1, m2]
          rw [show Q3_3 Z a0 a1 p2 b1 b2 k1 k2 k0 x0 x1 x2 x3 y0 w0 y1 w1 y2 w2 h0 n0 = Q3_3 Z a0 a1 p2 b1 b2 k1 k2 k0 x0 x1 x2 x3 y0 w0 y1 w1 y2 w2 h0 n0 from rfl]
          unfold Q3_3
          rw [l0, r0, r1, r2, r3]
          exact ⟨rfl, N49, kp52, f50_1, f50_2, f50_3, f50_4, av49⟩), ⟨_, rfl⟩, hW, hsame.mono (by decide) (by decide)⟩
    · skip
      have pre85 : Go p.tables e below S0 T28 (mkF m 41 #[vR a0, vR a1, vI p2] []) := fun t k => pre29 t (by
        refine XS.icmpYes X28.here hx rfl (pc0 := 5) (pc' := 41) rfl (hb hby d3_5) rfl (flt c5_30).2.2.2 (by decide) (by decide) ?_
        show Steps p.tables e below (T28.setTop (mkF m 41 #[vR a0, vR a1, vI p2] [])) _
        exact k)
      obtain ⟨fs, hr, hrun, hended, hW, hsame⟩ := X28.leave (v := none) (fun _ => rfl)
      exact ⟨_, _, pre85.fin hS0 (X28.returnOut hx Bd.returns (hb hby d3_41) hr), hrun, hended, _, _, rfl, (by
        show Q3_3 Z a0 a1 p2 b1 b2 k1 k2 k0 x0 x1 x2 x3 y0 w0 y1 w1 y2 w2 h0 n0 _ T28.heap _
        rw [e28]
        simp only [Int32.lt_iff_toInt_lt, Int32.reduceToInt] at c5_4 c5_30
        have m0 : (0 : Int32) < p2 := by simp only [Int32.lt_iff_toInt_lt, Int32.reduceToInt]; omega
        have m1 : (1 : Int32) < p2 := by simp only [Int32.lt_iff_toInt_lt, Int32.reduceToInt]; omega
        have m2 : ¬ ((2 : Int32) < p2) := by simp only [Int32.lt_iff_toInt_lt, Int32.reduceToInt]; omega
        have l0 : own_min (3 : Int32) p2 = (2 : Int32) := by
          unfold own_min
          have z : p2 < (3 : Int32) := by simp only [Int32.lt_iff_toInt_lt, Int32.reduceToInt]; omega
          first | (rw [if_neg z]; done) | (rw [if_pos z]; apply Int32.toInt_inj.mp; simp only [Int32.reduceToInt]; omega)
        have r0 : own_expect (0 : Int32) x0 (3 : Int32) p2 y0 w0 y1 w1 y2 w2 = (own_put y2 (0 : Int32) w2 x0) := by simp [own_expect, own_expect_18, own_expect_37, own_put, m0, m1, m2]
        have r1 : own_expect (1 : Int32) x1 (3 : Int32) p2 y0 w0 y1 w1 y2 w2 = (own_put y2 (1 : Int32) w2 x1) := by simp [own_expect, own_expect_18, own_expect_37, own_put, m0, m1, m2]
        have r2 : own_expect (2 : Int32) x2 (3 : Int32) p2 y0 w0 y1 w1 y2 w2 = (own_put y2 (2 : Int32) w2 x2) := by simp [own_expect, own_expect_18, own_expect_37, own_put, m0, m1, m2]
        have r3 : own_expect (3 : Int32) x3 (3 : Int32) p2 y0 w0 y1 w1 y2 w2 = (own_put y2 (3 : Int32) w2 x3) := by simp [own_expect, own_expect_18, own_expect_37, own_put, m0, m1, m2]
        rw [show Q3_3 Z a0 a1 p2 b1 b2 k1 k2 k0 x0 x1 x2 x3 y0 w0 y1 w1 y2 w2 h0 n0 = Q3_3 Z a0 a1 p2 b1 b2 k1 k2 k0 x0 x1 x2 x3 y0 w0 y1 w1 y2 w2 h0 n0 from rfl]
        unfold Q3_3
        rw [l0, r0, r1, r2, r3]
        exact ⟨rfl, N23, kp26, f24_1, f24_2, f24_3, f24_4, av23⟩), ⟨_, rfl⟩, hW, hsame.mono (by decide) (by decide)⟩
  · skip
    have pre86 : Go p.tables e below S0 T2 (mkF m 41 #[vR a0, vR a1, vI p2] []) := fun t k => pre3 t (by
      refine XS.icmpYes X2.here hx rfl (pc0 := 5) (pc' := 41) rfl (hb hby d3_5) rfl (flt c5_4).2.2.2 (by decide) (by decide) ?_
      show Steps p.tables e below (T2.setTop (mkF m 41 #[vR a0, vR a1, vI p2] [])) _
      exact k)
    obtain ⟨fs, hr, hrun, hended, hW, hsame⟩ := X2.leave (v := none) (fun _ => rfl)
    exact ⟨_, _, pre86.fin hS0 (X2.returnOut hx Bd.returns (hb hby d3_41) hr), hrun, hended, _, _, rfl, (by
      show Q3_3 Z a0 a1 p2 b1 b2 k1 k2 k0 x0 x1 x2 x3 y0 w0 y1 w1 y2 w2 h0 n0 _ T2.heap _
      rw [e2]
      simp only [Int32.lt_iff_toInt_lt, Int32.reduceToInt] at c5_4
      have m0 : (0 : Int32) < p2 := by simp only [Int32.lt_iff_toInt_lt, Int32.reduceToInt]; omega
      have m1 : (1 : Int32) < p2 := by simp only [Int32.lt_iff_toInt_lt, Int32.reduceToInt]; omega
      have m2 : (2 : Int32) < p2 := by simp only [Int32.lt_iff_toInt_lt, Int32.reduceToInt]; omega
      have l0 : own_min (3 : Int32) p2 = (3 : Int32) := by
        unfold own_min
        have z : ¬ (p2 < (3 : Int32)) := by simp only [Int32.lt_iff_toInt_lt, Int32.reduceToInt]; omega
        first | (rw [if_neg z]; done) | (rw [if_pos z]; apply Int32.toInt_inj.mp; simp only [Int32.reduceToInt]; omega)
      have r0 : own_expect (0 : Int32) x0 (3 : Int32) p2 y0 w0 y1 w1 y2 w2 = x0 := by simp [own_expect, own_expect_18, own_expect_37, own_put, m0, m1, m2]
      have r1 : own_expect (1 : Int32) x1 (3 : Int32) p2 y0 w0 y1 w1 y2 w2 = x1 := by simp [own_expect, own_expect_18, own_expect_37, own_put, m0, m1, m2]
      have r2 : own_expect (2 : Int32) x2 (3 : Int32) p2 y0 w0 y1 w1 y2 w2 = x2 := by simp [own_expect, own_expect_18, own_expect_37, own_put, m0, m1, m2]
      have r3 : own_expect (3 : Int32) x3 (3 : Int32) p2 y0 w0 y1 w1 y2 w2 = x3 := by simp [own_expect, own_expect_18, own_expect_37, own_put, m0, m1, m2]
      rw [show Q3_3 Z a0 a1 p2 b1 b2 k1 k2 k0 x0 x1 x2 x3 y0 w0 y1 w1 y2 w2 h0 n0 = Q3_3 Z a0 a1 p2 b1 b2 k1 k2 k0 x0 x1 x2 x3 y0 w0 y1 w1 y2 w2 h0 n0 from rfl]
      unfold Q3_3
      rw [l0, r0, r1, r2, r3]
      exact ⟨rfl, N0, kp0, E0, F_p, F_v, F_s, V0⟩), ⟨_, rfl⟩, hW, hsame.mono (by decide) (by decide)⟩
theorem own_three {x i : Int32} (h : i = x &&& (3 : Int32)) : ¬ i < 0 ∧ i < (4 : Int32) := by
  have h0 := c_and x (3 : Int32) (by decide)
  rw [← h] at h0
  simp only [Int32.lt_iff_toInt_lt, Int32.reduceToInt] at *
  omega
theorem own_four {x i : Int32} (h : i = x &&& (3 : Int32)) : i = (0 : Int32) ∨ i = (1 : Int32) ∨ i = (2 : Int32) ∨ i = (3 : Int32) := by
  have h0 := c_and x (3 : Int32) (by decide)
  rw [← h] at h0
  simp only [← Int32.toInt_inj, Int32.reduceToInt] at *
  omega
theorem own_mark {x i : Int32} (h : i = ((x.toUInt32 >>> ((8 : Int32) &&& 31).toUInt32).toInt32) % (5 : Int32)) : 0 ≤ i.toInt := by
  have u := c_iushr x (8 : Int32) 8 (by decide) (by decide)
  have r := (c_iremV ((x.toUInt32 >>> ((8 : Int32) &&& 31).toUInt32).toInt32) (5 : Int32)).1 (by rw [u]; omega) (by decide)
  rw [← h] at r
  exact r.1
theorem ef_0 (m : MethodId) (x0 : Int32) (x1 : Int32) (x2 : Int32) (x3 : Int32) (x4 : Int64) (x5 : Int64) : entryFrame m #[(.int x0), (.int x1), (.int x2), (.int x3), (.long x4), (.long x5)] maxLocals = mkF m 0 #[.val (.int x0), .val (.int x1), .val (.int x2), .val (.int x3), .val (.long x4), .second, .val (.long x5), .second, .unset, .unset, .unset, .unset, .unset, .unset, .unset, .unset, .unset, .unset, .unset, .unset] [] := by first | (simp [entryFrame, mkF, argsToLocals, Value.category, maxLocals]; done) | rfl
theorem pd_1 : parseMethodDescriptor "()V" = some ⟨[], none⟩ := by decide +kernel
theorem pd_2 : parseMethodDescriptor "([II)V" = some ⟨[(.array .int), .int], none⟩ := by decide +kernel
theorem pd_3 : parseMethodDescriptor "(II)I" = some ⟨[.int, .int], some .int⟩ := by decide +kernel
theorem pd_4 : parseMethodDescriptor "()I" = some ⟨[], some .int⟩ := by decide +kernel
theorem pd_5 : parseMethodDescriptor "(IIIIIIIIII)I" = some ⟨[.int, .int, .int, .int, .int, .int, .int, .int, .int, .int], some .int⟩ := by decide +kernel
theorem pd_6 : parseMethodDescriptor "(II)V" = some ⟨[.int, .int], none⟩ := by decide +kernel
def Q0 (Z : State) (p0 p1 p2 p3 : Int32) (q4 q5 : Int64) (h0 : Heap) (n0 : Nat) (v : Option Value) (h : Heap) (L : List Loc) : Prop := v = some (.int 1) ∧ Fr n0 L
set_option maxRecDepth 65536 in
set_option maxHeartbeats 40000000 in
theorem rm0 (l : Launch) (Z : State) (A0 : Array Value) (hw : ∀ d ∈ tables_1, d.before A0 Z = true) (ws : List Jvm.Cond) (p0 : Int32) (p1 : Int32) (p2 : Int32) (p3 : Int32) (q4 : Int64) (q5 : Int64)  (h0 : Heap) (n0 : Nat) (Z0 : n0 ≤ h0.size)  :
    MetFree l x (head1 (Jvm.Cond.code x code maxLocals ret :: ws) room_1) (fun a U => a = #[(.int p0), (.int p1), (.int p2), (.int p3), (.long q4), (.long q5)] ∧ Z.Warmed39 U.vm ∧ U.heap = h0) (fun _ _ _ _ _ => True) (fun _ U o U' => ∃ v L, o = .returned v ∧ Q0 Z p0 p1 p2 p3 q4 q5 h0 n0 v U'.heap L ∧ FrameEnd U o U' L 4 39) := by
  refine MetFree.of_bodySF (plainFor_of_name pn_0) hisR ?_
  intro p e s m args below meth c s₁ Bd hml0 hP hK
  obtain ⟨rfl, hZ, hh⟩ := hP
  have hx := Bd.exec
  have hby := Bd.bytes
  have hml : c.maxLocals = 20 := hml0
  have hown : s.vm.findClass "com/example/motiflow/motiflow/UndoLogTakeBackPinLaw" = some m.cls := findClass_of_methodNamed Bd.named
  have hnm := (name_of_methodNamed Bd.named Bd.method).1
  have X0 : Stand p l e room_1 s m #[(.int p0), (.int p1), (.int p2), (.int p3), (.long q4), (.long q5)] below meth c s₁ [] 0 0 := Stand.of_body Bd
  have e0 : s₁.heap = h0 := by rw [← hh, Bd.state]; rfl
  have N0 := Fr.nil n0
  obtain ⟨S0, hS0⟩ : ∃ z, z = s₁.setTop (entryFrame m #[(.int p0), (.int p1), (.int p2), (.int p3), (.long q4), (.long q5)] maxLocals) := ⟨_, rfl⟩
  have pre0 : Go p.tables e below S0 s₁ (mkF m 0 #[vI p0, vI p1, vI p2, vI p3, vJ q4, .second, vJ q5, .second, .unset, .unset, .unset, .unset, .unset, .unset, .unset, .unset, .unset, .unset, .unset, .unset] []) := fun t k => by rw [hS0]; exact castTop (ef_0 m p0 p1 p2 p3 q4 q5) k
  obtain ⟨v1, hv1, pre1⟩ : ∃ z : Int32, z = (p0 &&& (3 : Int32)) ∧ Go p.tables e below S0 s₁ (mkF m 5 #[vI p0, vI p1, vI p2, vI p3, vJ q4, .second, vJ q5, .second, vI z, .unset, .unset, .unset, .unset, .unset, .unset, .unset, .unset, .unset, .unset, .unset] []) := ⟨_, rfl, fun t k => pre0 t (by
    refine XS.iloadN X0.here hx rfl (hb hby at_0) rfl ?_
    show Steps p.tables e below (s₁.setTop (mkF m 1 #[vI p0, vI p1, vI p2, vI p3, vJ q4, .second, vJ q5, .second, .unset, .unset, .unset, .unset, .unset, .unset, .unset, .unset, .unset, .unset, .unset, .unset] [(.int p0)])) _
    refine XS.iconst X0.here hx rfl (hb hby at_1) ?_
    show Steps p.tables e below (s₁.setTop (mkF m 2 #[vI p0, vI p1, vI p2, vI p3, vJ q4, .second, vJ q5, .second, .unset, .unset, .unset, .unset, .unset, .unset, .unset, .unset, .unset, .unset, .unset, .unset] [(.int (3 : Int32)), (.int p0)])) _
    refine XS.iand X0.here hx rfl (hb hby at_2) rfl ?_
    show Steps p.tables e below (s₁.setTop (mkF m 3 #[vI p0, vI p1, vI p2, vI p3, vJ q4, .second, vJ q5, .second, .unset, .unset, .unset, .unset, .unset, .unset, .unset, .unset, .unset, .unset, .unset, .unset] [(.int (p0 &&& (3 : Int32)))])) _
    refine XS.istore X0.here hx rfl (hb hby at_3) rfl (l' := #[vI p0, vI p1, vI p2, vI p3, vJ q4, .second, vJ q5, .second, vI (p0 &&& (3 : Int32)), .unset, .unset, .unset, .unset, .unset, .unset, .unset, .unset, .unset, .unset, .unset]) rfl ?_
    show Steps p.tables e below (s₁.setTop (mkF m 5 #[vI p0, vI p1, vI p2, vI p3, vJ q4, .second, vJ q5, .second, vI (p0 &&& (3 : Int32)), .unset, .unset, .unset, .unset, .unset, .unset, .unset, .unset, .unset, .unset, .unset] [])) _
    exact k)⟩
  have hp0 := own_three hv1
  obtain ⟨v2, hv2, pre2⟩ : ∃ z : Int32, z = (((p0.toUInt32 >>> ((2 : Int32) &&& 31).toUInt32).toInt32) &&& (3 : Int32)) ∧ Go p.tables e below S0 s₁ (mkF m 12 #[vI p0, vI p1, vI p2, vI p3, vJ q4, .second, vJ q5, .second, vI v1, vI z, .unset, .unset, .unset, .unset, .unset, .unset, .unset, .unset, .unset, .unset] []) := ⟨_, rfl, fun t k => pre1 t (by
    refine XS.iloadN X0.here hx rfl (hb hby at_5) rfl ?_
    show Steps p.tables e below (s₁.setTop (mkF m 6 #[vI p0, vI p1, vI p2, vI p3, vJ q4, .second, vJ q5, .second, vI v1, .unset, .unset, .unset, .unset, .unset, .unset, .unset, .unset, .unset, .unset, .unset] [(.int p0)])) _
    refine XS.iconst X0.here hx rfl (hb hby at_6) ?_
    show Steps p.tables e below (s₁.setTop (mkF m 7 #[vI p0, vI p1, vI p2, vI p3, vJ q4, .second, vJ q5, .second, vI v1, .unset, .unset, .unset, .unset, .unset, .unset, .unset, .unset, .unset, .unset, .unset] [(.int (2 : Int32)), (.int p0)])) _
    refine XS.iushr X0.here hx rfl (hb hby at_7) rfl ?_
    show Steps p.tables e below (s₁.setTop (mkF m 8 #[vI p0, vI p1, vI p2, vI p3, vJ q4, .second, vJ q5, .second, vI v1, .unset, .unset, .unset, .unset, .unset, .unset, .unset, .unset, .unset, .unset, .unset] [(.int ((p0.toUInt32 >>> ((2 : Int32) &&& 31).toUInt32).toInt32))])) _
    refine XS.iconst X0.here hx rfl (hb hby at_8) ?_
    show Steps p.tables e below (s₁.setTop (mkF m 9 #[vI p0, vI p1, vI p2, vI p3, vJ q4, .second, vJ q5, .second, vI v1, .unset, .unset, .unset, .unset, .unset, .unset, .unset, .unset, .unset, .unset, .unset] [(.int (3 : Int32)), (.int ((p0.toUInt32 >>> ((2 : Int32) &&& 31).toUInt32).toInt32))])) _
    refine XS.iand X0.here hx rfl (hb hby at_9) rfl ?_
    show Steps p.tables e below (s₁.setTop (mkF m 10 #[vI p0, vI p1, vI p2, vI p3, vJ q4, .second, vJ q5, .second, vI v1, .unset, .unset, .unset, .unset, .unset, .unset, .unset, .unset, .unset, .unset, .unset] [(.int (((p0.toUInt32 >>> ((2 : Int32) &&& 31).toUInt32).toInt32) &&& (3 : Int32)))])) _
    refine XS.istore X0.here hx rfl (hb hby at_10) rfl (l' := #[vI p0, vI p1, vI p2, vI p3, vJ q4, .second, vJ q5, .second, vI v1, vI (((p0.toUInt32 >>> ((2 : Int32) &&& 31).toUInt32).toInt32) &&& (3 : Int32)), .unset, .unset, .unset, .unset, .unset, .unset, .unset, .unset, .unset, .unset]) rfl ?_
    show Steps p.tables e below (s₁.setTop (mkF m 12 #[vI p0, vI p1, vI p2, vI p3, vJ q4, .second, vJ q5, .second, vI v1, vI (((p0.toUInt32 >>> ((2 : Int32) &&& 31).toUInt32).toInt32) &&& (3 : Int32)), .unset, .unset, .unset, .unset, .unset, .unset, .unset, .unset, .unset, .unset] [])) _
    exact k)⟩
  have hp1 := own_three hv2
  obtain ⟨v3, hv3, pre3⟩ : ∃ z : Int32, z = (((p0.toUInt32 >>> ((4 : Int32) &&& 31).toUInt32).toInt32) &&& (3 : Int32)) ∧ Go p.tables e below S0 s₁ (mkF m 19 #[vI p0, vI p1, vI p2, vI p3, vJ q4, .second, vJ q5, .second, vI v1, vI v2, vI z, .unset, .unset, .unset, .unset, .unset, .unset, .unset, .unset, .unset] []) := ⟨_, rfl, fun t k => pre2 t (by
    refine XS.iloadN X0.here hx rfl (hb hby at_12) rfl ?_
    show Steps p.tables e below (s₁.setTop (mkF m 13 #[vI p0, vI p1, vI p2, vI p3, vJ q4, .second, vJ q5, .second, vI v1, vI v2, .unset, .unset, .unset, .unset, .unset, .unset, .unset, .unset, .unset, .unset] [(.int p0)])) _
    refine XS.iconst X0.here hx rfl (hb hby at_13) ?_
    show Steps p.tables e below (s₁.setTop (mkF m 14 #[vI p0, vI p1, vI p2, vI p3, vJ q4, .second, vJ q5, .second, vI v1, vI v2, .unset, .unset, .unset, .unset, .unset, .unset, .unset, .unset, .unset, .unset] [(.int (4 : Int32)), (.int p0)])) _
    refine XS.iushr X0.here hx rfl (hb hby at_14) rfl ?_
    show Steps p.tables e below (s₁.setTop (mkF m 15 #[vI p0, vI p1, vI p2, vI p3, vJ q4, .second, vJ q5, .second, vI v1, vI v2, .unset, .unset, .unset, .unset, .unset, .unset, .unset, .unset, .unset, .unset] [(.int ((p0.toUInt32 >>> ((4 : Int32) &&& 31).toUInt32).toInt32))])) _
    refine XS.iconst X0.here hx rfl (hb hby at_15) ?_
    show Steps p.tables e below (s₁.setTop (mkF m 16 #[vI p0, vI p1, vI p2, vI p3, vJ q4, .second, vJ q5, .second, vI v1, vI v2, .unset, .unset, .unset, .unset, .unset, .unset, .unset, .unset, .unset, .unset] [(.int (3 : Int32)), (.int ((p0.toUInt32 >>> ((4 : Int32) &&& 31).toUInt32).toInt32))])) _
    refine XS.iand X0.here hx rfl (hb hby at_16) rfl ?_
    show Steps p.tables e below (s₁.setTop (mkF m 17 #[vI p0, vI p1, vI p2, vI p3, vJ q4, .second, vJ q5, .second, vI v1, vI v2, .unset, .unset, .unset, .unset, .unset, .unset, .unset, .unset, .unset, .unset] [(.int (((p0.toUInt32 >>> ((4 : Int32) &&& 31).toUInt32).toInt32) &&& (3 : Int32)))])) _
    refine XS.istore X0.here hx rfl (hb hby at_17) rfl (l' := #[vI p0, vI p1, vI p2, vI p3, vJ q4, .second, vJ q5, .second, vI v1, vI v2, vI (((p0.toUInt32 >>> ((4 : Int32) &&& 31).toUInt32).toInt32) &&& (3 : Int32)), .unset, .unset, .unset, .unset, .unset, .unset, .unset, .unset, .unset]) rfl ?_
    show Steps p.tables e below (s₁.setTop (mkF m 19 #[vI p0, vI p1, vI p2, vI p3, vJ q4, .second, vJ q5, .second, vI v1, vI v2, vI (((p0.toUInt32 >>> ((4 : Int32) &&& 31).toUInt32).toInt32) &&& (3 : Int32)), .unset, .unset, .unset, .unset, .unset, .unset, .unset, .unset, .unset] [])) _
    exact k)⟩
  have hp2 := own_three hv3
  obtain ⟨v4, hv4, pre4⟩ : ∃ z : Int32, z = (((p0.toUInt32 >>> ((6 : Int32) &&& 31).toUInt32).toInt32) &&& (3 : Int32)) ∧ Go p.tables e below S0 s₁ (mkF m 27 #[vI p0, vI p1, vI p2, vI p3, vJ q4, .second, vJ q5, .second, vI v1, vI v2, vI v3, vI z, .unset, .unset, .unset, .unset, .unset, .unset, .unset, .unset] []) := ⟨_, rfl, fun t k => pre3 t (by
    refine XS.iloadN X0.here hx rfl (hb hby at_19) rfl ?_
    show Steps p.tables e below (s₁.setTop (mkF m 20 #[vI p0, vI p1, vI p2, vI p3, vJ q4, .second, vJ q5, .second, vI v1, vI v2, vI v3, .unset, .unset, .unset, .unset, .unset, .unset, .unset, .unset, .unset] [(.int p0)])) _
    refine XS.bipush X0.here hx rfl (hb hby at_20) ?_
    show Steps p.tables e below (s₁.setTop (mkF m 22 #[vI p0, vI p1, vI p2, vI p3, vJ q4, .second, vJ q5, .second, vI v1, vI v2, vI v3, .unset, .unset, .unset, .unset, .unset, .unset, .unset, .unset, .unset] [(.int (6 : Int32)), (.int p0)])) _
    refine XS.iushr X0.here hx rfl (hb hby at_22) rfl ?_
    show Steps p.tables e below (s₁.setTop (mkF m 23 #[vI p0, vI p1, vI p2, vI p3, vJ q4, .second, vJ q5, .second, vI v1, vI v2, vI v3, .unset, .unset, .unset, .unset, .unset, .unset, .unset, .unset, .unset] [(.int ((p0.toUInt32 >>> ((6 : Int32) &&& 31).toUInt32).toInt32))])) _
    refine XS.iconst X0.here hx rfl (hb hby at_23) ?_
    show Steps p.tables e below (s₁.setTop (mkF m 24 #[vI p0, vI p1, vI p2, vI p3, vJ q4, .second, vJ q5, .second, vI v1, vI v2, vI v3, .unset, .unset, .unset, .unset, .unset, .unset, .unset, .unset, .unset] [(.int (3 : Int32)), (.int ((p0.toUInt32 >>> ((6 : Int32) &&& 31).toUInt32).toInt32))])) _
    refine XS.iand X0.here hx rfl (hb hby at_24) rfl ?_
    show Steps p.tables e below (s₁.setTop (mkF m 25 #[vI p0, vI p1, vI p2, vI p3, vJ q4, .second, vJ q5, .second, vI v1, vI v2, vI v3, .unset, .unset, .unset, .unset, .unset, .unset, .unset, .unset, .unset] [(.int (((p0.toUInt32 >>> ((6 : Int32) &&& 31).toUInt32).toInt32) &&& (3 : Int32)))])) _
    refine XS.istore X0.here hx rfl (hb hby at_25) rfl (l' := #[vI p0, vI p1, vI p2, vI p3, vJ q4, .second, vJ q5, .second, vI v1, vI v2, vI v3, vI (((p0.toUInt32 >>> ((6 : Int32) &&& 31).toUInt32).toInt32) &&& (3 : Int32)), .unset, .unset, .unset, .unset, .unset, .unset, .unset, .unset]) rfl ?_
    show Steps p.tables e below (s₁.setTop (mkF m 27 #[vI p0, vI p1, vI p2, vI p3, vJ q4, .second, vJ q5, .second, vI v1, vI v2, vI v3, vI (((p0.toUInt32 >>> ((6 : Int32) &&& 31).toUInt32).toInt32) &&& (3 : Int32)), .unset, .unset, .unset, .unset, .unset, .unset, .unset, .unset] [])) _
    exact k)⟩
  obtain ⟨v5, hv5, pre5⟩ : ∃ z : Int32, z = (((p0.toUInt32 >>> ((8 : Int32) &&& 31).toUInt32).toInt32) % (5 : Int32)) ∧ Go p.tables e below S0 s₁ (mkF m 35 #[vI p0, vI p1, vI p2, vI p3, vJ q4, .second, vJ q5, .second, vI v1, vI v2, vI v3, vI v4, vI z, .unset, .unset, .unset, .unset, .unset, .unset, .unset] []) := ⟨_, rfl, fun t k => pre4 t (by
    refine XS.iloadN X0.here hx rfl (hb hby at_27) rfl ?_
    show Steps p.tables e below (s₁.setTop (mkF m 28 #[vI p0, vI p1, vI p2, vI p3, vJ q4, .second, vJ q5, .second, vI v1, vI v2, vI v3, vI v4, .unset, .unset, .unset, .unset, .unset, .unset, .unset, .unset] [(.int p0)])) _
    refine XS.bipush X0.here hx rfl (hb hby at_28) ?_
    show Steps p.tables e below (s₁.setTop (mkF m 30 #[vI p0, vI p1, vI p2, vI p3, vJ q4, .second, vJ q5, .second, vI v1, vI v2, vI v3, vI v4, .unset, .unset, .unset, .unset, .unset, .unset, .unset, .unset] [(.int (8 : Int32)), (.int p0)])) _
    refine XS.iushr X0.here hx rfl (hb hby at_30) rfl ?_
    show Steps p.tables e below (s₁.setTop (mkF m 31 #[vI p0, vI p1, vI p2, vI p3, vJ q4, .second, vJ q5, .second, vI v1, vI v2, vI v3, vI v4, .unset, .unset, .unset, .unset, .unset, .unset, .unset, .unset] [(.int ((p0.toUInt32 >>> ((8 : Int32) &&& 31).toUInt32).toInt32))])) _
    refine XS.iconst X0.here hx rfl (hb hby at_31) ?_
    show Steps p.tables e below (s₁.setTop (mkF m 32 #[vI p0, vI p1, vI p2, vI p3, vJ q4, .second, vJ q5, .second, vI v1, vI v2, vI v3, vI v4, .unset, .unset, .unset, .unset, .unset, .unset, .unset, .unset] [(.int (5 : Int32)), (.int ((p0.toUInt32 >>> ((8 : Int32) &&& 31).toUInt32).toInt32))])) _
    refine iremM X0 hx rfl (hb hby at_32) rfl (by decide) ?_
    show Steps p.tables e below (s₁.setTop (mkF m 33 #[vI p0, vI p1, vI p2, vI p3, vJ q4, .second, vJ q5, .second, vI v1, vI v2, vI v3, vI v4, .unset, .unset, .unset, .unset, .unset, .unset, .unset, .unset] [(.int (((p0.toUInt32 >>> ((8 : Int32) &&& 31).toUInt32).toInt32) % (5 : Int32)))])) _
    refine XS.istore X0.here hx rfl (hb hby at_33) rfl (l' := #[vI p0, vI p1, vI p2, vI p3, vJ q4, .second, vJ q5, .second, vI v1, vI v2, vI v3, vI v4, vI (((p0.toUInt32 >>> ((8 : Int32) &&& 31).toUInt32).toInt32) % (5 : Int32)), .unset, .unset, .unset, .unset, .unset, .unset, .unset]) rfl ?_
    show Steps p.tables e below (s₁.setTop (mkF m 35 #[vI p0, vI p1, vI p2, vI p3, vJ q4, .second, vJ q5, .second, vI v1, vI v2, vI v3, vI v4, vI (((p0.toUInt32 >>> ((8 : Int32) &&& 31).toUInt32).toInt32) % (5 : Int32)), .unset, .unset, .unset, .unset, .unset, .unset, .unset] [])) _
    exact k)⟩
  have hmark := own_mark hv5
  obtain ⟨v6, hv6, pre6⟩ : ∃ z : Int32, z = (q4.toInt32) ∧ Go p.tables e below S0 s₁ (mkF m 40 #[vI p0, vI p1, vI p2, vI p3, vJ q4, .second, vJ q5, .second, vI v1, vI v2, vI v3, vI v4, vI v5, vI z, .unset, .unset, .unset, .unset, .unset, .unset] []) := ⟨_, rfl, fun t k => pre5 t (by
    refine XS.lload X0.here hx rfl (hb hby at_35) rfl ?_
    show Steps p.tables e below (s₁.setTop (mkF m 37 #[vI p0, vI p1, vI p2, vI p3, vJ q4, .second, vJ q5, .second, vI v1, vI v2, vI v3, vI v4, vI v5, .unset, .unset, .unset, .unset, .unset, .unset, .unset] [(.long q4)])) _
    refine XS.l2i X0.here hx rfl (hb hby at_37) rfl ?_
    show Steps p.tables e below (s₁.setTop (mkF m 38 #[vI p0, vI p1, vI p2, vI p3, vJ q4, .second, vJ q5, .second, vI v1, vI v2, vI v3, vI v4, vI v5, .unset, .unset, .unset, .unset, .unset, .unset, .unset] [(.int (q4.toInt32))])) _
    refine XS.istore X0.here hx rfl (hb hby at_38) rfl (l' := #[vI p0, vI p1, vI p2, vI p3, vJ q4, .second, vJ q5, .second, vI v1, vI v2, vI v3, vI v4, vI v5, vI (q4.toInt32), .unset, .unset, .unset, .unset, .unset, .unset]) rfl ?_
    show Steps p.tables e below (s₁.setTop (mkF m 40 #[vI p0, vI p1, vI p2, vI p3, vJ q4, .second, vJ q5, .second, vI v1, vI v2, vI v3, vI v4, vI v5, vI (q4.toInt32), .unset, .unset, .unset, .unset, .unset, .unset] [])) _
    exact k)⟩
  obtain ⟨v7, hv7, pre7⟩ : ∃ z : Int32, z = (((q4.toUInt64 >>> ((32 : Int32) &&& 0x3f).toInt64.toUInt64).toInt64).toInt32) ∧ Go p.tables e below S0 s₁ (mkF m 48 #[vI p0, vI p1, vI p2, vI p3, vJ q4, .second, vJ q5, .second, vI v1, vI v2, vI v3, vI v4, vI v5, vI v6, vI z, .unset, .unset, .unset, .unset, .unset] []) := ⟨_, rfl, fun t k => pre6 t (by
    refine XS.lload X0.here hx rfl (hb hby at_40) rfl ?_
    show Steps p.tables e below (s₁.setTop (mkF m 42 #[vI p0, vI p1, vI p2, vI p3, vJ q4, .second, vJ q5, .second, vI v1, vI v2, vI v3, vI v4, vI v5, vI v6, .unset, .unset, .unset, .unset, .unset, .unset] [(.long q4)])) _
    refine XS.bipush X0.here hx rfl (hb hby at_42) ?_
    show Steps p.tables e below (s₁.setTop (mkF m 44 #[vI p0, vI p1, vI p2, vI p3, vJ q4, .second, vJ q5, .second, vI v1, vI v2, vI v3, vI v4, vI v5, vI v6, .unset, .unset, .unset, .unset, .unset, .unset] [(.int (32 : Int32)), (.long q4)])) _
    refine XS.lushr X0.here hx rfl (hb hby at_44) rfl ?_
    show Steps p.tables e below (s₁.setTop (mkF m 45 #[vI p0, vI p1, vI p2, vI p3, vJ q4, .second, vJ q5, .second, vI v1, vI v2, vI v3, vI v4, vI v5, vI v6, .unset, .unset, .unset, .unset, .unset, .unset] [(.long ((q4.toUInt64 >>> ((32 : Int32) &&& 0x3f).toInt64.toUInt64).toInt64))])) _
    refine XS.l2i X0.here hx rfl (hb hby at_45) rfl ?_
    show Steps p.tables e below (s₁.setTop (mkF m 46 #[vI p0, vI p1, vI p2, vI p3, vJ q4, .second, vJ q5, .second, vI v1, vI v2, vI v3, vI v4, vI v5, vI v6, .unset, .unset, .unset, .unset, .unset, .unset] [(.int (((q4.toUInt64 >>> ((32 : Int32) &&& 0x3f).toInt64.toUInt64).toInt64).toInt32))])) _
    refine XS.istore X0.here hx rfl (hb hby at_46) rfl (l' := #[vI p0, vI p1, vI p2, vI p3, vJ q4, .second, vJ q5, .second, vI v1, vI v2, vI v3, vI v4, vI v5, vI v6, vI (((q4.toUInt64 >>> ((32 : Int32) &&& 0x3f).toInt64.toUInt64).toInt64).toInt32), .unset, .unset, .unset, .unset, .unset]) rfl ?_
    show Steps p.tables e below (s₁.setTop (mkF m 48 #[vI p0, vI p1, vI p2, vI p3, vJ q4, .second, vJ q5, .second, vI v1, vI v2, vI v3, vI v4, vI v5, vI v6, vI (((q4.toUInt64 >>> ((32 : Int32) &&& 0x3f).toInt64.toUInt64).toInt64).toInt32), .unset, .unset, .unset, .unset, .unset] [])) _
    exact k)⟩
  obtain ⟨v8, hv8, pre8⟩ : ∃ z : Int32, z = (q5.toInt32) ∧ Go p.tables e below S0 s₁ (mkF m 53 #[vI p0, vI p1, vI p2, vI p3, vJ q4, .second, vJ q5, .second, vI v1, vI v2, vI v3, vI v4, vI v5, vI v6, vI v7, vI z, .unset, .unset, .unset, .unset] []) := ⟨_, rfl, fun t k => pre7 t (by
    refine XS.lload X0.here hx rfl (hb hby at_48) rfl ?_
    show Steps p.tables e below (s₁.setTop (mkF m 50 #[vI p0, vI p1, vI p2, vI p3, vJ q4, .second, vJ q5, .second, vI v1, vI v2, vI v3, vI v4, vI v5, vI v6, vI v7, .unset, .unset, .unset, .unset, .unset] [(.long q5)])) _
    refine XS.l2i X0.here hx rfl (hb hby at_50) rfl ?_
    show Steps p.tables e below (s₁.setTop (mkF m 51 #[vI p0, vI p1, vI p2, vI p3, vJ q4, .second, vJ q5, .second, vI v1, vI v2, vI v3, vI v4, vI v5, vI v6, vI v7, .unset, .unset, .unset, .unset, .unset] [(.int (q5.toInt32))])) _
    refine XS.istore X0.here hx rfl (hb hby at_51) rfl (l' := #[vI p0, vI p1, vI p2, vI p3, vJ q4, .second, vJ q5, .second, vI v1, vI v2, vI v3, vI v4, vI v5, vI v6, vI v7, vI (q5.toInt32), .unset, .unset, .unset, .unset]) rfl ?_
    show Steps p.tables e below (s₁.setTop (mkF m 53 #[vI p0, vI p1, vI p2, vI p3, vJ q4, .second, vJ q5, .second, vI v1, vI v2, vI v3, vI v4, vI v5, vI v6, vI v7, vI (q5.toInt32), .unset, .unset, .unset, .unset] [])) _
    exact k)⟩
  obtain ⟨v9, hv9, pre9⟩ : ∃ z : Int32, z = (((q5.toUInt64 >>> ((32 : Int32) &&& 0x3f).toInt64.toUInt64).toInt64).toInt32) ∧ Go p.tables e below S0 s₁ (mkF m 61 #[vI p0, vI p1, vI p2, vI p3, vJ q4, .second, vJ q5, .second, vI v1, vI v2, vI v3, vI v4, vI v5, vI v6, vI v7, vI v8, vI z, .unset, .unset, .unset] []) := ⟨_, rfl, fun t k => pre8 t (by
    refine XS.lload X0.here hx rfl (hb hby at_53) rfl ?_
    show Steps p.tables e below (s₁.setTop (mkF m 55 #[vI p0, vI p1, vI p2, vI p3, vJ q4, .second, vJ q5, .second, vI v1, vI v2, vI v3, vI v4, vI v5, vI v6, vI v7, vI v8, .unset, .unset, .unset, .unset] [(.long q5)])) _
    refine XS.bipush X0.here hx rfl (hb hby at_55) ?_
    show Steps p.tables e below (s₁.setTop (mkF m 57 #[vI p0, vI p1, vI p2, vI p3, vJ q4, .second, vJ q5, .second, vI v1, vI v2, vI v3, vI v4, vI v5, vI v6, vI v7, vI v8, .unset, .unset, .unset, .unset] [(.int (32 : Int32)), (.long q5)])) _
    refine XS.lushr X0.here hx rfl (hb hby at_57) rfl ?_
    show Steps p.tables e below (s₁.setTop (mkF m 58 #[vI p0, vI p1, vI p2, vI p3, vJ q4, .second, vJ q5, .second, vI v1, vI v2, vI v3, vI v4, vI v5, vI v6, vI v7, vI v8, .unset, .unset, .unset, .unset] [(.long ((q5.toUInt64 >>> ((32 : Int32) &&& 0x3f).toInt64.toUInt64).toInt64))])) _
    refine XS.l2i X0.here hx rfl (hb hby at_58) rfl ?_
    show Steps p.tables e below (s₁.setTop (mkF m 59 #[vI p0, vI p1, vI p2, vI p3, vJ q4, .second, vJ q5, .second, vI v1, vI v2, vI v3, vI v4, vI v5, vI v6, vI v7, vI v8, .unset, .unset, .unset, .unset] [(.int (((q5.toUInt64 >>> ((32 : Int32) &&& 0x3f).toInt64.toUInt64).toInt64).toInt32))])) _
    refine XS.istore X0.here hx rfl (hb hby at_59) rfl (l' := #[vI p0, vI p1, vI p2, vI p3, vJ q4, .second, vJ q5, .second, vI v1, vI v2, vI v3, vI v4, vI v5, vI v6, vI v7, vI v8, vI (((q5.toUInt64 >>> ((32 : Int32) &&& 0x3f).toInt64.toUInt64).toInt64).toInt32), .unset, .unset, .unset]) rfl ?_
    show Steps p.tables e below (s₁.setTop (mkF m 61 #[vI p0, vI p1, vI p2, vI p3, vJ q4, .second, vJ q5, .second, vI v1, vI v2, vI v3, vI v4, vI v5, vI v6, vI v7, vI v8, vI (((q5.toUInt64 >>> ((32 : Int32) &&& 0x3f).toInt64.toUInt64).toInt64).toInt32), .unset, .unset, .unset] [])) _
    exact k)⟩
  have pre10 : Go p.tables e below S0 s₁ (mkF m 62 #[vI p0, vI p1, vI p2, vI p3, vJ q4, .second, vJ q5, .second, vI v1, vI v2, vI v3, vI v4, vI v5, vI v6, vI v7, vI v8, vI v9, .unset, .unset, .unset] [(.int (4 : Int32))]) := fun t k => pre9 t (by
    refine XS.iconst X0.here hx rfl (hb hby at_61) ?_
    show Steps p.tables e below (s₁.setTop (mkF m 62 #[vI p0, vI p1, vI p2, vI p3, vJ q4, .second, vJ q5, .second, vI v1, vI v2, vI v3, vI v4, vI v5, vI v6, vI v7, vI v8, vI v9, .unset, .unset, .unset] [(.int (4 : Int32))])) _
    exact k)
  obtain ⟨T11, h11, kA11, X11, e11, E11, A11, st11⟩ := newP X0 hx hZ (hw _ (List.mem_of_getElem? (i := 0) rfl)) e0 (g := (mkF m 62 #[vI p0, vI p1, vI p2, vI p3, vJ q4, .second, vJ q5, .second, vI v1, vI v2, vI v3, vI v4, vI v5, vI v6, vI v7, vI v8, vI v9, .unset, .unset, .unset] [(.int (4 : Int32))])) rfl (hb hby at_62) rfl (by decide) (cap := 4) (by decide) (by decide) (by decide) (by decide)
  obtain ⟨b11, g11⟩ : ∃ z, z = h0.size := ⟨_, rfl⟩
  rw [← g11] at A11 st11
  have pre11 : Go p.tables e below S0 T11 (mkF m 64 #[vI p0, vI p1, vI p2, vI p3, vJ q4, .second, vJ q5, .second, vI v1, vI v2, vI v3, vI v4, vI v5, vI v6, vI v7, vI v8, vI v9, .unset, .unset, .unset] [(.ref b11)]) := fun t k => pre10 t (st11 t k)
  have bo11 : n0 ≤ b11 := Nat.le_trans Z0 (Nat.le_of_eq g11.symm)
  have zz13 : n0 ≤ h11.size := Nat.le_trans Z0 E11.1
  have av11 : Arv Z h11 b11 kA11 .int (4 : Int32) [(.int (0 : Int32)), (.int (0 : Int32)), (.int (0 : Int32)), (.int (0 : Int32))] (.int (0 : Int32)) := (Arv.new A11 (by decide)).pad (pad_rep [] (.int (0 : Int32)) 4)
  have pre14 : Go p.tables e below S0 T11 (mkF m 71 #[vI p0, vI p1, vI p2, vI p3, vJ q4, .second, vJ q5, .second, vI v1, vI v2, vI v3, vI v4, vI v5, vI v6, vI v7, vI v8, vI v9, vR b11, .unset, .unset] [(.int v6), (.int (0 : Int32)), (.ref b11)]) := fun t k => pre11 t (by
    refine XS.astore X11.here hx rfl (hb hby at_64) rfl rfl (l' := #[vI p0, vI p1, vI p2, vI p3, vJ q4, .second, vJ q5, .second, vI v1, vI v2, vI v3, vI v4, vI v5, vI v6, vI v7, vI v8, vI v9, vR b11, .unset, .unset]) rfl ?_
    show Steps p.tables e below (T11.setTop (mkF m 66 #[vI p0, vI p1, vI p2, vI p3, vJ q4, .second, vJ q5, .second, vI v1, vI v2, vI v3, vI v4, vI v5, vI v6, vI v7, vI v8, vI v9, vR b11, .unset, .unset] [])) _
    refine XS.aload X11.here hx rfl (hb hby at_66) rfl rfl ?_
    show Steps p.tables e below (T11.setTop (mkF m 68 #[vI p0, vI p1, vI p2, vI p3, vJ q4, .second, vJ q5, .second, vI v1, vI v2, vI v3, vI v4, vI v5, vI v6, vI v7, vI v8, vI v9, vR b11, .unset, .unset] [(.ref b11)])) _
    refine XS.iconst X11.here hx rfl (hb hby at_68) ?_
    show Steps p.tables e below (T11.setTop (mkF m 69 #[vI p0, vI p1, vI p2, vI p3, vJ q4, .second, vJ q5, .second, vI v1, vI v2, vI v3, vI v4, vI v5, vI v6, vI v7, vI v8, vI v9, vR b11, .unset, .unset] [(.int (0 : Int32)), (.ref b11)])) _
    refine XS.iload X11.here hx rfl (hb hby at_69) rfl ?_
    show Steps p.tables e below (T11.setTop (mkF m 71 #[vI p0, vI p1, vI p2, vI p3, vJ q4, .second, vJ q5, .second, vI v1, vI v2, vI v3, vI v4, vI v5, vI v6, vI v7, vI v8, vI v9, vR b11, .unset, .unset] [(.int v6), (.int (0 : Int32)), (.ref b11)])) _
    exact k)
  obtain ⟨cl15, Ar15, q15, S15, M15, H15, G15⟩ := id av11
  have in15 : ¬ ((0 : Int32) < 0 ∨ cl15.slots.size ≤ ((0 : Int32)).toNatClampNeg) := inb_of S15 ⟨by decide, by decide⟩
  obtain ⟨T15, h15, X15, e15, W15, st15⟩ := stI X11 hx hZ e11 Ar15 (j := (0 : Int32)) in15 (g := (mkF m 71 #[vI p0, vI p1, vI p2, vI p3, vJ q4, .second, vJ q5, .second, vI v1, vI v2, vI v3, vI v4, vI v5, vI v6, vI v7, vI v8, vI v9, vR b11, .unset, .unset] [(.int v6), (.int (0 : Int32)), (.ref b11)])) rfl rfl (hb hby at_71)
  have pre15 : Go p.tables e below S0 T15 (mkF m 72 #[vI p0, vI p1, vI p2, vI p3, vJ q4, .second, vJ q5, .second, vI v1, vI v2, vI v3, vI v4, vI v5, vI v6, vI v7, vI v8, vI v9, vR b11, .unset, .unset] []) := fun t k => pre14 t (st15 t k)
  have N15 := Fr.snoc X15 N0 bo11
  have av15 : Arv Z h15 b11 kA11 .int (4 : Int32) [(.int v6), (.int (0 : Int32)), (.int (0 : Int32)), (.int (0 : Int32))] (.int (0 : Int32)) := Arv.set Ar15 q15 S15 M15 H15 G15 rfl W15 0 rfl (Nat.le_of_ble_eq_true rfl)
  have zz17 : n0 ≤ h15.size := Nat.le_trans zz13 (Keep.of_wr W15).1
  have pre18 : Go p.tables e below S0 T15 (mkF m 77 #[vI p0, vI p1, vI p2, vI p3, vJ q4, .second, vJ q5, .second, vI v1, vI v2, vI v3, vI v4, vI v5, vI v6, vI v7, vI v8, vI v9, vR b11, .unset, .unset] [(.int v7), (.int (1 : Int32)), (.ref b11)]) := fun t k => pre15 t (by
    refine XS.aload X15.here hx rfl (hb hby at_72) rfl rfl ?_
    show Steps p.tables e below (T15.setTop (mkF m 74 #[vI p0, vI p1, vI p2, vI p3, vJ q4, .second, vJ q5, .second, vI v1, vI v2, vI v3, vI v4, vI v5, vI v6, vI v7, vI v8, vI v9, vR b11, .unset, .unset] [(.ref b11)])) _
    refine XS.iconst X15.here hx rfl (hb hby at_74) ?_
    show Steps p.tables e below (T15.setTop (mkF m 75 #[vI p0, vI p1, vI p2, vI p3, vJ q4, .second, vJ q5, .second, vI v1, vI v2, vI v3, vI v4, vI v5, vI v6, vI v7, vI v8, vI v9, vR b11, .unset, .unset] [(.int (1 : Int32)), (.ref b11)])) _
    refine XS.iload X15.here hx rfl (hb hby at_75) rfl ?_
    show Steps p.tables e below (T15.setTop (mkF m 77 #[vI p0, vI p1, vI p2, vI p3, vJ q4, .second, vJ q5, .second, vI v1, vI v2, vI v3, vI v4, vI v5, vI v6, vI v7, vI v8, vI v9, vR b11, .unset, .unset] [(.int v7), (.int (1 : Int32)), (.ref b11)])) _
    exact k)
  obtain ⟨cl19, Ar19, q19, S19, M19, H19, G19⟩ := id av15
  have in19 : ¬ ((1 : Int32) < 0 ∨ cl19.slots.size ≤ ((1 : Int32)).toNatClampNeg) := inb_of S19 ⟨by decide, by decide⟩
  obtain ⟨T19, h19, X19, e19, W19, st19⟩ := stI X15 hx hZ e15 Ar19 (j := (1 : Int32)) in19 (g := (mkF m 77 #[vI p0, vI p1, vI p2, vI p3, vJ q4, .second, vJ q5, .second, vI v1, vI v2, vI v3, vI v4, vI v5, vI v6, vI v7, vI v8, vI v9, vR b11, .unset, .unset] [(.int v7), (.int (1 : Int32)), (.ref b11)])) rfl rfl (hb hby at_77)
  have pre19 : Go p.tables e below S0 T19 (mkF m 78 #[vI p0, vI p1, vI p2, vI p3, vJ q4, .second, vJ q5, .second, vI v1, vI v2, vI v3, vI v4, vI v5, vI v6, vI v7, vI v8, vI v9, vR b11, .unset, .unset] []) := fun t k => pre18 t (st19 t k)
  have N19 := Fr.snoc X19 N15 bo11
  have av19 : Arv Z h19 b11 kA11 .int (4 : Int32) [(.int v6), (.int v7), (.int (0 : Int32)), (.int (0 : Int32))] (.int (0 : Int32)) := Arv.set Ar19 q19 S19 M19 H19 G19 rfl W19 1 rfl (Nat.le_of_ble_eq_true rfl)
  have zz21 : n0 ≤ h19.size := Nat.le_trans zz17 (Keep.of_wr W19).1
  have pre22 : Go p.tables e below S0 T19 (mkF m 83 #[vI p0, vI p1, vI p2, vI p3, vJ q4, .second, vJ q5, .second, vI v1, vI v2, vI v3, vI v4, vI v5, vI v6, vI v7, vI v8, vI v9, vR b11, .unset, .unset] [(.int v8), (.int (2 : Int32)), (.ref b11)]) := fun t k => pre19 t (by
    refine XS.aload X19.here hx rfl (hb hby at_78) rfl rfl ?_
    show Steps p.tables e below (T19.setTop (mkF m 80 #[vI p0, vI p1, vI p2, vI p3, vJ q4, .second, vJ q5, .second, vI v1, vI v2, vI v3, vI v4, vI v5, vI v6, vI v7, vI v8, vI v9, vR b11, .unset, .unset] [(.ref b11)])) _
    refine XS.iconst X19.here hx rfl (hb hby at_80) ?_
    show Steps p.tables e below (T19.setTop (mkF m 81 #[vI p0, vI p1, vI p2, vI p3, vJ q4, .second, vJ q5, .second, vI v1, vI v2, vI v3, vI v4, vI v5, vI v6, vI v7, vI v8, vI v9, vR b11, .unset, .unset] [(.int (2 : Int32)), (.ref b11)])) _
    refine XS.iload X19.here hx rfl (hb hby at_81) rfl ?_
    show Steps p.tables e below (T19.setTop (mkF m 83 #[vI p0, vI p1, vI p2, vI p3, vJ q4, .second, vJ q5, .second, vI v1, vI v2, vI v3, vI v4, vI v5, vI v6, vI v7, vI v8, vI v9, vR b11, .unset, .unset] [(.int v8), (.int (2 : Int32)), (.ref b11)])) _
    exact k)
  obtain ⟨cl23, Ar23, q23, S23, M23, H23, G23⟩ := id av19
  have in23 : ¬ ((2 : Int32) < 0 ∨ cl23.slots.size ≤ ((2 : Int32)).toNatClampNeg) := inb_of S23 ⟨by decide, by decide⟩
  obtain ⟨T23, h23, X23, e23, W23, st23⟩ := stI X19 hx hZ e19 Ar23 (j := (2 : Int32)) in23 (g := (mkF m 83 #[vI p0, vI p1, vI p2, vI p3, vJ q4, .second, vJ q5, .second, vI v1, vI v2, vI v3, vI v4, vI v5, vI v6, vI v7, vI v8, vI v9, vR b11, .unset, .unset] [(.int v8), (.int (2 : Int32)), (.ref b11)])) rfl rfl (hb hby at_83)
  have pre23 : Go p.tables e below S0 T23 (mkF m 84 #[vI p0, vI p1, vI p2, vI p3, vJ q4, .second, vJ q5, .second, vI v1, vI v2, vI v3, vI v4, vI v5, vI v6, vI v7, vI v8, vI v9, vR b11, .unset, .unset] []) := fun t k => pre22 t (st23 t k)
  have N23 := Fr.snoc X23 N19 bo11
  have av23 : Arv Z h23 b11 kA11 .int (4 : Int32) [(.int v6), (.int v7), (.int v8), (.int (0 : Int32))] (.int (0 : Int32)) := Arv.set Ar23 q23 S23 M23 H23 G23 rfl W23 2 rfl (Nat.le_of_ble_eq_true rfl)
  have zz25 : n0 ≤ h23.size := Nat.le_trans zz21 (Keep.of_wr W23).1
  have pre26 : Go p.tables e below S0 T23 (mkF m 89 #[vI p0, vI p1, vI p2, vI p3, vJ q4, .second, vJ q5, .second, vI v1, vI v2, vI v3, vI v4, vI v5, vI v6, vI v7, vI v8, vI v9, vR b11, .unset, .unset] [(.int v9), (.int (3 : Int32)), (.ref b11)]) := fun t k => pre23 t (by
    refine XS.aload X23.here hx rfl (hb hby at_84) rfl rfl ?_
    show Steps p.tables e below (T23.setTop (mkF m 86 #[vI p0, vI p1, vI p2, vI p3, vJ q4, .second, vJ q5, .second, vI v1, vI v2, vI v3, vI v4, vI v5, vI v6, vI v7, vI v8, vI v9, vR b11, .unset, .unset] [(.ref b11)])) _
    refine XS.iconst X23.here hx rfl (hb hby at_86) ?_
    show Steps p.tables e below (T23.setTop (mkF m 87 #[vI p0, vI p1, vI p2, vI p3, vJ q4, .second, vJ q5, .second, vI v1, vI v2, vI v3, vI v4, vI v5, vI v6, vI v7, vI v8, vI v9, vR b11, .unset, .unset] [(.int (3 : Int32)), (.ref b11)])) _
    refine XS.iload X23.here hx rfl (hb hby at_87) rfl ?_
    show Steps p.tables e below (T23.setTop (mkF m 89 #[vI p0, vI p1, vI p2, vI p3, vJ q4, .second, vJ q5, .second, vI v1, vI v2, vI v3, vI v4, vI v5, vI v6, vI v7, vI v8, vI v9, vR b11, .unset, .unset] [(.int v9), (.int (3 : Int32)), (.ref b11)])) _
    exact k)
  obtain ⟨cl27, Ar27, q27, S27, M27, H27, G27⟩ := id av23
  have in27 : ¬ ((3 : Int32) < 0 ∨ cl27.slots.size ≤ ((3 : Int32)).toNatClampNeg) := inb_of S27 ⟨by decide, by decide⟩
  obtain ⟨T27, h27, X27, e27, W27, st27⟩ := stI X23 hx hZ e23 Ar27 (j := (3 : Int32)) in27 (g := (mkF m 89 #[vI p0, vI p1, vI p2, vI p3, vJ q4, .second, vJ q5, .second, vI v1, vI v2, vI v3, vI v4, vI v5, vI v6, vI v7, vI v8, vI v9, vR b11, .unset, .unset] [(.int v9), (.int (3 : Int32)), (.ref b11)])) rfl rfl (hb hby at_89)
  have pre27 : Go p.tables e below S0 T27 (mkF m 90 #[vI p0, vI p1, vI p2, vI p3, vJ q4, .second, vJ q5, .second, vI v1, vI v2, vI v3, vI v4, vI v5, vI v6, vI v7, vI v8, vI v9, vR b11, .unset, .unset] []) := fun t k => pre26 t (st27 t k)
  have N27 := Fr.snoc X27 N23 bo11
  have av27 : Arv Z h27 b11 kA11 .int (4 : Int32) [(.int v6), (.int v7), (.int v8), (.int v9)] (.int (0 : Int32)) := Arv.set Ar27 q27 S27 M27 H27 G27 rfl W27 3 rfl (Nat.le_of_ble_eq_true rfl)
  have zz29 : n0 ≤ h27.size := Nat.le_trans zz25 (Keep.of_wr W27).1
  obtain ⟨T30, h30, X30, e30, E30, A30, D30, -, st30⟩ := newO X27 hx hZ hown (hw _ (List.mem_of_getElem? (i := 1) rfl)) (hw _ (List.mem_of_getElem? (i := 2) rfl)) (hw _ (List.mem_of_getElem? (i := 3) rfl)) e27 (g := (mkF m 90 #[vI p0, vI p1, vI p2, vI p3, vJ q4, .second, vJ q5, .second, vI v1, vI v2, vI v3, vI v4, vI v5, vI v6, vI v7, vI v8, vI v9, vR b11, .unset, .unset] [])) rfl (hb hby at_90) (by decide) (by decide)
  obtain ⟨b30, g30⟩ : ∃ z, z = h27.size := ⟨_, rfl⟩
  rw [← g30] at A30 D30 st30
  have pre30 : Go p.tables e below S0 T30 (mkF m 93 #[vI p0, vI p1, vI p2, vI p3, vJ q4, .second, vJ q5, .second, vI v1, vI v2, vI v3, vI v4, vI v5, vI v6, vI v7, vI v8, vI v9, vR b11, .unset, .unset] [(.ref b30)]) := fun t k => pre27 t (st30 t k)
  have ne31 : b11 ≠ b30 := Nat.ne_of_lt (Nat.lt_of_lt_of_le av27.lt (Nat.le_of_eq g30.symm))
  have bo30 : n0 ≤ b30 := Nat.le_trans zz29 (Nat.le_of_eq g30.symm)
  have f32_1 := av27.ext E30
  have zz33 : n0 ≤ h30.size := Nat.le_trans zz29 E30.1
  have fn30_places : Fld Z h30 b30 "com/example/motiflow/motiflow/UndoLog" "places" "[I" .null := D30 (Or.inl (hw _ (List.mem_of_getElem? (i := 11) rfl))) (ty := (.array .int)) (by decide)
  have fn30_values : Fld Z h30 b30 "com/example/motiflow/motiflow/UndoLog" "values" "[I" .null := D30 (Or.inl (hw _ (List.mem_of_getElem? (i := 13) rfl))) (ty := (.array .int)) (by decide)
  have fn30_size : Fld Z h30 b30 "com/example/motiflow/motiflow/UndoLog" "size" "I" (.int (0 : Int32)) := D30 (Or.inl (hw _ (List.mem_of_getElem? (i := 20) rfl))) (ty := .int) (by decide)
  have pre34 : Go p.tables e below S0 T30 (mkF m 94 #[vI p0, vI p1, vI p2, vI p3, vJ q4, .second, vJ q5, .second, vI v1, vI v2, vI v3, vI v4, vI v5, vI v6, vI v7, vI v8, vI v9, vR b11, .unset, .unset] [(.ref b30), (.ref b30)]) := fun t k => pre30 t (by
    refine XS.dup X30.here hx rfl (hb hby at_93) rfl rfl ?_
    show Steps p.tables e below (T30.setTop (mkF m 94 #[vI p0, vI p1, vI p2, vI p3, vJ q4, .second, vJ q5, .second, vI v1, vI v2, vI v3, vI v4, vI v5, vI v6, vI v7, vI v8, vI v9, vR b11, .unset, .unset] [(.ref b30), (.ref b30)])) _
    exact k)
  obtain ⟨_, _, ⟨T35, qL35, qk35, qn35⟩, -, X35, ⟨Lc35, hQ35, ql35, qy35, qz35⟩, st35⟩ := X30.specialBack hx (y := (⟨"com/example/motiflow/motiflow/UndoLog", "<init>", "()V"⟩ : MethodName)) rfl hown (mvT hZ (hw _ (List.mem_of_getElem? (i := 4) rfl))) (mvT hZ (hw _ (List.mem_of_getElem? (i := 5) rfl))) (mvT hZ (hw _ (List.mem_of_getElem? (i := 6) rfl))) (by decide) (backOf (W := 1) (rm1 l Z A0 hw [] b30 h30 n0 zz33 A30 fn30_places fn30_values fn30_size bo30) hZ (hw _ (List.mem_of_getElem? (i := 6) rfl)) (hw _ (List.mem_of_getElem? (i := 3) rfl)) (by decide) (by decide)) (g := (mkF m 94 #[vI p0, vI p1, vI p2, vI p3, vJ q4, .second, vJ q5, .second, vI v1, vI v2, vI v3, vI v4, vI v5, vI v6, vI v7, vI v8, vI v9, vR b11, .unset, .unset] [(.ref b30), (.ref b30)])) rfl (by rw [hml]; rfl) (Steps.refl _) (a := b30) (argsL := []) (rest := [(.ref b30)]) (lenOf pd_1 rfl) rfl (by show 2 * 0 + _ ≤ _; exact Nat.le_of_eq rfl) (hb hby at_94) (fun _ _ => ⟨rfl, e30, (by decide : 2 + 2 ≤ _), (by decide : 7 + 32 ≤ _)⟩)
  dsimp only [Pt.U, Pt.locs, Pt.cells, Pt.slots] at X35 ql35 qy35 qz35 st35 hQ35
  subst ql35 qy35 qz35
  obtain ⟨rfl, Nq35, b1_35, b2_35, k1_35, k2_35, hq35, Kq35, nf35_0, nf35_1, nf35_2, nf35_3, nf35_4, nf35_5⟩ := hQ35
  have N35 := Fr.app N27 Nq35
  have pre35 : Go p.tables e below S0 T35 (mkF m 97 #[vI p0, vI p1, vI p2, vI p3, vJ q4, .second, vJ q5, .second, vI v1, vI v2, vI v3, vI v4, vI v5, vI v6, vI v7, vI v8, vI v9, vR b11, .unset, .unset] [(.ref b30)]) := fun t k => pre34 t (st35.trans k)
  have f36_1 := f32_1.keep Kq35 (ninS ne31 nin0)
  have zz37 : n0 ≤ T35.heap.size := Nat.le_trans zz33 Kq35.1
  have bo35_0 : n0 ≤ b1_35 := Nat.le_trans zz33 hq35.1
  have nn35_0_0 : b11 ≠ b1_35 := Nat.ne_of_lt (Nat.lt_of_lt_of_le f32_1.lt hq35.1)
  have nn35_0_1 : b30 ≠ b1_35 := Nat.ne_of_lt (Nat.lt_of_lt_of_le fn30_size.lt hq35.1)
  have bo35_1 : n0 ≤ b2_35 := Nat.le_trans zz33 hq35.2.1
  have nn35_1_0 : b11 ≠ b2_35 := Nat.ne_of_lt (Nat.lt_of_lt_of_le f32_1.lt hq35.2.1)
  have nn35_1_1 : b30 ≠ b2_35 := Nat.ne_of_lt (Nat.lt_of_lt_of_le fn30_size.lt hq35.2.1)
  have pre38 : Go p.tables e below S0 T35 (mkF m 99 #[vI p0, vI p1, vI p2, vI p3, vJ q4, .second, vJ q5, .second, vI v1, vI v2, vI v3, vI v4, vI v5, vI v6, vI v7, vI v8, vI v9, vR b11, vR b30, .unset] []) := fun t k => pre35 t (by
    refine XS.astore X35.here hx rfl (hb hby at_97) rfl rfl (l' := #[vI p0, vI p1, vI p2, vI p3, vJ q4, .second, vJ q5, .second, vI v1, vI v2, vI v3, vI v4, vI v5, vI v6, vI v7, vI v8, vI v9, vR b11, vR b30, .unset]) rfl ?_
    show Steps p.tables e below (T35.setTop (mkF m 99 #[vI p0, vI p1, vI p2, vI p3, vJ q4, .second, vJ q5, .second, vI v1, vI v2, vI v3, vI v4, vI v5, vI v6, vI v7, vI v8, vI v9, vR b11, vR b30, .unset] [])) _
    exact k)
  rcases own_four hv4 with rfl | rfl | rfl | rfl
  · skip
    have pre39 : Go p.tables e below S0 T35 (mkF m 146 #[vI p0, vI p1, vI p2, vI p3, vJ q4, .second, vJ q5, .second, vI v1, vI v2, vI v3, vI (0 : Int32), vI v5, vI v6, vI v7, vI v8, vI v9, vR b11, vR b30, .unset] [(.int v5), (.ref b11), (.ref b30)]) := fun t k => pre38 t (by
      refine XS.iload X35.here hx rfl (hb hby at_99) rfl ?_
      show Steps p.tables e below (T35.setTop (mkF m 101 #[vI p0, vI p1, vI p2, vI p3, vJ q4, .second, vJ q5, .second, vI v1, vI v2, vI v3, vI (0 : Int32), vI v5, vI v6, vI v7, vI v8, vI v9, vR b11, vR b30, .unset] [(.int (0 : Int32))])) _
      refine XS.ifYes X35.here hx rfl (pc0 := 101) (pc' := 112) rfl (hb hby at_101) rfl ((if0 _ _).trans (flt (by decide : ¬ ((0 : Int32) < (0 : Int32)))).2.2.2) (by decide) (by decide) ?_
      show Steps p.tables e below (T35.setTop (mkF m 112 #[vI p0, vI p1, vI p2, vI p3, vJ q4, .second, vJ q5, .second, vI v1, vI v2, vI v3, vI (0 : Int32), vI v5, vI v6, vI v7, vI v8, vI v9, vR b11, vR b30, .unset] [])) _
      refine XS.iload X35.here hx rfl (hb hby at_112) rfl ?_
      show Steps p.tables e below (T35.setTop (mkF m 114 #[vI p0, vI p1, vI p2, vI p3, vJ q4, .second, vJ q5, .second, vI v1, vI v2, vI v3, vI (0 : Int32), vI v5, vI v6, vI v7, vI v8, vI v9, vR b11, vR b30, .unset] [(.int (0 : Int32))])) _
      refine XS.iconst X35.here hx rfl (hb hby at_114) ?_
      show Steps p.tables e below (T35.setTop (mkF m 115 #[vI p0, vI p1, vI p2, vI p3, vJ q4, .second, vJ q5, .second, vI v1, vI v2, vI v3, vI (0 : Int32), vI v5, vI v6, vI v7, vI v8, vI v9, vR b11, vR b30, .unset] [(.int (1 : Int32)), (.int (0 : Int32))])) _
      refine XS.icmpYes X35.here hx rfl (pc0 := 115) (pc' := 126) rfl (hb hby at_115) rfl (flt (by decide : ¬ ((1 : Int32) < (0 : Int32)))).2.2.2 (by decide) (by decide) ?_
      show Steps p.tables e below (T35.setTop (mkF m 126 #[vI p0, vI p1, vI p2, vI p3, vJ q4, .second, vJ q5, .second, vI v1, vI v2, vI v3, vI (0 : Int32), vI v5, vI v6, vI v7, vI v8, vI v9, vR b11, vR b30, .unset] [])) _
      refine XS.iload X35.here hx rfl (hb hby at_126) rfl ?_
      show Steps p.tables e below (T35.setTop (mkF m 128 #[vI p0, vI p1, vI p2, vI p3, vJ q4, .second, vJ q5, .second, vI v1, vI v2, vI v3, vI (0 : Int32), vI v5, vI v6, vI v7, vI v8, vI v9, vR b11, vR b30, .unset] [(.int (0 : Int32))])) _
      refine XS.iconst X35.here hx rfl (hb hby at_128) ?_
      show Steps p.tables e below (T35.setTop (mkF m 129 #[vI p0, vI p1, vI p2, vI p3, vJ q4, .second, vJ q5, .second, vI v1, vI v2, vI v3, vI (0 : Int32), vI v5, vI v6, vI v7, vI v8, vI v9, vR b11, vR b30, .unset] [(.int (2 : Int32)), (.int (0 : Int32))])) _
      refine XS.icmpYes X35.here hx rfl (pc0 := 129) (pc' := 140) rfl (hb hby at_129) rfl (flt (by decide : ¬ ((2 : Int32) < (0 : Int32)))).2.2.2 (by decide) (by decide) ?_
      show Steps p.tables e below (T35.setTop (mkF m 140 #[vI p0, vI p1, vI p2, vI p3, vJ q4, .second, vJ q5, .second, vI v1, vI v2, vI v3, vI (0 : Int32), vI v5, vI v6, vI v7, vI v8, vI v9, vR b11, vR b30, .unset] [])) _
      refine XS.aload X35.here hx rfl (hb hby at_140) rfl rfl ?_
      show Steps p.tables e below (T35.setTop (mkF m 142 #[vI p0, vI p1, vI p2, vI p3, vJ q4, .second, vJ q5, .second, vI v1, vI v2, vI v3, vI (0 : Int32), vI v5, vI v6, vI v7, vI v8, vI v9, vR b11, vR b30, .unset] [(.ref b30)])) _
      refine XS.aload X35.here hx rfl (hb hby at_142) rfl rfl ?_
      show Steps p.tables e below (T35.setTop (mkF m 144 #[vI p0, vI p1, vI p2, vI p3, vJ q4, .second, vJ q5, .second, vI v1, vI v2, vI v3, vI (0 : Int32), vI v5, vI v6, vI v7, vI v8, vI v9, vR b11, vR b30, .unset] [(.ref b11), (.ref b30)])) _
      refine XS.iload X35.here hx rfl (hb hby at_144) rfl ?_
      show Steps p.tables e below (T35.setTop (mkF m 146 #[vI p0, vI p1, vI p2, vI p3, vJ q4, .second, vJ q5, .second, vI v1, vI v2, vI v3, vI (0 : Int32), vI v5, vI v6, vI v7, vI v8, vI v9, vR b11, vR b30, .unset] [(.int v5), (.ref b11), (.ref b30)])) _
      exact k)
    obtain ⟨cq40, kq40, qa40, qb40, qc40⟩ := isOf hZ rfl nf35_0
    obtain ⟨_, _, ⟨T40, qL40, qk40, qn40⟩, -, X40, ⟨Lc40, hQ40, ql40, qy40, qz40⟩, st40⟩ := X35.virtualBack hx (y := (⟨"com/example/motiflow/motiflow/UndoLog", "takeBack", "([II)V"⟩ : MethodName)) (z := (⟨"com/example/motiflow/motiflow/UndoLog", "takeBack", "([II)V"⟩ : MethodName)) hown (mvT hZ (hw _ (List.mem_of_getElem? (i := 14) rfl))) (mvT hZ (hw _ (List.mem_of_getElem? (i := 15) rfl))) (notFace_of_selects (args := #[]) (mvT hZ (hw _ (List.mem_of_getElem? (i := 17) rfl)))) (mvT hZ (hw _ (List.mem_of_getElem? (i := 17) rfl))) (mvT hZ (hw _ (List.mem_of_getElem? (i := 16) rfl))) (by decide) (backOf (W := 0) (rm3_0 l Z A0 hw [] b30 b11 v5 b1_35 b2_35 k1_35 k2_35 kA11 v6 v7 v8 v9 v1 p1 v2 p2 v3 p3 T35.heap n0 zz37 nf35_0 nf35_1 nf35_2 nf35_3 nf35_4 nf35_5 f36_1 (Ne.symm nn35_0_1) (Ne.symm nn35_1_1) ne31 (Ne.symm nn35_0_0) (Ne.symm nn35_1_0) bo30 bo11 hmark) hZ (hw _ (List.mem_of_getElem? (i := 18) rfl)) (hw _ (List.mem_of_getElem? (i := 3) rfl)) (by decide) (by decide)) qa40 qc40 (g := (mkF m 146 #[vI p0, vI p1, vI p2, vI p3, vJ q4, .second, vJ q5, .second, vI v1, vI v2, vI v3, vI (0 : Int32), vI v5, vI v6, vI v7, vI v8, vI v9, vR b11, vR b30, .unset] [(.int v5), (.ref b11), (.ref b30)])) rfl (by rw [hml]; rfl) (Steps.refl _) (argsL := [(.ref b11), (.int v5)]) (rest := []) (lenOf pd_2 rfl) rfl (by show 2 * 0 + _ ≤ _; exact Nat.le_of_eq rfl) (hb hby at_146) (fun _ _ => ⟨rfl, rfl, (by decide : 4 + 0 ≤ _), (by decide : 39 + 0 ≤ _)⟩)
    dsimp only [Pt.U, Pt.locs, Pt.cells, Pt.slots] at X40 ql40 qy40 qz40 st40 hQ40
    subst ql40 qy40 qz40
    obtain ⟨rfl, Nq40, Kq40, nf40_0, nf40_1, nf40_2, nf40_3, nf40_4⟩ := hQ40
    have N40 := Fr.app N35 Nq40
    have pre40 : Go p.tables e below S0 T40 (mkF m 149 #[vI p0, vI p1, vI p2, vI p3, vJ q4, .second, vJ q5, .second, vI v1, vI v2, vI v3, vI (0 : Int32), vI v5, vI v6, vI v7, vI v8, vI v9, vR b11, vR b30, .unset] []) := fun t k => pre39 t (st40.trans k)
    have f41_1 := nf35_4.keep Kq40 (ninS (Ne.symm nn35_0_1) (ninS (Ne.symm nn35_0_0) nin0))
    have f41_2 := nf35_5.keep Kq40 (ninS (Ne.symm nn35_1_1) (ninS (Ne.symm nn35_1_0) nin0))
    have zz42 : n0 ≤ T40.heap.size := Nat.le_trans zz37 Kq40.1
    have pre43 : Go p.tables e below S0 T40 (mkF m 153 #[vI p0, vI p1, vI p2, vI p3, vJ q4, .second, vJ q5, .second, vI v1, vI v2, vI v3, vI (0 : Int32), vI v5, vI v6, vI v7, vI v8, vI v9, vR b11, vR b30, .unset] [(.int v5), (.int (0 : Int32))]) := fun t k => pre40 t (by
      refine XS.iload X40.here hx rfl (hb hby at_149) rfl ?_
      show Steps p.tables e below (T40.setTop (mkF m 151 #[vI p0, vI p1, vI p2, vI p3, vJ q4, .second, vJ q5, .second, vI v1, vI v2, vI v3, vI (0 : Int32), vI v5, vI v6, vI v7, vI v8, vI v9, vR b11, vR b30, .unset] [(.int (0 : Int32))])) _
      refine XS.iload X40.here hx rfl (hb hby at_151) rfl ?_
      show Steps p.tables e below (T40.setTop (mkF m 153 #[vI p0, vI p1, vI p2, vI p3, vJ q4, .second, vJ q5, .second, vI v1, vI v2, vI v3, vI (0 : Int32), vI v5, vI v6, vI v7, vI v8, vI v9, vR b11, vR b30, .unset] [(.int v5), (.int (0 : Int32))])) _
      exact k)
    obtain ⟨_, _, ⟨T44, qL44, qk44, qn44⟩, -, X44, ⟨Lc44, hQ44, ql44, qy44, qz44⟩, st44⟩ := Jvm.LawKit.callS X40 hx (y := (⟨"java/lang/Math", "min", "(II)I"⟩ : MethodName)) hown (mvT hZ (hw _ (List.mem_of_getElem? (i := 21) rfl))) (mvT hZ (hw _ (List.mem_of_getElem? (i := 22) rfl))) (mvT hZ (hw _ (List.mem_of_getElem? (i := 23) rfl))) (mvT hZ (hw _ (List.mem_of_getElem? (i := 24) rfl))) (by decide) (backOf (W := 0) (rm4 l Z A0 hw [] (0 : Int32) v5 T40.heap n0 zz42) hZ (hw _ (List.mem_of_getElem? (i := 24) rfl)) (hw _ (List.mem_of_getElem? (i := 23) rfl)) (by decide) (by decide)) (g := (mkF m 153 #[vI p0, vI p1, vI p2, vI p3, vJ q4, .second, vJ q5, .second, vI v1, vI v2, vI v3, vI (0 : Int32), vI v5, vI v6, vI v7, vI v8, vI v9, vR b11, vR b30, .unset] [(.int v5), (.int (0 : Int32))])) rfl (by rw [hml]; rfl) (argsL := [(.int (0 : Int32)), (.int v5)]) (rest := []) (lenOf pd_3 rfl) rfl (by show 2 * 0 + _ ≤ _; exact Nat.le_of_eq rfl) (hb hby at_153) (fun _ _ => ⟨rfl, rfl, (by decide : 4 + 0 ≤ _), (by decide : 39 + 0 ≤ _)⟩)
    dsimp only [Pt.U, Pt.locs, Pt.cells, Pt.slots] at X44 ql44 qy44 qz44 st44 hQ44
    subst ql44 qy44 qz44
    obtain ⟨rfl, Nq44, eq44⟩ := hQ44
    have N44 := Fr.app N40 Nq44
    have pre44 : Go p.tables e below S0 T44 (mkF m 156 #[vI p0, vI p1, vI p2, vI p3, vJ q4, .second, vJ q5, .second, vI v1, vI v2, vI v3, vI (0 : Int32), vI v5, vI v6, vI v7, vI v8, vI v9, vR b11, vR b30, .unset] [(.int (own_min (0 : Int32) v5))]) := fun t k => pre43 t (st44 t k)
    have pre45 : Go p.tables e below S0 T44 (mkF m 160 #[vI p0, vI p1, vI p2, vI p3, vJ q4, .second, vJ q5, .second, vI v1, vI v2, vI v3, vI (0 : Int32), vI v5, vI v6, vI v7, vI v8, vI v9, vR b11, vR b30, vI (own_min (0 : Int32) v5)] [(.ref b30)]) := fun t k => pre44 t (by
      refine XS.istore X44.here hx rfl (hb hby at_156) rfl (l' := #[vI p0, vI p1, vI p2, vI p3, vJ q4, .second, vJ q5, .second, vI v1, vI v2, vI v3, vI (0 : Int32), vI v5, vI v6, vI v7, vI v8, vI v9, vR b11, vR b30, vI (own_min (0 : Int32) v5)]) rfl ?_
      show Steps p.tables e below (T44.setTop (mkF m 158 #[vI p0, vI p1, vI p2, vI p3, vJ q4, .second, vJ q5, .second, vI v1, vI v2, vI v3, vI (0 : Int32), vI v5, vI v6, vI v7, vI v8, vI v9, vR b11, vR b30, vI (own_min (0 : Int32) v5)] [])) _
      refine XS.aload X44.here hx rfl (hb hby at_158) rfl rfl ?_
      show Steps p.tables e below (T44.setTop (mkF m 160 #[vI p0, vI p1, vI p2, vI p3, vJ q4, .second, vJ q5, .second, vI v1, vI v2, vI v3, vI (0 : Int32), vI v5, vI v6, vI v7, vI v8, vI v9, vR b11, vR b30, vI (own_min (0 : Int32) v5)] [(.ref b30)])) _
      exact k)
    obtain ⟨cq46, kq46, qa46, qb46, qc46⟩ := isOf hZ eq44 nf40_0
    obtain ⟨_, _, ⟨T46, qL46, qk46, qn46⟩, -, X46, ⟨Lc46, hQ46, ql46, qy46, qz46⟩, st46⟩ := X44.virtualBack hx (y := (⟨"com/example/motiflow/motiflow/UndoLog", "size", "()I"⟩ : MethodName)) (z := (⟨"com/example/motiflow/motiflow/UndoLog", "size", "()I"⟩ : MethodName)) hown (mvT hZ (hw _ (List.mem_of_getElem? (i := 25) rfl))) (mvT hZ (hw _ (List.mem_of_getElem? (i := 26) rfl))) (notFace_of_selects (args := #[]) (mvT hZ (hw _ (List.mem_of_getElem? (i := 28) rfl)))) (mvT hZ (hw _ (List.mem_of_getElem? (i := 28) rfl))) (mvT hZ (hw _ (List.mem_of_getElem? (i := 27) rfl))) (by decide) (backOf (W := 0) (rm5 l Z A0 hw [] b30 (own_min (0 : Int32) v5) T40.heap n0 zz42 nf40_3) hZ (hw _ (List.mem_of_getElem? (i := 29) rfl)) (hw _ (List.mem_of_getElem? (i := 3) rfl)) (by decide) (by decide)) qa46 qc46 (g := (mkF m 160 #[vI p0, vI p1, vI p2, vI p3, vJ q4, .second, vJ q5, .second, vI v1, vI v2, vI v3, vI (0 : Int32), vI v5, vI v6, vI v7, vI v8, vI v9, vR b11, vR b30, vI (own_min (0 : Int32) v5)] [(.ref b30)])) rfl (by rw [hml]; rfl) (Steps.refl _) (argsL := []) (rest := []) (lenOf pd_4 rfl) rfl (by show 2 * 0 + _ ≤ _; exact Nat.le_of_eq rfl) (hb hby at_160) (fun _ _ => ⟨rfl, eq44, (by decide : 4 + 0 ≤ _), (by decide : 39 + 0 ≤ _)⟩)
    dsimp only [Pt.U, Pt.locs, Pt.cells, Pt.slots] at X46 ql46 qy46 qz46 st46 hQ46
    subst ql46 qy46 qz46
    obtain ⟨rfl, Nq46, eq46⟩ := hQ46
    have N46 := Fr.app N44 Nq46
    have pre46 : Go p.tables e below S0 T46 (mkF m 163 #[vI p0, vI p1, vI p2, vI p3, vJ q4, .second, vJ q5, .second, vI v1, vI v2, vI v3, vI (0 : Int32), vI v5, vI v6, vI v7, vI v8, vI v9, vR b11, vR b30, vI (own_min (0 : Int32) v5)] [(.int (own_min (0 : Int32) v5))]) := fun t k => pre45 t (st46.trans k)
    have pre47 : Go p.tables e below S0 T46 (mkF m 171 #[vI p0, vI p1, vI p2, vI p3, vJ q4, .second, vJ q5, .second, vI v1, vI v2, vI v3, vI (0 : Int32), vI v5, vI v6, vI v7, vI v8, vI v9, vR b11, vR b30, vI (own_min (0 : Int32) v5)] [(.int (0 : Int32)), (.ref b11)]) := fun t k => pre46 t (by
      refine XS.iload X46.here hx rfl (hb hby at_163) rfl ?_
      show Steps p.tables e below (T46.setTop (mkF m 165 #[vI p0, vI p1, vI p2, vI p3, vJ q4, .second, vJ q5, .second, vI v1, vI v2, vI v3, vI (0 : Int32), vI v5, vI v6, vI v7, vI v8, vI v9, vR b11, vR b30, vI (own_min (0 : Int32) v5)] [(.int (own_min (0 : Int32) v5)), (.int (own_min (0 : Int32) v5))])) _
      refine XS.icmpNo X46.here hx rfl (hb hby at_165) rfl (teq (rfl : (own_min (0 : Int32) v5) = (own_min (0 : Int32) v5))).2 ?_
      show Steps p.tables e below (T46.setTop (mkF m 168 #[vI p0, vI p1, vI p2, vI p3, vJ q4, .second, vJ q5, .second, vI v1, vI v2, vI v3, vI (0 : Int32), vI v5, vI v6, vI v7, vI v8, vI v9, vR b11, vR b30, vI (own_min (0 : Int32) v5)] [])) _
      refine XS.aload X46.here hx rfl (hb hby at_168) rfl rfl ?_
      show Steps p.tables e below (T46.setTop (mkF m 170 #[vI p0, vI p1, vI p2, vI p3, vJ q4, .second, vJ q5, .second, vI v1, vI v2, vI v3, vI (0 : Int32), vI v5, vI v6, vI v7, vI v8, vI v9, vR b11, vR b30, vI (own_min (0 : Int32) v5)] [(.ref b11)])) _
      refine XS.iconst X46.here hx rfl (hb hby at_170) ?_
      show Steps p.tables e below (T46.setTop (mkF m 171 #[vI p0, vI p1, vI p2, vI p3, vJ q4, .second, vJ q5, .second, vI v1, vI v2, vI v3, vI (0 : Int32), vI v5, vI v6, vI v7, vI v8, vI v9, vR b11, vR b30, vI (own_min (0 : Int32) v5)] [(.int (0 : Int32)), (.ref b11)])) _
      exact k)
    obtain ⟨cl48, Ar48, q48, S48, M48, H48, G48⟩ := id nf40_4
    have in48 : ¬ ((0 : Int32) < 0 ∨ cl48.slots.size ≤ ((0 : Int32)).toNatClampNeg) := inb_of S48 ⟨by decide, by decide⟩
    have at48 : cl48.slots[((0 : Int32)).toNatClampNeg]? = some (.int (own_expect (0 : Int32) v6 (0 : Int32) v5 v1 p1 v2 p2 v3 p3)) := H48.at in48 rfl
    have pre49 : Go p.tables e below S0 T46 (mkF m 188 #[vI p0, vI p1, vI p2, vI p3, vJ q4, .second, vJ q5, .second, vI v1, vI v2, vI v3, vI (0 : Int32), vI v5, vI v6, vI v7, vI v8, vI v9, vR b11, vR b30, vI (own_min (0 : Int32) v5)] [(.int p3), (.int v3), (.int p2), (.int v2), (.int p1), (.int v1), (.int v5), (.int (0 : Int32)), (.int v6), (.int (0 : Int32)), (.int (own_expect (0 : Int32) v6 (0 : Int32) v5 v1 p1 v2 p2 v3 p3))]) := fun t k => pre47 t (by
      refine X46.iaload hx (j := (0 : Int32)) (v := (.int (own_expect (0 : Int32) v6 (0 : Int32) v5 v1 p1 v2 p2 v3 p3))) (by rw [eq46]; exact Ar48.1) (State.isArrayOf_alike hZ.alike Ar48.2.1) Ar48.2.2 in48 at48 (g := (mkF m 171 #[vI p0, vI p1, vI p2, vI p3, vJ q4, .second, vJ q5, .second, vI v1, vI v2, vI v3, vI (0 : Int32), vI v5, vI v6, vI v7, vI v8, vI v9, vR b11, vR b30, vI (own_min (0 : Int32) v5)] [(.int (0 : Int32)), (.ref b11)])) rfl rfl (hb hby at_171) _ ?_
      show Steps p.tables e below (T46.setTop (mkF m 172 #[vI p0, vI p1, vI p2, vI p3, vJ q4, .second, vJ q5, .second, vI v1, vI v2, vI v3, vI (0 : Int32), vI v5, vI v6, vI v7, vI v8, vI v9, vR b11, vR b30, vI (own_min (0 : Int32) v5)] [(.int (own_expect (0 : Int32) v6 (0 : Int32) v5 v1 p1 v2 p2 v3 p3))])) _
      refine XS.iconst X46.here hx rfl (hb hby at_172) ?_
      show Steps p.tables e below (T46.setTop (mkF m 173 #[vI p0, vI p1, vI p2, vI p3, vJ q4, .second, vJ q5, .second, vI v1, vI v2, vI v3, vI (0 : Int32), vI v5, vI v6, vI v7, vI v8, vI v9, vR b11, vR b30, vI (own_min (0 : Int32) v5)] [(.int (0 : Int32)), (.int (own_expect (0 : Int32) v6 (0 : Int32) v5 v1 p1 v2 p2 v3 p3))])) _
      refine XS.iload X46.here hx rfl (hb hby at_173) rfl ?_
      show Steps p.tables e below (T46.setTop (mkF m 175 #[vI p0, vI p1, vI p2, vI p3, vJ q4, .second, vJ q5, .second, vI v1, vI v2, vI v3, vI (0 : Int32), vI v5, vI v6, vI v7, vI v8, vI v9, vR b11, vR b30, vI (own_min (0 : Int32) v5)] [(.int v6), (.int (0 : Int32)), (.int (own_expect (0 : Int32) v6 (0 : Int32) v5 v1 p1 v2 p2 v3 p3))])) _
      refine XS.iload X46.here hx rfl (hb hby at_175) rfl ?_
      show Steps p.tables e below (T46.setTop (mkF m 177 #[vI p0, vI p1, vI p2, vI p3, vJ q4, .second, vJ q5, .second, vI v1, vI v2, vI v3, vI (0 : Int32), vI v5, vI v6, vI v7, vI v8, vI v9, vR b11, vR b30, vI (own_min (0 : Int32) v5)] [(.int (0 : Int32)), (.int v6), (.int (0 : Int32)), (.int (own_expect (0 : Int32) v6 (0 : Int32) v5 v1 p1 v2 p2 v3 p3))])) _
      refine XS.iload X46.here hx rfl (hb hby at_177) rfl ?_
      show Steps p.tables e below (T46.setTop (mkF m 179 #[vI p0, vI p1, vI p2, vI p3, vJ q4, .second, vJ q5, .second, vI v1, vI v2, vI v3, vI (0 : Int32), vI v5, vI v6, vI v7, vI v8, vI v9, vR b11, vR b30, vI (own_min (0 : Int32) v5)] [(.int v5), (.int (0 : Int32)), (.int v6), (.int (0 : Int32)), (.int (own_expect (0 : Int32) v6 (0 : Int32) v5 v1 p1 v2 p2 v3 p3))])) _
      refine XS.iload X46.here hx rfl (hb hby at_179) rfl ?_
      show Steps p.tables e below (T46.setTop (mkF m 181 #[vI p0, vI p1, vI p2, vI p3, vJ q4, .second, vJ q5, .second, vI v1, vI v2, vI v3, vI (0 : Int32), vI v5, vI v6, vI v7, vI v8, vI v9, vR b11, vR b30, vI (own_min (0 : Int32) v5)] [(.int v1), (.int v5), (.int (0 : Int32)), (.int v6), (.int (0 : Int32)), (.int (own_expect (0 : Int32) v6 (0 : Int32) v5 v1 p1 v2 p2 v3 p3))])) _
      refine XS.iloadN X46.here hx rfl (hb hby at_181) rfl ?_
      show Steps p.tables e below (T46.setTop (mkF m 182 #[vI p0, vI p1, vI p2, vI p3, vJ q4, .second, vJ q5, .second, vI v1, vI v2, vI v3, vI (0 : Int32), vI v5, vI v6, vI v7, vI v8, vI v9, vR b11, vR b30, vI (own_min (0 : Int32) v5)] [(.int p1), (.int v1), (.int v5), (.int (0 : Int32)), (.int v6), (.int (0 : Int32)), (.int (own_expect (0 : Int32) v6 (0 : Int32) v5 v1 p1 v2 p2 v3 p3))])) _
      refine XS.iload X46.here hx rfl (hb hby at_182) rfl ?_
      show Steps p.tables e below (T46.setTop (mkF m 184 #[vI p0, vI p1, vI p2, vI p3, vJ q4, .second, vJ q5, .second, vI v1, vI v2, vI v3, vI (0 : Int32), vI v5, vI v6, vI v7, vI v8, vI v9, vR b11, vR b30, vI (own_min (0 : Int32) v5)] [(.int v2), (.int p1), (.int v1), (.int v5), (.int (0 : Int32)), (.int v6), (.int (0 : Int32)), (.int (own_expect (0 : Int32) v6 (0 : Int32) v5 v1 p1 v2 p2 v3 p3))])) _
      refine XS.iloadN X46.here hx rfl (hb hby at_184) rfl ?_
      show Steps p.tables e below (T46.setTop (mkF m 185 #[vI p0, vI p1, vI p2, vI p3, vJ q4, .second, vJ q5, .second, vI v1, vI v2, vI v3, vI (0 : Int32), vI v5, vI v6, vI v7, vI v8, vI v9, vR b11, vR b30, vI (own_min (0 : Int32) v5)] [(.int p2), (.int v2), (.int p1), (.int v1), (.int v5), (.int (0 : Int32)), (.int v6), (.int (0 : Int32)), (.int (own_expect (0 : Int32) v6 (0 : Int32) v5 v1 p1 v2 p2 v3 p3))])) _
      refine XS.iload X46.here hx rfl (hb hby at_185) rfl ?_
      show Steps p.tables e below (T46.setTop (mkF m 187 #[vI p0, vI p1, vI p2, vI p3, vJ q4, .second, vJ q5, .second, vI v1, vI v2, vI v3, vI (0 : Int32), vI v5, vI v6, vI v7, vI v8, vI v9, vR b11, vR b30, vI (own_min (0 : Int32) v5)] [(.int v3), (.int p2), (.int v2), (.int p1), (.int v1), (.int v5), (.int (0 : Int32)), (.int v6), (.int (0 : Int32)), (.int (own_expect (0 : Int32) v6 (0 : Int32) v5 v1 p1 v2 p2 v3 p3))])) _
      refine XS.iloadN X46.here hx rfl (hb hby at_187) rfl ?_
      show Steps p.tables e below (T46.setTop (mkF m 188 #[vI p0, vI p1, vI p2, vI p3, vJ q4, .second, vJ q5, .second, vI v1, vI v2, vI v3, vI (0 : Int32), vI v5, vI v6, vI v7, vI v8, vI v9, vR b11, vR b30, vI (own_min (0 : Int32) v5)] [(.int p3), (.int v3), (.int p2), (.int v2), (.int p1), (.int v1), (.int v5), (.int (0 : Int32)), (.int v6), (.int (0 : Int32)), (.int (own_expect (0 : Int32) v6 (0 : Int32) v5 v1 p1 v2 p2 v3 p3))])) _
      exact k)
    obtain ⟨_, _, ⟨T50, qL50, qk50, qn50⟩, -, X50, ⟨Lc50, hQ50, ql50, qy50, qz50⟩, st50⟩ := Jvm.LawKit.callS X46 hx (y := (⟨"com/example/motiflow/motiflow/UndoLogTakeBackPinLaw", "expect", "(IIIIIIIIII)I"⟩ : MethodName)) hown (mvT hZ (hw _ (List.mem_of_getElem? (i := 30) rfl))) (mvT hZ (hw _ (List.mem_of_getElem? (i := 31) rfl))) (mvT hZ (hw _ (List.mem_of_getElem? (i := 32) rfl))) (mvT hZ (hw _ (List.mem_of_getElem? (i := 33) rfl))) (by decide) (backOf (W := 1) (rm6 l Z A0 hw [] (0 : Int32) v6 (0 : Int32) v5 v1 p1 v2 p2 v3 p3 T40.heap n0 zz42) hZ (hw _ (List.mem_of_getElem? (i := 33) rfl)) (hw _ (List.mem_of_getElem? (i := 32) rfl)) (by decide) (by decide)) (g := (mkF m 188 #[vI p0, vI p1, vI p2, vI p3, vJ q4, .second, vJ q5, .second, vI v1, vI v2, vI v3, vI (0 : Int32), vI v5, vI v6, vI v7, vI v8, vI v9, vR b11, vR b30, vI (own_min (0 : Int32) v5)] [(.int p3), (.int v3), (.int p2), (.int v2), (.int p1), (.int v1), (.int v5), (.int (0 : Int32)), (.int v6), (.int (0 : Int32)), (.int (own_expect (0 : Int32) v6 (0 : Int32) v5 v1 p1 v2 p2 v3 p3))])) rfl (by rw [hml]; rfl) (argsL := [(.int (0 : Int32)), (.int v6), (.int (0 : Int32)), (.int v5), (.int v1), (.int p1), (.int v2), (.int p2), (.int v3), (.int p3)]) (rest := [(.int (own_expect (0 : Int32) v6 (0 : Int32) v5 v1 p1 v2 p2 v3 p3))]) (lenOf pd_5 rfl) rfl (by show 2 * 0 + _ ≤ _; exact Nat.le_of_eq rfl) (hb hby at_188) (fun _ _ => ⟨rfl, eq46, (by decide : 4 + 0 ≤ _), (by decide : 39 + 0 ≤ _)⟩)
    dsimp only [Pt.U, Pt.locs, Pt.cells, Pt.slots] at X50 ql50 qy50 qz50 st50 hQ50
    subst ql50 qy50 qz50
    obtain ⟨rfl, Nq50, eq50⟩ := hQ50
    have N50 := Fr.app N46 Nq50
    have pre50 : Go p.tables e below S0 T50 (mkF m 191 #[vI p0, vI p1, vI p2, vI p3, vJ q4, .second, vJ q5, .second, vI v1, vI v2, vI v3, vI (0 : Int32), vI v5, vI v6, vI v7, vI v8, vI v9, vR b11, vR b30, vI (own_min (0 : Int32) v5)] [(.int (own_expect (0 : Int32) v6 (0 : Int32) v5 v1 p1 v2 p2 v3 p3)), (.int (own_expect (0 : Int32) v6 (0 : Int32) v5 v1 p1 v2 p2 v3 p3))]) := fun t k => pre49 t (st50 t k)
    have pre51 : Go p.tables e below S0 T50 (mkF m 197 #[vI p0, vI p1, vI p2, vI p3, vJ q4, .second, vJ q5, .second, vI v1, vI v2, vI v3, vI (0 : Int32), vI v5, vI v6, vI v7, vI v8, vI v9, vR b11, vR b30, vI (own_min (0 : Int32) v5)] [(.int (1 : Int32)), (.ref b11)]) := fun t k => pre50 t (by
      refine XS.icmpNo X50.here hx rfl (hb hby at_191) rfl (teq (rfl : (own_expect (0 : Int32) v6 (0 : Int32) v5 v1 p1 v2 p2 v3 p3) = (own_expect (0 : Int32) v6 (0 : Int32) v5 v1 p1 v2 p2 v3 p3))).2 ?_
      show Steps p.tables e below (T50.setTop (mkF m 194 #[vI p0, vI p1, vI p2, vI p3, vJ q4, .second, vJ q5, .second, vI v1, vI v2, vI v3, vI (0 : Int32), vI v5, vI v6, vI v7, vI v8, vI v9, vR b11, vR b30, vI (own_min (0 : Int32) v5)] [])) _
      refine XS.aload X50.here hx rfl (hb hby at_194) rfl rfl ?_
      show Steps p.tables e below (T50.setTop (mkF m 196 #[vI p0, vI p1, vI p2, vI p3, vJ q4, .second, vJ q5, .second, vI v1, vI v2, vI v3, vI (0 : Int32), vI v5, vI v6, vI v7, vI v8, vI v9, vR b11, vR b30, vI (own_min (0 : Int32) v5)] [(.ref b11)])) _
      refine XS.iconst X50.here hx rfl (hb hby at_196) ?_
      show Steps p.tables e below (T50.setTop (mkF m 197 #[vI p0, vI p1, vI p2, vI p3, vJ q4, .second, vJ q5, .second, vI v1, vI v2, vI v3, vI (0 : Int32), vI v5, vI v6, vI v7, vI v8, vI v9, vR b11, vR b30, vI (own_min (0 : Int32) v5)] [(.int (1 : Int32)), (.ref b11)])) _
      exact k)
    obtain ⟨cl52, Ar52, q52, S52, M52, H52, G52⟩ := id nf40_4
    have in52 : ¬ ((1 : Int32) < 0 ∨ cl52.slots.size ≤ ((1 : Int32)).toNatClampNeg) := inb_of S52 ⟨by decide, by decide⟩
    have at52 : cl52.slots[((1 : Int32)).toNatClampNeg]? = some (.int (own_expect (1 : Int32) v7 (0 : Int32) v5 v1 p1 v2 p2 v3 p3)) := H52.at in52 rfl
    have pre53 : Go p.tables e below S0 T50 (mkF m 214 #[vI p0, vI p1, vI p2, vI p3, vJ q4, .second, vJ q5, .second, vI v1, vI v2, vI v3, vI (0 : Int32), vI v5, vI v6, vI v7, vI v8, vI v9, vR b11, vR b30, vI (own_min (0 : Int32) v5)] [(.int p3), (.int v3), (.int p2), (.int v2), (.int p1), (.int v1), (.int v5), (.int (0 : Int32)), (.int v7), (.int (1 : Int32)), (.int (own_expect (1 : Int32) v7 (0 : Int32) v5 v1 p1 v2 p2 v3 p3))]) := fun t k => pre51 t (by
      refine X50.iaload hx (j := (1 : Int32)) (v := (.int (own_expect (1 : Int32) v7 (0 : Int32) v5 v1 p1 v2 p2 v3 p3))) (by rw [eq50]; exact Ar52.1) (State.isArrayOf_alike hZ.alike Ar52.2.1) Ar52.2.2 in52 at52 (g := (mkF m 197 #[vI p0, vI p1, vI p2, vI p3, vJ q4, .second, vJ q5, .second, vI v1, vI v2, vI v3, vI (0 : Int32), vI v5, vI v6, vI v7, vI v8, vI v9, vR b11, vR b30, vI (own_min (0 : Int32) v5)] [(.int (1 : Int32)), (.ref b11)])) rfl rfl (hb hby at_197) _ ?_
      show Steps p.tables e below (T50.setTop (mkF m 198 #[vI p0, vI p1, vI p2, vI p3, vJ q4, .second, vJ q5, .second, vI v1, vI v2, vI v3, vI (0 : Int32), vI v5, vI v6, vI v7, vI v8, vI v9, vR b11, vR b30, vI (own_min (0 : Int32) v5)] [(.int (own_expect (1 : Int32) v7 (0 : Int32) v5 v1 p1 v2 p2 v3 p3))])) _
      refine XS.iconst X50.here hx rfl (hb hby at_198) ?_
      show Steps p.tables e below (T50.setTop (mkF m 199 #[vI p0, vI p1, vI p2, vI p3, vJ q4, .second, vJ q5, .second, vI v1, vI v2, vI v3, vI (0 : Int32), vI v5, vI v6, vI v7, vI v8, vI v9, vR b11, vR b30, vI (own_min (0 : Int32) v5)] [(.int (1 : Int32)), (.int (own_expect (1 : Int32) v7 (0 : Int32) v5 v1 p1 v2 p2 v3 p3))])) _
      refine XS.iload X50.here hx rfl (hb hby at_199) rfl ?_
      show Steps p.tables e below (T50.setTop (mkF m 201 #[vI p0, vI p1, vI p2, vI p3, vJ q4, .second, vJ q5, .second, vI v1, vI v2, vI v3, vI (0 : Int32), vI v5, vI v6, vI v7, vI v8, vI v9, vR b11, vR b30, vI (own_min (0 : Int32) v5)] [(.int v7), (.int (1 : Int32)), (.int (own_expect (1 : Int32) v7 (0 : Int32) v5 v1 p1 v2 p2 v3 p3))])) _
      refine XS.iload X50.here hx rfl (hb hby at_201) rfl ?_
      show Steps p.tables e below (T50.setTop (mkF m 203 #[vI p0, vI p1, vI p2, vI p3, vJ q4, .second, vJ q5, .second, vI v1, vI v2, vI v3, vI (0 : Int32), vI v5, vI v6, vI v7, vI v8, vI v9, vR b11, vR b30, vI (own_min (0 : Int32) v5)] [(.int (0 : Int32)), (.int v7), (.int (1 : Int32)), (.int (own_expect (1 : Int32) v7 (0 : Int32) v5 v1 p1 v2 p2 v3 p3))])) _
      refine XS.iload X50.here hx rfl (hb hby at_203) rfl ?_
      show Steps p.tables e below (T50.setTop (mkF m 205 #[vI p0, vI p1, vI p2, vI p3, vJ q4, .second, vJ q5, .second, vI v1, vI v2, vI v3, vI (0 : Int32), vI v5, vI v6, vI v7, vI v8, vI v9, vR b11, vR b30, vI (own_min (0 : Int32) v5)] [(.int v5), (.int (0 : Int32)), (.int v7), (.int (1 : Int32)), (.int (own_expect (1 : Int32) v7 (0 : Int32) v5 v1 p1 v2 p2 v3 p3))])) _
      refine XS.iload X50.here hx rfl (hb hby at_205) rfl ?_
      show Steps p.tables e below (T50.setTop (mkF m 207 #[vI p0, vI p1, vI p2, vI p3, vJ q4, .second, vJ q5, .second, vI v1, vI v2, vI v3, vI (0 : Int32), vI v5, vI v6, vI v7, vI v8, vI v9, vR b11, vR b30, vI (own_min (0 : Int32) v5)] [(.int v1), (.int v5), (.int (0 : Int32)), (.int v7), (.int (1 : Int32)), (.int (own_expect (1 : Int32) v7 (0 : Int32) v5 v1 p1 v2 p2 v3 p3))])) _
      refine XS.iloadN X50.here hx rfl (hb hby at_207) rfl ?_
      show Steps p.tables e below (T50.setTop (mkF m 208 #[vI p0, vI p1, vI p2, vI p3, vJ q4, .second, vJ q5, .second, vI v1, vI v2, vI v3, vI (0 : Int32), vI v5, vI v6, vI v7, vI v8, vI v9, vR b11, vR b30, vI (own_min (0 : Int32) v5)] [(.int p1), (.int v1), (.int v5), (.int (0 : Int32)), (.int v7), (.int (1 : Int32)), (.int (own_expect (1 : Int32) v7 (0 : Int32) v5 v1 p1 v2 p2 v3 p3))])) _
      refine XS.iload X50.here hx rfl (hb hby at_208) rfl ?_
      show Steps p.tables e below (T50.setTop (mkF m 210 #[vI p0, vI p1, vI p2, vI p3, vJ q4, .second, vJ q5, .second, vI v1, vI v2, vI v3, vI (0 : Int32), vI v5, vI v6, vI v7, vI v8, vI v9, vR b11, vR b30, vI (own_min (0 : Int32) v5)] [(.int v2), (.int p1), (.int v1), (.int v5), (.int (0 : Int32)), (.int v7), (.int (1 : Int32)), (.int (own_expect (1 : Int32) v7 (0 : Int32) v5 v1 p1 v2 p2 v3 p3))])) _
      refine XS.iloadN X50.here hx rfl (hb hby at_210) rfl ?_
      show Steps p.tables e below (T50.setTop (mkF m 211 #[vI p0, vI p1, vI p2, vI p3, vJ q4, .second, vJ q5, .second, vI v1, vI v2, vI v3, vI (0 : Int32), vI v5, vI v6, vI v7, vI v8, vI v9, vR b11, vR b30, vI (own_min (0 : Int32) v5)] [(.int p2), (.int v2), (.int p1), (.int v1), (.int v5), (.int (0 : Int32)), (.int v7), (.int (1 : Int32)), (.int (own_expect (1 : Int32) v7 (0 : Int32) v5 v1 p1 v2 p2 v3 p3))])) _
      refine XS.iload X50.here hx rfl (hb hby at_211) rfl ?_
      show Steps p.tables e below (T50.setTop (mkF m 213 #[vI p0, vI p1, vI p2, vI p3, vJ q4, .second, vJ q5, .second, vI v1, vI v2, vI v3, vI (0 : Int32), vI v5, vI v6, vI v7, vI v8, vI v9, vR b11, vR b30, vI (own_min (0 : Int32) v5)] [(.int v3), (.int p2), (.int v2), (.int p1), (.int v1), (.int v5), (.int (0 : Int32)), (.int v7), (.int (1 : Int32)), (.int (own_expect (1 : Int32) v7 (0 : Int32) v5 v1 p1 v2 p2 v3 p3))])) _
      refine XS.iloadN X50.here hx rfl (hb hby at_213) rfl ?_
      show Steps p.tables e below (T50.setTop (mkF m 214 #[vI p0, vI p1, vI p2, vI p3, vJ q4, .second, vJ q5, .second, vI v1, vI v2, vI v3, vI (0 : Int32), vI v5, vI v6, vI v7, vI v8, vI v9, vR b11, vR b30, vI (own_min (0 : Int32) v5)] [(.int p3), (.int v3), (.int p2), (.int v2), (.int p1), (.int v1), (.int v5), (.int (0 : Int32)), (.int v7), (.int (1 : Int32)), (.int (own_expect (1 : Int32) v7 (0 : Int32) v5 v1 p1 v2 p2 v3 p3))])) _
      exact k)
    obtain ⟨_, _, ⟨T54, qL54, qk54, qn54⟩, -, X54, ⟨Lc54, hQ54, ql54, qy54, qz54⟩, st54⟩ := Jvm.LawKit.callS X50 hx (y := (⟨"com/example/motiflow/motiflow/UndoLogTakeBackPinLaw", "expect", "(IIIIIIIIII)I"⟩ : MethodName)) hown (mvT hZ (hw _ (List.mem_of_getElem? (i := 30) rfl))) (mvT hZ (hw _ (List.mem_of_getElem? (i := 31) rfl))) (mvT hZ (hw _ (List.mem_of_getElem? (i := 32) rfl))) (mvT hZ (hw _ (List.mem_of_getElem? (i := 33) rfl))) (by decide) (backOf (W := 1) (rm6 l Z A0 hw [] (1 : Int32) v7 (0 : Int32) v5 v1 p1 v2 p2 v3 p3 T40.heap n0 zz42) hZ (hw _ (List.mem_of_getElem? (i := 33) rfl)) (hw _ (List.mem_of_getElem? (i := 32) rfl)) (by decide) (by decide)) (g := (mkF m 214 #[vI p0, vI p1, vI p2, vI p3, vJ q4, .second, vJ q5, .second, vI v1, vI v2, vI v3, vI (0 : Int32), vI v5, vI v6, vI v7, vI v8, vI v9, vR b11, vR b30, vI (own_min (0 : Int32) v5)] [(.int p3), (.int v3), (.int p2), (.int v2), (.int p1), (.int v1), (.int v5), (.int (0 : Int32)), (.int v7), (.int (1 : Int32)), (.int (own_expect (1 : Int32) v7 (0 : Int32) v5 v1 p1 v2 p2 v3 p3))])) rfl (by rw [hml]; rfl) (argsL := [(.int (1 : Int32)), (.int v7), (.int (0 : Int32)), (.int v5), (.int v1), (.int p1), (.int v2), (.int p2), (.int v3), (.int p3)]) (rest := [(.int (own_expect (1 : Int32) v7 (0 : Int32) v5 v1 p1 v2 p2 v3 p3))]) (lenOf pd_5 rfl) rfl (by show 2 * 0 + _ ≤ _; exact Nat.le_of_eq rfl) (hb hby at_214) (fun _ _ => ⟨rfl, eq50, (by decide : 4 + 0 ≤ _), (by decide : 39 + 0 ≤ _)⟩)
    dsimp only [Pt.U, Pt.locs, Pt.cells, Pt.slots] at X54 ql54 qy54 qz54 st54 hQ54
    subst ql54 qy54 qz54
    obtain ⟨rfl, Nq54, eq54⟩ := hQ54
    have N54 := Fr.app N50 Nq54
    have pre54 : Go p.tables e below S0 T54 (mkF m 217 #[vI p0, vI p1, vI p2, vI p3, vJ q4, .second, vJ q5, .second, vI v1, vI v2, vI v3, vI (0 : Int32), vI v5, vI v6, vI v7, vI v8, vI v9, vR b11, vR b30, vI (own_min (0 : Int32) v5)] [(.int (own_expect (1 : Int32) v7 (0 : Int32) v5 v1 p1 v2 p2 v3 p3)), (.int (own_expect (1 : Int32) v7 (0 : Int32) v5 v1 p1 v2 p2 v3 p3))]) := fun t k => pre53 t (st54 t k)
    have pre55 : Go p.tables e below S0 T54 (mkF m 223 #[vI p0, vI p1, vI p2, vI p3, vJ q4, .second, vJ q5, .second, vI v1, vI v2, vI v3, vI (0 : Int32), vI v5, vI v6, vI v7, vI v8, vI v9, vR b11, vR b30, vI (own_min (0 : Int32) v5)] [(.int (2 : Int32)), (.ref b11)]) := fun t k => pre54 t (by
      refine XS.icmpNo X54.here hx rfl (hb hby at_217) rfl (teq (rfl : (own_expect (1 : Int32) v7 (0 : Int32) v5 v1 p1 v2 p2 v3 p3) = (own_expect (1 : Int32) v7 (0 : Int32) v5 v1 p1 v2 p2 v3 p3))).2 ?_
      show Steps p.tables e below (T54.setTop (mkF m 220 #[vI p0, vI p1, vI p2, vI p3, vJ q4, .second, vJ q5, .second, vI v1, vI v2, vI v3, vI (0 : Int32), vI v5, vI v6, vI v7, vI v8, vI v9, vR b11, vR b30, vI (own_min (0 : Int32) v5)] [])) _
      refine XS.aload X54.here hx rfl (hb hby at_220) rfl rfl ?_
      show Steps p.tables e below (T54.setTop (mkF m 222 #[vI p0, vI p1, vI p2, vI p3, vJ q4, .second, vJ q5, .second, vI v1, vI v2, vI v3, vI (0 : Int32), vI v5, vI v6, vI v7, vI v8, vI v9, vR b11, vR b30, vI (own_min (0 : Int32) v5)] [(.ref b11)])) _
      refine XS.iconst X54.here hx rfl (hb hby at_222) ?_
      show Steps p.tables e below (T54.setTop (mkF m 223 #[vI p0, vI p1, vI p2, vI p3, vJ q4, .second, vJ q5, .second, vI v1, vI v2, vI v3, vI (0 : Int32), vI v5, vI v6, vI v7, vI v8, vI v9, vR b11, vR b30, vI (own_min (0 : Int32) v5)] [(.int (2 : Int32)), (.ref b11)])) _
      exact k)
    obtain ⟨cl56, Ar56, q56, S56, M56, H56, G56⟩ := id nf40_4
    have in56 : ¬ ((2 : Int32) < 0 ∨ cl56.slots.size ≤ ((2 : Int32)).toNatClampNeg) := inb_of S56 ⟨by decide, by decide⟩
    have at56 : cl56.slots[((2 : Int32)).toNatClampNeg]? = some (.int (own_expect (2 : Int32) v8 (0 : Int32) v5 v1 p1 v2 p2 v3 p3)) := H56.at in56 rfl
    have pre57 : Go p.tables e below S0 T54 (mkF m 240 #[vI p0, vI p1, vI p2, vI p3, vJ q4, .second, vJ q5, .second, vI v1, vI v2, vI v3, vI (0 : Int32), vI v5, vI v6, vI v7, vI v8, vI v9, vR b11, vR b30, vI (own_min (0 : Int32) v5)] [(.int p3), (.int v3), (.int p2), (.int v2), (.int p1), (.int v1), (.int v5), (.int (0 : Int32)), (.int v8), (.int (2 : Int32)), (.int (own_expect (2 : Int32) v8 (0 : Int32) v5 v1 p1 v2 p2 v3 p3))]) := fun t k => pre55 t (by
      refine X54.iaload hx (j := (2 : Int32)) (v := (.int (own_expect (2 : Int32) v8 (0 : Int32) v5 v1 p1 v2 p2 v3 p3))) (by rw [eq54]; exact Ar56.1) (State.isArrayOf_alike hZ.alike Ar56.2.1) Ar56.2.2 in56 at56 (g := (mkF m 223 #[vI p0, vI p1, vI p2, vI p3, vJ q4, .second, vJ q5, .second, vI v1, vI v2, vI v3, vI (0 : Int32), vI v5, vI v6, vI v7, vI v8, vI v9, vR b11, vR b30, vI (own_min (0 : Int32) v5)] [(.int (2 : Int32)), (.ref b11)])) rfl rfl (hb hby at_223) _ ?_
      show Steps p.tables e below (T54.setTop (mkF m 224 #[vI p0, vI p1, vI p2, vI p3, vJ q4, .second, vJ q5, .second, vI v1, vI v2, vI v3, vI (0 : Int32), vI v5, vI v6, vI v7, vI v8, vI v9, vR b11, vR b30, vI (own_min (0 : Int32) v5)] [(.int (own_expect (2 : Int32) v8 (0 : Int32) v5 v1 p1 v2 p2 v3 p3))])) _
      refine XS.iconst X54.here hx rfl (hb hby at_224) ?_
      show Steps p.tables e below (T54.setTop (mkF m 225 #[vI p0, vI p1, vI p2, vI p3, vJ q4, .second, vJ q5, .second, vI v1, vI v2, vI v3, vI (0 : Int32), vI v5, vI v6, vI v7, vI v8, vI v9, vR b11, vR b30, vI (own_min (0 : Int32) v5)] [(.int (2 : Int32)), (.int (own_expect (2 : Int32) v8 (0 : Int32) v5 v1 p1 v2 p2 v3 p3))])) _
      refine XS.iload X54.here hx rfl (hb hby at_225) rfl ?_
      show Steps p.tables e below (T54.setTop (mkF m 227 #[vI p0, vI p1, vI p2, vI p3, vJ q4, .second, vJ q5, .second, vI v1, vI v2, vI v3, vI (0 : Int32), vI v5, vI v6, vI v7, vI v8, vI v9, vR b11, vR b30, vI (own_min (0 : Int32) v5)] [(.int v8), (.int (2 : Int32)), (.int (own_expect (2 : Int32) v8 (0 : Int32) v5 v1 p1 v2 p2 v3 p3))])) _
      refine XS.iload X54.here hx rfl (hb hby at_227) rfl ?_
      show Steps p.tables e below (T54.setTop (mkF m 229 #[vI p0, vI p1, vI p2, vI p3, vJ q4, .second, vJ q5, .second, vI v1, vI v2, vI v3, vI (0 : Int32), vI v5, vI v6, vI v7, vI v8, vI v9, vR b11, vR b30, vI (own_min (0 : Int32) v5)] [(.int (0 : Int32)), (.int v8), (.int (2 : Int32)), (.int (own_expect (2 : Int32) v8 (0 : Int32) v5 v1 p1 v2 p2 v3 p3))])) _
      refine XS.iload X54.here hx rfl (hb hby at_229) rfl ?_
      show Steps p.tables e below (T54.setTop (mkF m 231 #[vI p0, vI p1, vI p2, vI p3, vJ q4, .second, vJ q5, .second, vI v1, vI v2, vI v3, vI (0 : Int32), vI v5, vI v6, vI v7, vI v8, vI v9, vR b11, vR b30, vI (own_min (0 : Int32) v5)] [(.int v5), (.int (0 : Int32)), (.int v8), (.int (2 : Int32)), (.int (own_expect (2 : Int32) v8 (0 : Int32) v5 v1 p1 v2 p2 v3 p3))])) _
      refine XS.iload X54.here hx rfl (hb hby at_231) rfl ?_
      show Steps p.tables e below (T54.setTop (mkF m 233 #[vI p0, vI p1, vI p2, vI p3, vJ q4, .second, vJ q5, .second, vI v1, vI v2, vI v3, vI (0 : Int32), vI v5, vI v6, vI v7, vI v8, vI v9, vR b11, vR b30, vI (own_min (0 : Int32) v5)] [(.int v1), (.int v5), (.int (0 : Int32)), (.int v8), (.int (2 : Int32)), (.int (own_expect (2 : Int32) v8 (0 : Int32) v5 v1 p1 v2 p2 v3 p3))])) _
      refine XS.iloadN X54.here hx rfl (hb hby at_233) rfl ?_
      show Steps p.tables e below (T54.setTop (mkF m 234 #[vI p0, vI p1, vI p2, vI p3, vJ q4, .second, vJ q5, .second, vI v1, vI v2, vI v3, vI (0 : Int32), vI v5, vI v6, vI v7, vI v8, vI v9, vR b11, vR b30, vI (own_min (0 : Int32) v5)] [(.int p1), (.int v1), (.int v5), (.int (0 : Int32)), (.int v8), (.int (2 : Int32)), (.int (own_expect (2 : Int32) v8 (0 : Int32) v5 v1 p1 v2 p2 v3 p3))])) _
      refine XS.iload X54.here hx rfl (hb hby at_234) rfl ?_
      show Steps p.tables e below (T54.setTop (mkF m 236 #[vI p0, vI p1, vI p2, vI p3, vJ q4, .second, vJ q5, .second, vI v1, vI v2, vI v3, vI (0 : Int32), vI v5, vI v6, vI v7, vI v8, vI v9, vR b11, vR b30, vI (own_min (0 : Int32) v5)] [(.int v2), (.int p1), (.int v1), (.int v5), (.int (0 : Int32)), (.int v8), (.int (2 : Int32)), (.int (own_expect (2 : Int32) v8 (0 : Int32) v5 v1 p1 v2 p2 v3 p3))])) _
      refine XS.iloadN X54.here hx rfl (hb hby at_236) rfl ?_
      show Steps p.tables e below (T54.setTop (mkF m 237 #[vI p0, vI p1, vI p2, vI p3, vJ q4, .second, vJ q5, .second, vI v1, vI v2, vI v3, vI (0 : Int32), vI v5, vI v6, vI v7, vI v8, vI v9, vR b11, vR b30, vI (own_min (0 : Int32) v5)] [(.int p2), (.int v2), (.int p1), (.int v1), (.int v5), (.int (0 : Int32)), (.int v8), (.int (2 : Int32)), (.int (own_expect (2 : Int32) v8 (0 : Int32) v5 v1 p1 v2 p2 v3 p3))])) _
      refine XS.iload X54.here hx rfl (hb hby at_237) rfl ?_
      show Steps p.tables e below (T54.setTop (mkF m 239 #[vI p0, vI p1, vI p2, vI p3, vJ q4, .second, vJ q5, .second, vI v1, vI v2, vI v3, vI (0 : Int32), vI v5, vI v6, vI v7, vI v8, vI v9, vR b11, vR b30, vI (own_min (0 : Int32) v5)] [(.int v3), (.int p2), (.int v2), (.int p1), (.int v1), (.int v5), (.int (0 : Int32)), (.int v8), (.int (2 : Int32)), (.int (own_expect (2 : Int32) v8 (0 : Int32) v5 v1 p1 v2 p2 v3 p3))])) _
      refine XS.iloadN X54.here hx rfl (hb hby at_239) rfl ?_
      show Steps p.tables e below (T54.setTop (mkF m 240 #[vI p0, vI p1, vI p2, vI p3, vJ q4, .second, vJ q5, .second, vI v1, vI v2, vI v3, vI (0 : Int32), vI v5, vI v6, vI v7, vI v8, vI v9, vR b11, vR b30, vI (own_min (0 : Int32) v5)] [(.int p3), (.int v3), (.int p2), (.int v2), (.int p1), (.int v1), (.int v5), (.int (0 : Int32)), (.int v8), (.int (2 : Int32)), (.int (own_expect (2 : Int32) v8 (0 : Int32) v5 v1 p1 v2 p2 v3 p3))])) _
      exact k)
    obtain ⟨_, _, ⟨T58, qL58, qk58, qn58⟩, -, X58, ⟨Lc58, hQ58, ql58, qy58, qz58⟩, st58⟩ := Jvm.LawKit.callS X54 hx (y := (⟨"com/example/motiflow/motiflow/UndoLogTakeBackPinLaw", "expect", "(IIIIIIIIII)I"⟩ : MethodName)) hown (mvT hZ (hw _ (List.mem_of_getElem? (i := 30) rfl))) (mvT hZ (hw _ (List.mem_of_getElem? (i := 31) rfl))) (mvT hZ (hw _ (List.mem_of_getElem? (i := 32) rfl))) (mvT hZ (hw _ (List.mem_of_getElem? (i := 33) rfl))) (by decide) (backOf (W := 1) (rm6 l Z A0 hw [] (2 : Int32) v8 (0 : Int32) v5 v1 p1 v2 p2 v3 p3 T40.heap n0 zz42) hZ (hw _ (List.mem_of_getElem? (i := 33) rfl)) (hw _ (List.mem_of_getElem? (i := 32) rfl)) (by decide) (by decide)) (g := (mkF m 240 #[vI p0, vI p1, vI p2, vI p3, vJ q4, .second, vJ q5, .second, vI v1, vI v2, vI v3, vI (0 : Int32), vI v5, vI v6, vI v7, vI v8, vI v9, vR b11, vR b30, vI (own_min (0 : Int32) v5)] [(.int p3), (.int v3), (.int p2), (.int v2), (.int p1), (.int v1), (.int v5), (.int (0 : Int32)), (.int v8), (.int (2 : Int32)), (.int (own_expect (2 : Int32) v8 (0 : Int32) v5 v1 p1 v2 p2 v3 p3))])) rfl (by rw [hml]; rfl) (argsL := [(.int (2 : Int32)), (.int v8), (.int (0 : Int32)), (.int v5), (.int v1), (.int p1), (.int v2), (.int p2), (.int v3), (.int p3)]) (rest := [(.int (own_expect (2 : Int32) v8 (0 : Int32) v5 v1 p1 v2 p2 v3 p3))]) (lenOf pd_5 rfl) rfl (by show 2 * 0 + _ ≤ _; exact Nat.le_of_eq rfl) (hb hby at_240) (fun _ _ => ⟨rfl, eq54, (by decide : 4 + 0 ≤ _), (by decide : 39 + 0 ≤ _)⟩)
    dsimp only [Pt.U, Pt.locs, Pt.cells, Pt.slots] at X58 ql58 qy58 qz58 st58 hQ58
    subst ql58 qy58 qz58
    obtain ⟨rfl, Nq58, eq58⟩ := hQ58
    have N58 := Fr.app N54 Nq58
    have pre58 : Go p.tables e below S0 T58 (mkF m 243 #[vI p0, vI p1, vI p2, vI p3, vJ q4, .second, vJ q5, .second, vI v1, vI v2, vI v3, vI (0 : Int32), vI v5, vI v6, vI v7, vI v8, vI v9, vR b11, vR b30, vI (own_min (0 : Int32) v5)] [(.int (own_expect (2 : Int32) v8 (0 : Int32) v5 v1 p1 v2 p2 v3 p3)), (.int (own_expect (2 : Int32) v8 (0 : Int32) v5 v1 p1 v2 p2 v3 p3))]) := fun t k => pre57 t (st58 t k)
    have pre59 : Go p.tables e below S0 T58 (mkF m 249 #[vI p0, vI p1, vI p2, vI p3, vJ q4, .second, vJ q5, .second, vI v1, vI v2, vI v3, vI (0 : Int32), vI v5, vI v6, vI v7, vI v8, vI v9, vR b11, vR b30, vI (own_min (0 : Int32) v5)] [(.int (3 : Int32)), (.ref b11)]) := fun t k => pre58 t (by
      refine XS.icmpNo X58.here hx rfl (hb hby at_243) rfl (teq (rfl : (own_expect (2 : Int32) v8 (0 : Int32) v5 v1 p1 v2 p2 v3 p3) = (own_expect (2 : Int32) v8 (0 : Int32) v5 v1 p1 v2 p2 v3 p3))).2 ?_
      show Steps p.tables e below (T58.setTop (mkF m 246 #[vI p0, vI p1, vI p2, vI p3, vJ q4, .second, vJ q5, .second, vI v1, vI v2, vI v3, vI (0 : Int32), vI v5, vI v6, vI v7, vI v8, vI v9, vR b11, vR b30, vI (own_min (0 : Int32) v5)] [])) _
      refine XS.aload X58.here hx rfl (hb hby at_246) rfl rfl ?_
      show Steps p.tables e below (T58.setTop (mkF m 248 #[vI p0, vI p1, vI p2, vI p3, vJ q4, .second, vJ q5, .second, vI v1, vI v2, vI v3, vI (0 : Int32), vI v5, vI v6, vI v7, vI v8, vI v9, vR b11, vR b30, vI (own_min (0 : Int32) v5)] [(.ref b11)])) _
      refine XS.iconst X58.here hx rfl (hb hby at_248) ?_
      show Steps p.tables e below (T58.setTop (mkF m 249 #[vI p0, vI p1, vI p2, vI p3, vJ q4, .second, vJ q5, .second, vI v1, vI v2, vI v3, vI (0 : Int32), vI v5, vI v6, vI v7, vI v8, vI v9, vR b11, vR b30, vI (own_min (0 : Int32) v5)] [(.int (3 : Int32)), (.ref b11)])) _
      exact k)
    obtain ⟨cl60, Ar60, q60, S60, M60, H60, G60⟩ := id nf40_4
    have in60 : ¬ ((3 : Int32) < 0 ∨ cl60.slots.size ≤ ((3 : Int32)).toNatClampNeg) := inb_of S60 ⟨by decide, by decide⟩
    have at60 : cl60.slots[((3 : Int32)).toNatClampNeg]? = some (.int (own_expect (3 : Int32) v9 (0 : Int32) v5 v1 p1 v2 p2 v3 p3)) := H60.at in60 rfl
    have pre61 : Go p.tables e below S0 T58 (mkF m 266 #[vI p0, vI p1, vI p2, vI p3, vJ q4, .second, vJ q5, .second, vI v1, vI v2, vI v3, vI (0 : Int32), vI v5, vI v6, vI v7, vI v8, vI v9, vR b11, vR b30, vI (own_min (0 : Int32) v5)] [(.int p3), (.int v3), (.int p2), (.int v2), (.int p1), (.int v1), (.int v5), (.int (0 : Int32)), (.int v9), (.int (3 : Int32)), (.int (own_expect (3 : Int32) v9 (0 : Int32) v5 v1 p1 v2 p2 v3 p3))]) := fun t k => pre59 t (by
      refine X58.iaload hx (j := (3 : Int32)) (v := (.int (own_expect (3 : Int32) v9 (0 : Int32) v5 v1 p1 v2 p2 v3 p3))) (by rw [eq58]; exact Ar60.1) (State.isArrayOf_alike hZ.alike Ar60.2.1) Ar60.2.2 in60 at60 (g := (mkF m 249 #[vI p0, vI p1, vI p2, vI p3, vJ q4, .second, vJ q5, .second, vI v1, vI v2, vI v3, vI (0 : Int32), vI v5, vI v6, vI v7, vI v8, vI v9, vR b11, vR b30, vI (own_min (0 : Int32) v5)] [(.int (3 : Int32)), (.ref b11)])) rfl rfl (hb hby at_249) _ ?_
      show Steps p.tables e below (T58.setTop (mkF m 250 #[vI p0, vI p1, vI p2, vI p3, vJ q4, .second, vJ q5, .second, vI v1, vI v2, vI v3, vI (0 : Int32), vI v5, vI v6, vI v7, vI v8, vI v9, vR b11, vR b30, vI (own_min (0 : Int32) v5)] [(.int (own_expect (3 : Int32) v9 (0 : Int32) v5 v1 p1 v2 p2 v3 p3))])) _
      refine XS.iconst X58.here hx rfl (hb hby at_250) ?_
      show Steps p.tables e below (T58.setTop (mkF m 251 #[vI p0, vI p1, vI p2, vI p3, vJ q4, .second, vJ q5, .second, vI v1, vI v2, vI v3, vI (0 : Int32), vI v5, vI v6, vI v7, vI v8, vI v9, vR b11, vR b30, vI (own_min (0 : Int32) v5)] [(.int (3 : Int32)), (.int (own_expect (3 : Int32) v9 (0 : Int32) v5 v1 p1 v2 p2 v3 p3))])) _
      refine XS.iload X58.here hx rfl (hb hby at_251) rfl ?_
      show Steps p.tables e below (T58.setTop (mkF m 253 #[vI p0, vI p1, vI p2, vI p3, vJ q4, .second, vJ q5, .second, vI v1, vI v2, vI v3, vI (0 : Int32), vI v5, vI v6, vI v7, vI v8, vI v9, vR b11, vR b30, vI (own_min (0 : Int32) v5)] [(.int v9), (.int (3 : Int32)), (.int (own_expect (3 : Int32) v9 (0 : Int32) v5 v1 p1 v2 p2 v3 p3))])) _
      refine XS.iload X58.here hx rfl (hb hby at_253) rfl ?_
      show Steps p.tables e below (T58.setTop (mkF m 255 #[vI p0, vI p1, vI p2, vI p3, vJ q4, .second, vJ q5, .second, vI v1, vI v2, vI v3, vI (0 : Int32), vI v5, vI v6, vI v7, vI v8, vI v9, vR b11, vR b30, vI (own_min (0 : Int32) v5)] [(.int (0 : Int32)), (.int v9), (.int (3 : Int32)), (.int (own_expect (3 : Int32) v9 (0 : Int32) v5 v1 p1 v2 p2 v3 p3))])) _
      refine XS.iload X58.here hx rfl (hb hby at_255) rfl ?_
      show Steps p.tables e below (T58.setTop (mkF m 257 #[vI p0, vI p1, vI p2, vI p3, vJ q4, .second, vJ q5, .second, vI v1, vI v2, vI v3, vI (0 : Int32), vI v5, vI v6, vI v7, vI v8, vI v9, vR b11, vR b30, vI (own_min (0 : Int32) v5)] [(.int v5), (.int (0 : Int32)), (.int v9), (.int (3 : Int32)), (.int (own_expect (3 : Int32) v9 (0 : Int32) v5 v1 p1 v2 p2 v3 p3))])) _
      refine XS.iload X58.here hx rfl (hb hby at_257) rfl ?_
      show Steps p.tables e below (T58.setTop (mkF m 259 #[vI p0, vI p1, vI p2, vI p3, vJ q4, .second, vJ q5, .second, vI v1, vI v2, vI v3, vI (0 : Int32), vI v5, vI v6, vI v7, vI v8, vI v9, vR b11, vR b30, vI (own_min (0 : Int32) v5)] [(.int v1), (.int v5), (.int (0 : Int32)), (.int v9), (.int (3 : Int32)), (.int (own_expect (3 : Int32) v9 (0 : Int32) v5 v1 p1 v2 p2 v3 p3))])) _
      refine XS.iloadN X58.here hx rfl (hb hby at_259) rfl ?_
      show Steps p.tables e below (T58.setTop (mkF m 260 #[vI p0, vI p1, vI p2, vI p3, vJ q4, .second, vJ q5, .second, vI v1, vI v2, vI v3, vI (0 : Int32), vI v5, vI v6, vI v7, vI v8, vI v9, vR b11, vR b30, vI (own_min (0 : Int32) v5)] [(.int p1), (.int v1), (.int v5), (.int (0 : Int32)), (.int v9), (.int (3 : Int32)), (.int (own_expect (3 : Int32) v9 (0 : Int32) v5 v1 p1 v2 p2 v3 p3))])) _
      refine XS.iload X58.here hx rfl (hb hby at_260) rfl ?_
      show Steps p.tables e below (T58.setTop (mkF m 262 #[vI p0, vI p1, vI p2, vI p3, vJ q4, .second, vJ q5, .second, vI v1, vI v2, vI v3, vI (0 : Int32), vI v5, vI v6, vI v7, vI v8, vI v9, vR b11, vR b30, vI (own_min (0 : Int32) v5)] [(.int v2), (.int p1), (.int v1), (.int v5), (.int (0 : Int32)), (.int v9), (.int (3 : Int32)), (.int (own_expect (3 : Int32) v9 (0 : Int32) v5 v1 p1 v2 p2 v3 p3))])) _
      refine XS.iloadN X58.here hx rfl (hb hby at_262) rfl ?_
      show Steps p.tables e below (T58.setTop (mkF m 263 #[vI p0, vI p1, vI p2, vI p3, vJ q4, .second, vJ q5, .second, vI v1, vI v2, vI v3, vI (0 : Int32), vI v5, vI v6, vI v7, vI v8, vI v9, vR b11, vR b30, vI (own_min (0 : Int32) v5)] [(.int p2), (.int v2), (.int p1), (.int v1), (.int v5), (.int (0 : Int32)), (.int v9), (.int (3 : Int32)), (.int (own_expect (3 : Int32) v9 (0 : Int32) v5 v1 p1 v2 p2 v3 p3))])) _
      refine XS.iload X58.here hx rfl (hb hby at_263) rfl ?_
      show Steps p.tables e below (T58.setTop (mkF m 265 #[vI p0, vI p1, vI p2, vI p3, vJ q4, .second, vJ q5, .second, vI v1, vI v2, vI v3, vI (0 : Int32), vI v5, vI v6, vI v7, vI v8, vI v9, vR b11, vR b30, vI (own_min (0 : Int32) v5)] [(.int v3), (.int p2), (.int v2), (.int p1), (.int v1), (.int v5), (.int (0 : Int32)), (.int v9), (.int (3 : Int32)), (.int (own_expect (3 : Int32) v9 (0 : Int32) v5 v1 p1 v2 p2 v3 p3))])) _
      refine XS.iloadN X58.here hx rfl (hb hby at_265) rfl ?_
      show Steps p.tables e below (T58.setTop (mkF m 266 #[vI p0, vI p1, vI p2, vI p3, vJ q4, .second, vJ q5, .second, vI v1, vI v2, vI v3, vI (0 : Int32), vI v5, vI v6, vI v7, vI v8, vI v9, vR b11, vR b30, vI (own_min (0 : Int32) v5)] [(.int p3), (.int v3), (.int p2), (.int v2), (.int p1), (.int v1), (.int v5), (.int (0 : Int32)), (.int v9), (.int (3 : Int32)), (.int (own_expect (3 : Int32) v9 (0 : Int32) v5 v1 p1 v2 p2 v3 p3))])) _
      exact k)
    obtain ⟨_, _, ⟨T62, qL62, qk62, qn62⟩, -, X62, ⟨Lc62, hQ62, ql62, qy62, qz62⟩, st62⟩ := Jvm.LawKit.callS X58 hx (y := (⟨"com/example/motiflow/motiflow/UndoLogTakeBackPinLaw", "expect", "(IIIIIIIIII)I"⟩ : MethodName)) hown (mvT hZ (hw _ (List.mem_of_getElem? (i := 30) rfl))) (mvT hZ (hw _ (List.mem_of_getElem? (i := 31) rfl))) (mvT hZ (hw _ (List.mem_of_getElem? (i := 32) rfl))) (mvT hZ (hw _ (List.mem_of_getElem? (i := 33) rfl))) (by decide) (backOf (W := 1) (rm6 l Z A0 hw [] (3 : Int32) v9 (0 : Int32) v5 v1 p1 v2 p2 v3 p3 T40.heap n0 zz42) hZ (hw _ (List.mem_of_getElem? (i := 33) rfl)) (hw _ (List.mem_of_getElem? (i := 32) rfl)) (by decide) (by decide)) (g := (mkF m 266 #[vI p0, vI p1, vI p2, vI p3, vJ q4, .second, vJ q5, .second, vI v1, vI v2, vI v3, vI (0 : Int32), vI v5, vI v6, vI v7, vI v8, vI v9, vR b11, vR b30, vI (own_min (0 : Int32) v5)] [(.int p3), (.int v3), (.int p2), (.int v2), (.int p1), (.int v1), (.int v5), (.int (0 : Int32)), (.int v9), (.int (3 : Int32)), (.int (own_expect (3 : Int32) v9 (0 : Int32) v5 v1 p1 v2 p2 v3 p3))])) rfl (by rw [hml]; rfl) (argsL := [(.int (3 : Int32)), (.int v9), (.int (0 : Int32)), (.int v5), (.int v1), (.int p1), (.int v2), (.int p2), (.int v3), (.int p3)]) (rest := [(.int (own_expect (3 : Int32) v9 (0 : Int32) v5 v1 p1 v2 p2 v3 p3))]) (lenOf pd_5 rfl) rfl (by show 2 * 0 + _ ≤ _; exact Nat.le_of_eq rfl) (hb hby at_266) (fun _ _ => ⟨rfl, eq58, (by decide : 4 + 0 ≤ _), (by decide : 39 + 0 ≤ _)⟩)
    dsimp only [Pt.U, Pt.locs, Pt.cells, Pt.slots] at X62 ql62 qy62 qz62 st62 hQ62
    subst ql62 qy62 qz62
    obtain ⟨rfl, Nq62, eq62⟩ := hQ62
    have N62 := Fr.app N58 Nq62
    have pre62 : Go p.tables e below S0 T62 (mkF m 269 #[vI p0, vI p1, vI p2, vI p3, vJ q4, .second, vJ q5, .second, vI v1, vI v2, vI v3, vI (0 : Int32), vI v5, vI v6, vI v7, vI v8, vI v9, vR b11, vR b30, vI (own_min (0 : Int32) v5)] [(.int (own_expect (3 : Int32) v9 (0 : Int32) v5 v1 p1 v2 p2 v3 p3)), (.int (own_expect (3 : Int32) v9 (0 : Int32) v5 v1 p1 v2 p2 v3 p3))]) := fun t k => pre61 t (st62 t k)
    have pre63 : Go p.tables e below S0 T62 (mkF m 277 #[vI p0, vI p1, vI p2, vI p3, vJ q4, .second, vJ q5, .second, vI v1, vI v2, vI v3, vI (0 : Int32), vI v5, vI v6, vI v7, vI v8, vI v9, vR b11, vR b30, vI (own_min (0 : Int32) v5)] [(.int (1 : Int32))]) := fun t k => pre62 t (by
      refine XS.icmpNo X62.here hx rfl (hb hby at_269) rfl (teq (rfl : (own_expect (3 : Int32) v9 (0 : Int32) v5 v1 p1 v2 p2 v3 p3) = (own_expect (3 : Int32) v9 (0 : Int32) v5 v1 p1 v2 p2 v3 p3))).2 ?_
      show Steps p.tables e below (T62.setTop (mkF m 272 #[vI p0, vI p1, vI p2, vI p3, vJ q4, .second, vJ q5, .second, vI v1, vI v2, vI v3, vI (0 : Int32), vI v5, vI v6, vI v7, vI v8, vI v9, vR b11, vR b30, vI (own_min (0 : Int32) v5)] [])) _
      refine XS.iconst X62.here hx rfl (hb hby at_272) ?_
      show Steps p.tables e below (T62.setTop (mkF m 273 #[vI p0, vI p1, vI p2, vI p3, vJ q4, .second, vJ q5, .second, vI v1, vI v2, vI v3, vI (0 : Int32), vI v5, vI v6, vI v7, vI v8, vI v9, vR b11, vR b30, vI (own_min (0 : Int32) v5)] [(.int (1 : Int32))])) _
      refine XS.goto X62.here hx rfl (pc0 := 273) (pc' := 277) rfl (hb hby at_273) (by decide) (by decide) ?_
      show Steps p.tables e below (T62.setTop (mkF m 277 #[vI p0, vI p1, vI p2, vI p3, vJ q4, .second, vJ q5, .second, vI v1, vI v2, vI v3, vI (0 : Int32), vI v5, vI v6, vI v7, vI v8, vI v9, vR b11, vR b30, vI (own_min (0 : Int32) v5)] [(.int (1 : Int32))])) _
      exact k)
    obtain ⟨fs, hr, hrun, hended, hW, hsame⟩ := X62.leave (v := some (.int (1 : Int32))) (fun h => by rw [Bd.returns] at h; cases h)
    exact ⟨_, _, pre63.fin hS0 (retN X62 hx (t := .boolean) Bd.returns (by simp) (hb hby at_277) hr), hrun, hended, _, _, rfl, (by
      show Q0 Z p0 p1 p2 p3 q4 q5 h0 n0 _ T62.heap _
      rw [eq62]
      exact ⟨rfl, N62⟩), ⟨_, rfl⟩, hW, hsame.mono (by decide) (by decide)⟩
  · skip
    have pre64 : Go p.tables e below S0 T35 (mkF m 109 #[vI p0, vI p1, vI p2, vI p3, vJ q4, .second, vJ q5, .second, vI v1, vI v2, vI v3, vI (1 : Int32), vI v5, vI v6, vI v7, vI v8, vI v9, vR b11, vR b30, .unset] [(.int p1), (.int v1), (.ref b30)]) := fun t k => pre38 t (by
      refine XS.iload X35.here hx rfl (hb hby at_99) rfl ?_
      show Steps p.tables e below (T35.setTop (mkF m 101 #[vI p0, vI p1, vI p2, vI p3, vJ q4, .second, vJ q5, .second, vI v1, vI v2, vI v3, vI (1 : Int32), vI v5, vI v6, vI v7, vI v8, vI v9, vR b11, vR b30, .unset] [(.int (1 : Int32))])) _
      refine XS.ifNo X35.here hx rfl (hb hby at_101) rfl ((if0 _ _).trans (tlt (by decide : (0 : Int32) < (1 : Int32))).2.2.2) ?_
      show Steps p.tables e below (T35.setTop (mkF m 104 #[vI p0, vI p1, vI p2, vI p3, vJ q4, .second, vJ q5, .second, vI v1, vI v2, vI v3, vI (1 : Int32), vI v5, vI v6, vI v7, vI v8, vI v9, vR b11, vR b30, .unset] [])) _
      refine XS.aload X35.here hx rfl (hb hby at_104) rfl rfl ?_
      show Steps p.tables e below (T35.setTop (mkF m 106 #[vI p0, vI p1, vI p2, vI p3, vJ q4, .second, vJ q5, .second, vI v1, vI v2, vI v3, vI (1 : Int32), vI v5, vI v6, vI v7, vI v8, vI v9, vR b11, vR b30, .unset] [(.ref b30)])) _
      refine XS.iload X35.here hx rfl (hb hby at_106) rfl ?_
      show Steps p.tables e below (T35.setTop (mkF m 108 #[vI p0, vI p1, vI p2, vI p3, vJ q4, .second, vJ q5, .second, vI v1, vI v2, vI v3, vI (1 : Int32), vI v5, vI v6, vI v7, vI v8, vI v9, vR b11, vR b30, .unset] [(.int v1), (.ref b30)])) _
      refine XS.iloadN X35.here hx rfl (hb hby at_108) rfl ?_
      show Steps p.tables e below (T35.setTop (mkF m 109 #[vI p0, vI p1, vI p2, vI p3, vJ q4, .second, vJ q5, .second, vI v1, vI v2, vI v3, vI (1 : Int32), vI v5, vI v6, vI v7, vI v8, vI v9, vR b11, vR b30, .unset] [(.int p1), (.int v1), (.ref b30)])) _
      exact k)
    obtain ⟨cq65, kq65, qa65, qb65, qc65⟩ := isOf hZ rfl nf35_0
    obtain ⟨_, _, ⟨T65, qL65, qk65, qn65⟩, -, X65, ⟨Lc65, hQ65, ql65, qy65, qz65⟩, st65⟩ := X35.virtualBack hx (y := (⟨"com/example/motiflow/motiflow/UndoLog", "record", "(II)V"⟩ : MethodName)) (z := (⟨"com/example/motiflow/motiflow/UndoLog", "record", "(II)V"⟩ : MethodName)) hown (mvT hZ (hw _ (List.mem_of_getElem? (i := 34) rfl))) (mvT hZ (hw _ (List.mem_of_getElem? (i := 35) rfl))) (notFace_of_selects (args := #[]) (mvT hZ (hw _ (List.mem_of_getElem? (i := 37) rfl)))) (mvT hZ (hw _ (List.mem_of_getElem? (i := 37) rfl))) (mvT hZ (hw _ (List.mem_of_getElem? (i := 36) rfl))) (by decide) (backOf (W := 0) (rm7_0 l Z A0 hw [] b30 v1 p1 b1_35 b2_35 k1_35 k2_35 T35.heap n0 zz37 nf35_0 nf35_1 nf35_2 nf35_3 nf35_4 nf35_5 (Ne.symm nn35_0_1) (Ne.symm nn35_1_1) hq35.2.2 bo30 bo35_0 bo35_1) hZ (hw _ (List.mem_of_getElem? (i := 38) rfl)) (hw _ (List.mem_of_getElem? (i := 3) rfl)) (by decide) (by decide)) qa65 qc65 (g := (mkF m 109 #[vI p0, vI p1, vI p2, vI p3, vJ q4, .second, vJ q5, .second, vI v1, vI v2, vI v3, vI (1 : Int32), vI v5, vI v6, vI v7, vI v8, vI v9, vR b11, vR b30, .unset] [(.int p1), (.int v1), (.ref b30)])) rfl (by rw [hml]; rfl) (Steps.refl _) (argsL := [(.int v1), (.int p1)]) (rest := []) (lenOf pd_6 rfl) rfl (by show 2 * 0 + _ ≤ _; exact Nat.le_of_eq rfl) (hb hby at_109) (fun _ _ => ⟨rfl, rfl, (by decide : 4 + 0 ≤ _), (by decide : 39 + 0 ≤ _)⟩)
    dsimp only [Pt.U, Pt.locs, Pt.cells, Pt.slots] at X65 ql65 qy65 qz65 st65 hQ65
    subst ql65 qy65 qz65
    obtain ⟨rfl, Nq65, Kq65, nf65_0, nf65_1, nf65_2, nf65_3, nf65_4, nf65_5⟩ := hQ65
    have N65 := Fr.app N35 Nq65
    have pre65 : Go p.tables e below S0 T65 (mkF m 112 #[vI p0, vI p1, vI p2, vI p3, vJ q4, .second, vJ q5, .second, vI v1, vI v2, vI v3, vI (1 : Int32), vI v5, vI v6, vI v7, vI v8, vI v9, vR b11, vR b30, .unset] []) := fun t k => pre64 t (st65.trans k)
    have f66_1 := f36_1.keep Kq65 (ninS ne31 (ninS nn35_0_0 (ninS nn35_1_0 nin0)))
    have zz67 : n0 ≤ T65.heap.size := Nat.le_trans zz37 Kq65.1
    have pre68 : Go p.tables e below S0 T65 (mkF m 146 #[vI p0, vI p1, vI p2, vI p3, vJ q4, .second, vJ q5, .second, vI v1, vI v2, vI v3, vI (1 : Int32), vI v5, vI v6, vI v7, vI v8, vI v9, vR b11, vR b30, .unset] [(.int v5), (.ref b11), (.ref b30)]) := fun t k => pre65 t (by
      refine XS.iload X65.here hx rfl (hb hby at_112) rfl ?_
      show Steps p.tables e below (T65.setTop (mkF m 114 #[vI p0, vI p1, vI p2, vI p3, vJ q4, .second, vJ q5, .second, vI v1, vI v2, vI v3, vI (1 : Int32), vI v5, vI v6, vI v7, vI v8, vI v9, vR b11, vR b30, .unset] [(.int (1 : Int32))])) _
      refine XS.iconst X65.here hx rfl (hb hby at_114) ?_
      show Steps p.tables e below (T65.setTop (mkF m 115 #[vI p0, vI p1, vI p2, vI p3, vJ q4, .second, vJ q5, .second, vI v1, vI v2, vI v3, vI (1 : Int32), vI v5, vI v6, vI v7, vI v8, vI v9, vR b11, vR b30, .unset] [(.int (1 : Int32)), (.int (1 : Int32))])) _
      refine XS.icmpYes X65.here hx rfl (pc0 := 115) (pc' := 126) rfl (hb hby at_115) rfl (flt (by decide : ¬ ((1 : Int32) < (1 : Int32)))).2.2.2 (by decide) (by decide) ?_
      show Steps p.tables e below (T65.setTop (mkF m 126 #[vI p0, vI p1, vI p2, vI p3, vJ q4, .second, vJ q5, .second, vI v1, vI v2, vI v3, vI (1 : Int32), vI v5, vI v6, vI v7, vI v8, vI v9, vR b11, vR b30, .unset] [])) _
      refine XS.iload X65.here hx rfl (hb hby at_126) rfl ?_
      show Steps p.tables e below (T65.setTop (mkF m 128 #[vI p0, vI p1, vI p2, vI p3, vJ q4, .second, vJ q5, .second, vI v1, vI v2, vI v3, vI (1 : Int32), vI v5, vI v6, vI v7, vI v8, vI v9, vR b11, vR b30, .unset] [(.int (1 : Int32))])) _
      refine XS.iconst X65.here hx rfl (hb hby at_128) ?_
      show Steps p.tables e below (T65.setTop (mkF m 129 #[vI p0, vI p1, vI p2, vI p3, vJ q4, .second, vJ q5, .second, vI v1, vI v2, vI v3, vI (1 : Int32), vI v5, vI v6, vI v7, vI v8, vI v9, vR b11, vR b30, .unset] [(.int (2 : Int32)), (.int (1 : Int32))])) _
      refine XS.icmpYes X65.here hx rfl (pc0 := 129) (pc' := 140) rfl (hb hby at_129) rfl (flt (by decide : ¬ ((2 : Int32) < (1 : Int32)))).2.2.2 (by decide) (by decide) ?_
      show Steps p.tables e below (T65.setTop (mkF m 140 #[vI p0, vI p1, vI p2, vI p3, vJ q4, .second, vJ q5, .second, vI v1, vI v2, vI v3, vI (1 : Int32), vI v5, vI v6, vI v7, vI v8, vI v9, vR b11, vR b30, .unset] [])) _
      refine XS.aload X65.here hx rfl (hb hby at_140) rfl rfl ?_
      show Steps p.tables e below (T65.setTop (mkF m 142 #[vI p0, vI p1, vI p2, vI p3, vJ q4, .second, vJ q5, .second, vI v1, vI v2, vI v3, vI (1 : Int32), vI v5, vI v6, vI v7, vI v8, vI v9, vR b11, vR b30, .unset] [(.ref b30)])) _
      refine XS.aload X65.here hx rfl (hb hby at_142) rfl rfl ?_
      show Steps p.tables e below (T65.setTop (mkF m 144 #[vI p0, vI p1, vI p2, vI p3, vJ q4, .second, vJ q5, .second, vI v1, vI v2, vI v3, vI (1 : Int32), vI v5, vI v6, vI v7, vI v8, vI v9, vR b11, vR b30, .unset] [(.ref b11), (.ref b30)])) _
      refine XS.iload X65.here hx rfl (hb hby at_144) rfl ?_
      show Steps p.tables e below (T65.setTop (mkF m 146 #[vI p0, vI p1, vI p2, vI p3, vJ q4, .second, vJ q5, .second, vI v1, vI v2, vI v3, vI (1 : Int32), vI v5, vI v6, vI v7, vI v8, vI v9, vR b11, vR b30, .unset] [(.int v5), (.ref b11), (.ref b30)])) _
      exact k)
    obtain ⟨cq69, kq69, qa69, qb69, qc69⟩ := isOf hZ rfl nf65_0
    obtain ⟨_, _, ⟨T69, qL69, qk69, qn69⟩, -, X69, ⟨Lc69, hQ69, ql69, qy69, qz69⟩, st69⟩ := X65.virtualBack hx (y := (⟨"com/example/motiflow/motiflow/UndoLog", "takeBack", "([II)V"⟩ : MethodName)) (z := (⟨"com/example/motiflow/motiflow/UndoLog", "takeBack", "([II)V"⟩ : MethodName)) hown (mvT hZ (hw _ (List.mem_of_getElem? (i := 14) rfl))) (mvT hZ (hw _ (List.mem_of_getElem? (i := 15) rfl))) (notFace_of_selects (args := #[]) (mvT hZ (hw _ (List.mem_of_getElem? (i := 17) rfl)))) (mvT hZ (hw _ (List.mem_of_getElem? (i := 17) rfl))) (mvT hZ (hw _ (List.mem_of_getElem? (i := 16) rfl))) (by decide) (backOf (W := 0) (rm3_1 l Z A0 hw [] b30 b11 v5 b1_35 b2_35 k1_35 k2_35 kA11 v6 v7 v8 v9 v1 p1 v2 p2 v3 p3 T65.heap n0 zz67 nf65_0 nf65_1 nf65_2 nf65_3 nf65_4 nf65_5 f66_1 (Ne.symm nn35_0_1) (Ne.symm nn35_1_1) ne31 (Ne.symm nn35_0_0) (Ne.symm nn35_1_0) bo30 bo11 hp0 hmark) hZ (hw _ (List.mem_of_getElem? (i := 18) rfl)) (hw _ (List.mem_of_getElem? (i := 3) rfl)) (by decide) (by decide)) qa69 qc69 (g := (mkF m 146 #[vI p0, vI p1, vI p2, vI p3, vJ q4, .second, vJ q5, .second, vI v1, vI v2, vI v3, vI (1 : Int32), vI v5, vI v6, vI v7, vI v8, vI v9, vR b11, vR b30, .unset] [(.int v5), (.ref b11), (.ref b30)])) rfl (by rw [hml]; rfl) (Steps.refl _) (argsL := [(.ref b11), (.int v5)]) (rest := []) (lenOf pd_2 rfl) rfl (by show 2 * 0 + _ ≤ _; exact Nat.le_of_eq rfl) (hb hby at_146) (fun _ _ => ⟨rfl, rfl, (by decide : 4 + 0 ≤ _), (by decide : 39 + 0 ≤ _)⟩)
    dsimp only [Pt.U, Pt.locs, Pt.cells, Pt.slots] at X69 ql69 qy69 qz69 st69 hQ69
    subst ql69 qy69 qz69
    obtain ⟨rfl, Nq69, Kq69, nf69_0, nf69_1, nf69_2, nf69_3, nf69_4⟩ := hQ69
    have N69 := Fr.app N65 Nq69
    have pre69 : Go p.tables e below S0 T69 (mkF m 149 #[vI p0, vI p1, vI p2, vI p3, vJ q4, .second, vJ q5, .second, vI v1, vI v2, vI v3, vI (1 : Int32), vI v5, vI v6, vI v7, vI v8, vI v9, vR b11, vR b30, .unset] []) := fun t k => pre68 t (st69.trans k)
    have f70_1 := nf65_4.keep Kq69 (ninS (Ne.symm nn35_0_1) (ninS (Ne.symm nn35_0_0) nin0))
    have f70_2 := nf65_5.keep Kq69 (ninS (Ne.symm nn35_1_1) (ninS (Ne.symm nn35_1_0) nin0))
    have zz71 : n0 ≤ T69.heap.size := Nat.le_trans zz67 Kq69.1
    have pre72 : Go p.tables e below S0 T69 (mkF m 153 #[vI p0, vI p1, vI p2, vI p3, vJ q4, .second, vJ q5, .second, vI v1, vI v2, vI v3, vI (1 : Int32), vI v5, vI v6, vI v7, vI v8, vI v9, vR b11, vR b30, .unset] [(.int v5), (.int (1 : Int32))]) := fun t k => pre69 t (by
      refine XS.iload X69.here hx rfl (hb hby at_149) rfl ?_
      show Steps p.tables e below (T69.setTop (mkF m 151 #[vI p0, vI p1, vI p2, vI p3, vJ q4, .second, vJ q5, .second, vI v1, vI v2, vI v3, vI (1 : Int32), vI v5, vI v6, vI v7, vI v8, vI v9, vR b11, vR b30, .unset] [(.int (1 : Int32))])) _
      refine XS.iload X69.here hx rfl (hb hby at_151) rfl ?_
      show Steps p.tables e below (T69.setTop (mkF m 153 #[vI p0, vI p1, vI p2, vI p3, vJ q4, .second, vJ q5, .second, vI v1, vI v2, vI v3, vI (1 : Int32), vI v5, vI v6, vI v7, vI v8, vI v9, vR b11, vR b30, .unset] [(.int v5), (.int (1 : Int32))])) _
      exact k)
    obtain ⟨_, _, ⟨T73, qL73, qk73, qn73⟩, -, X73, ⟨Lc73, hQ73, ql73, qy73, qz73⟩, st73⟩ := Jvm.LawKit.callS X69 hx (y := (⟨"java/lang/Math", "min", "(II)I"⟩ : MethodName)) hown (mvT hZ (hw _ (List.mem_of_getElem? (i := 21) rfl))) (mvT hZ (hw _ (List.mem_of_getElem? (i := 22) rfl))) (mvT hZ (hw _ (List.mem_of_getElem? (i := 23) rfl))) (mvT hZ (hw _ (List.mem_of_getElem? (i := 24) rfl))) (by decide) (backOf (W := 0) (rm4 l Z A0 hw [] (1 : Int32) v5 T69.heap n0 zz71) hZ (hw _ (List.mem_of_getElem? (i := 24) rfl)) (hw _ (List.mem_of_getElem? (i := 23) rfl)) (by decide) (by decide)) (g := (mkF m 153 #[vI p0, vI p1, vI p2, vI p3, vJ q4, .second, vJ q5, .second, vI v1, vI v2, vI v3, vI (1 : Int32), vI v5, vI v6, vI v7, vI v8, vI v9, vR b11, vR b30, .unset] [(.int v5), (.int (1 : Int32))])) rfl (by rw [hml]; rfl) (argsL := [(.int (1 : Int32)), (.int v5)]) (rest := []) (lenOf pd_3 rfl) rfl (by show 2 * 0 + _ ≤ _; exact Nat.le_of_eq rfl) (hb hby at_153) (fun _ _ => ⟨rfl, rfl, (by decide : 4 + 0 ≤ _), (by decide : 39 + 0 ≤ _)⟩)
    dsimp only [Pt.U, Pt.locs, Pt.cells, Pt.slots] at X73 ql73 qy73 qz73 st73 hQ73
    subst ql73 qy73 qz73
    obtain ⟨rfl, Nq73, eq73⟩ := hQ73
    have N73 := Fr.app N69 Nq73
    have pre73 : Go p.tables e below S0 T73 (mkF m 156 #[vI p0, vI p1, vI p2, vI p3, vJ q4, .second, vJ q5, .second, vI v1, vI v2, vI v3, vI (1 : Int32), vI v5, vI v6, vI v7, vI v8, vI v9, vR b11, vR b30, .unset] [(.int (own_min (1 : Int32) v5))]) := fun t k => pre72 t (st73 t k)
    have pre74 : Go p.tables e below S0 T73 (mkF m 160 #[vI p0, vI p1, vI p2, vI p3, vJ q4, .second, vJ q5, .second, vI v1, vI v2, vI v3, vI (1 : Int32), vI v5, vI v6, vI v7, vI v8, vI v9, vR b11, vR b30, vI (own_min (1 : Int32) v5)] [(.ref b30)]) := fun t k => pre73 t (by
      refine XS.istore X73.here hx rfl (hb hby at_156) rfl (l' := #[vI p0, vI p1, vI p2, vI p3, vJ q4, .second, vJ q5, .second, vI v1, vI v2, vI v3, vI (1 : Int32), vI v5, vI v6, vI v7, vI v8, vI v9, vR b11, vR b30, vI (own_min (1 : Int32) v5)]) rfl ?_
      show Steps p.tables e below (T73.setTop (mkF m 158 #[vI p0, vI p1, vI p2, vI p3, vJ q4, .second, vJ q5, .second, vI v1, vI v2, vI v3, vI (1 : Int32), vI v5, vI v6, vI v7, vI v8, vI v9, vR b11, vR b30, vI (own_min (1 : Int32) v5)] [])) _
      refine XS.aload X73.here hx rfl (hb hby at_158) rfl rfl ?_
      show Steps p.tables e below (T73.setTop (mkF m 160 #[vI p0, vI p1, vI p2, vI p3, vJ q4, .second, vJ q5, .second, vI v1, vI v2, vI v3, vI (1 : Int32), vI v5, vI v6, vI v7, vI v8, vI v9, vR b11, vR b30, vI (own_min (1 : Int32) v5)] [(.ref b30)])) _
      exact k)
    obtain ⟨cq75, kq75, qa75, qb75, qc75⟩ := isOf hZ eq73 nf69_0
    obtain ⟨_, _, ⟨T75, qL75, qk75, qn75⟩, -, X75, ⟨Lc75, hQ75, ql75, qy75, qz75⟩, st75⟩ := X73.virtualBack hx (y := (⟨"com/example/motiflow/motiflow/UndoLog", "size", "()I"⟩ : MethodName)) (z := (⟨"com/example/motiflow/motiflow/UndoLog", "size", "()I"⟩ : MethodName)) hown (mvT hZ (hw _ (List.mem_of_getElem? (i := 25) rfl))) (mvT hZ (hw _ (List.mem_of_getElem? (i := 26) rfl))) (notFace_of_selects (args := #[]) (mvT hZ (hw _ (List.mem_of_getElem? (i := 28) rfl)))) (mvT hZ (hw _ (List.mem_of_getElem? (i := 28) rfl))) (mvT hZ (hw _ (List.mem_of_getElem? (i := 27) rfl))) (by decide) (backOf (W := 0) (rm5 l Z A0 hw [] b30 (own_min (1 : Int32) v5) T69.heap n0 zz71 nf69_3) hZ (hw _ (List.mem_of_getElem? (i := 29) rfl)) (hw _ (List.mem_of_getElem? (i := 3) rfl)) (by decide) (by decide)) qa75 qc75 (g := (mkF m 160 #[vI p0, vI p1, vI p2, vI p3, vJ q4, .second, vJ q5, .second, vI v1, vI v2, vI v3, vI (1 : Int32), vI v5, vI v6, vI v7, vI v8, vI v9, vR b11, vR b30, vI (own_min (1 : Int32) v5)] [(.ref b30)])) rfl (by rw [hml]; rfl) (Steps.refl _) (argsL := []) (rest := []) (lenOf pd_4 rfl) rfl (by show 2 * 0 + _ ≤ _; exact Nat.le_of_eq rfl) (hb hby at_160) (fun _ _ => ⟨rfl, eq73, (by decide : 4 + 0 ≤ _), (by decide : 39 + 0 ≤ _)⟩)
    dsimp only [Pt.U, Pt.locs, Pt.cells, Pt.slots] at X75 ql75 qy75 qz75 st75 hQ75
    subst ql75 qy75 qz75
    obtain ⟨rfl, Nq75, eq75⟩ := hQ75
    have N75 := Fr.app N73 Nq75
    have pre75 : Go p.tables e below S0 T75 (mkF m 163 #[vI p0, vI p1, vI p2, vI p3, vJ q4, .second, vJ q5, .second, vI v1, vI v2, vI v3, vI (1 : Int32), vI v5, vI v6, vI v7, vI v8, vI v9, vR b11, vR b30, vI (own_min (1 : Int32) v5)] [(.int (own_min (1 : Int32) v5))]) := fun t k => pre74 t (st75.trans k)
    have pre76 : Go p.tables e below S0 T75 (mkF m 171 #[vI p0, vI p1, vI p2, vI p3, vJ q4, .second, vJ q5, .second, vI v1, vI v2, vI v3, vI (1 : Int32), vI v5, vI v6, vI v7, vI v8, vI v9, vR b11, vR b30, vI (own_min (1 : Int32) v5)] [(.int (0 : Int32)), (.ref b11)]) := fun t k => pre75 t (by
      refine XS.iload X75.here hx rfl (hb hby at_163) rfl ?_
      show Steps p.tables e below (T75.setTop (mkF m 165 #[vI p0, vI p1, vI p2, vI p3, vJ q4, .second, vJ q5, .second, vI v1, vI v2, vI v3, vI (1 : Int32), vI v5, vI v6, vI v7, vI v8, vI v9, vR b11, vR b30, vI (own_min (1 : Int32) v5)] [(.int (own_min (1 : Int32) v5)), (.int (own_min (1 : Int32) v5))])) _
      refine XS.icmpNo X75.here hx rfl (hb hby at_165) rfl (teq (rfl : (own_min (1 : Int32) v5) = (own_min (1 : Int32) v5))).2 ?_
      show Steps p.tables e below (T75.setTop (mkF m 168 #[vI p0, vI p1, vI p2, vI p3, vJ q4, .second, vJ q5, .second, vI v1, vI v2, vI v3, vI (1 : Int32), vI v5, vI v6, vI v7, vI v8, vI v9, vR b11, vR b30, vI (own_min (1 : Int32) v5)] [])) _
      refine XS.aload X75.here hx rfl (hb hby at_168) rfl rfl ?_
      show Steps p.tables e below (T75.setTop (mkF m 170 #[vI p0, vI p1, vI p2, vI p3, vJ q4, .second, vJ q5, .second, vI v1, vI v2, vI v3, vI (1 : Int32), vI v5, vI v6, vI v7, vI v8, vI v9, vR b11, vR b30, vI (own_min (1 : Int32) v5)] [(.ref b11)])) _
      refine XS.iconst X75.here hx rfl (hb hby at_170) ?_
      show Steps p.tables e below (T75.setTop (mkF m 171 #[vI p0, vI p1, vI p2, vI p3, vJ q4, .second, vJ q5, .second, vI v1, vI v2, vI v3, vI (1 : Int32), vI v5, vI v6, vI v7, vI v8, vI v9, vR b11, vR b30, vI (own_min (1 : Int32) v5)] [(.int (0 : Int32)), (.ref b11)])) _
      exact k)
    obtain ⟨cl77, Ar77, q77, S77, M77, H77, G77⟩ := id nf69_4
    have in77 : ¬ ((0 : Int32) < 0 ∨ cl77.slots.size ≤ ((0 : Int32)).toNatClampNeg) := inb_of S77 ⟨by decide, by decide⟩
    have at77 : cl77.slots[((0 : Int32)).toNatClampNeg]? = some (.int (own_expect (0 : Int32) v6 (1 : Int32) v5 v1 p1 v2 p2 v3 p3)) := H77.at in77 rfl
    have pre78 : Go p.tables e below S0 T75 (mkF m 188 #[vI p0, vI p1, vI p2, vI p3, vJ q4, .second, vJ q5, .second, vI v1, vI v2, vI v3, vI (1 : Int32), vI v5, vI v6, vI v7, vI v8, vI v9, vR b11, vR b30, vI (own_min (1 : Int32) v5)] [(.int p3), (.int v3), (.int p2), (.int v2), (.int p1), (.int v1), (.int v5), (.int (1 : Int32)), (.int v6), (.int (0 : Int32)), (.int (own_expect (0 : Int32) v6 (1 : Int32) v5 v1 p1 v2 p2 v3 p3))]) := fun t k => pre76 t (by
      refine X75.iaload hx (j := (0 : Int32)) (v := (.int (own_expect (0 : Int32) v6 (1 : Int32) v5 v1 p1 v2 p2 v3 p3))) (by rw [eq75]; exact Ar77.1) (State.isArrayOf_alike hZ.alike Ar77.2.1) Ar77.2.2 in77 at77 (g := (mkF m 171 #[vI p0, vI p1, vI p2, vI p3, vJ q4, .second, vJ q5, .second, vI v1, vI v2, vI v3, vI (1 : Int32), vI v5, vI v6, vI v7, vI v8, vI v9, vR b11, vR b30, vI (own_min (1 : Int32) v5)] [(.int (0 : Int32)), (.ref b11)])) rfl rfl (hb hby at_171) _ ?_
      show Steps p.tables e below (T75.setTop (mkF m 172 #[vI p0, vI p1, vI p2, vI p3, vJ q4, .second, vJ q5, .second, vI v1, vI v2, vI v3, vI (1 : Int32), vI v5, vI v6, vI v7, vI v8, vI v9, vR b11, vR b30, vI (own_min (1 : Int32) v5)] [(.int (own_expect (0 : Int32) v6 (1 : Int32) v5 v1 p1 v2 p2 v3 p3))])) _
      refine XS.iconst X75.here hx rfl (hb hby at_172) ?_
      show Steps p.tables e below (T75.setTop (mkF m 173 #[vI p0, vI p1, vI p2, vI p3, vJ q4, .second, vJ q5, .second, vI v1, vI v2, vI v3, vI (1 : Int32), vI v5, vI v6, vI v7, vI v8, vI v9, vR b11, vR b30, vI (own_min (1 : Int32) v5)] [(.int (0 : Int32)), (.int (own_expect (0 : Int32) v6 (1 : Int32) v5 v1 p1 v2 p2 v3 p3))])) _
      refine XS.iload X75.here hx rfl (hb hby at_173) rfl ?_
      show Steps p.tables e below (T75.setTop (mkF m 175 #[vI p0, vI p1, vI p2, vI p3, vJ q4, .second, vJ q5, .second, vI v1, vI v2, vI v3, vI (1 : Int32), vI v5, vI v6, vI v7, vI v8, vI v9, vR b11, vR b30, vI (own_min (1 : Int32) v5)] [(.int v6), (.int (0 : Int32)), (.int (own_expect (0 : Int32) v6 (1 : Int32) v5 v1 p1 v2 p2 v3 p3))])) _
      refine XS.iload X75.here hx rfl (hb hby at_175) rfl ?_
      show Steps p.tables e below (T75.setTop (mkF m 177 #[vI p0, vI p1, vI p2, vI p3, vJ q4, .second, vJ q5, .second, vI v1, vI v2, vI v3, vI (1 : Int32), vI v5, vI v6, vI v7, vI v8, vI v9, vR b11, vR b30, vI (own_min (1 : Int32) v5)] [(.int (1 : Int32)), (.int v6), (.int (0 : Int32)), (.int (own_expect (0 : Int32) v6 (1 : Int32) v5 v1 p1 v2 p2 v3 p3))])) _
      refine XS.iload X75.here hx rfl (hb hby at_177) rfl ?_
      show Steps p.tables e below (T75.setTop (mkF m 179 #[vI p0, vI p1, vI p2, vI p3, vJ q4, .second, vJ q5, .second, vI v1, vI v2, vI v3, vI (1 : Int32), vI v5, vI v6, vI v7, vI v8, vI v9, vR b11, vR b30, vI (own_min (1 : Int32) v5)] [(.int v5), (.int (1 : Int32)), (.int v6), (.int (0 : Int32)), (.int (own_expect (0 : Int32) v6 (1 : Int32) v5 v1 p1 v2 p2 v3 p3))])) _
      refine XS.iload X75.here hx rfl (hb hby at_179) rfl ?_
      show Steps p.tables e below (T75.setTop (mkF m 181 #[vI p0, vI p1, vI p2, vI p3, vJ q4, .second, vJ q5, .second, vI v1, vI v2, vI v3, vI (1 : Int32), vI v5, vI v6, vI v7, vI v8, vI v9, vR b11, vR b30, vI (own_min (1 : Int32) v5)] [(.int v1), (.int v5), (.int (1 : Int32)), (.int v6), (.int (0 : Int32)), (.int (own_expect (0 : Int32) v6 (1 : Int32) v5 v1 p1 v2 p2 v3 p3))])) _
      refine XS.iloadN X75.here hx rfl (hb hby at_181) rfl ?_
      show Steps p.tables e below (T75.setTop (mkF m 182 #[vI p0, vI p1, vI p2, vI p3, vJ q4, .second, vJ q5, .second, vI v1, vI v2, vI v3, vI (1 : Int32), vI v5, vI v6, vI v7, vI v8, vI v9, vR b11, vR b30, vI (own_min (1 : Int32) v5)] [(.int p1), (.int v1), (.int v5), (.int (1 : Int32)), (.int v6), (.int (0 : Int32)), (.int (own_expect (0 : Int32) v6 (1 : Int32) v5 v1 p1 v2 p2 v3 p3))])) _
      refine XS.iload X75.here hx rfl (hb hby at_182) rfl ?_
      show Steps p.tables e below (T75.setTop (mkF m 184 #[vI p0, vI p1, vI p2, vI p3, vJ q4, .second, vJ q5, .second, vI v1, vI v2, vI v3, vI (1 : Int32), vI v5, vI v6, vI v7, vI v8, vI v9, vR b11, vR b30, vI (own_min (1 : Int32) v5)] [(.int v2), (.int p1), (.int v1), (.int v5), (.int (1 : Int32)), (.int v6), (.int (0 : Int32)), (.int (own_expect (0 : Int32) v6 (1 : Int32) v5 v1 p1 v2 p2 v3 p3))])) _
      refine XS.iloadN X75.here hx rfl (hb hby at_184) rfl ?_
      show Steps p.tables e below (T75.setTop (mkF m 185 #[vI p0, vI p1, vI p2, vI p3, vJ q4, .second, vJ q5, .second, vI v1, vI v2, vI v3, vI (1 : Int32), vI v5, vI v6, vI v7, vI v8, vI v9, vR b11, vR b30, vI (own_min (1 : Int32) v5)] [(.int p2), (.int v2), (.int p1), (.int v1), (.int v5), (.int (1 : Int32)), (.int v6), (.int (0 : Int32)), (.int (own_expect (0 : Int32) v6 (1 : Int32) v5 v1 p1 v2 p2 v3 p3))])) _
      refine XS.iload X75.here hx rfl (hb hby at_185) rfl ?_
      show Steps p.tables e below (T75.setTop (mkF m 187 #[vI p0, vI p1, vI p2, vI p3, vJ q4, .second, vJ q5, .second, vI v1, vI v2, vI v3, vI (1 : Int32), vI v5, vI v6, vI v7, vI v8, vI v9, vR b11, vR b30, vI (own_min (1 : Int32) v5)] [(.int v3), (.int p2), (.int v2), (.int p1), (.int v1), (.int v5), (.int (1 : Int32)), (.int v6), (.int (0 : Int32)), (.int (own_expect (0 : Int32) v6 (1 : Int32) v5 v1 p1 v2 p2 v3 p3))])) _
      refine XS.iloadN X75.here hx rfl (hb hby at_187) rfl ?_
      show Steps p.tables e below (T75.setTop (mkF m 188 #[vI p0, vI p1, vI p2, vI p3, vJ q4, .second, vJ q5, .second, vI v1, vI v2, vI v3, vI (1 : Int32), vI v5, vI v6, vI v7, vI v8, vI v9, vR b11, vR b30, vI (own_min (1 : Int32) v5)] [(.int p3), (.int v3), (.int p2), (.int v2), (.int p1), (.int v1), (.int v5), (.int (1 : Int32)), (.int v6), (.int (0 : Int32)), (.int (own_expect (0 : Int32) v6 (1 : Int32) v5 v1 p1 v2 p2 v3 p3))])) _
      exact k)
    obtain ⟨_, _, ⟨T79, qL79, qk79, qn79⟩, -, X79, ⟨Lc79, hQ79, ql79, qy79, qz79⟩, st79⟩ := Jvm.LawKit.callS X75 hx (y := (⟨"com/example/motiflow/motiflow/UndoLogTakeBackPinLaw", "expect", "(IIIIIIIIII)I"⟩ : MethodName)) hown (mvT hZ (hw _ (List.mem_of_getElem? (i := 30) rfl))) (mvT hZ (hw _ (List.mem_of_getElem? (i := 31) rfl))) (mvT hZ (hw _ (List.mem_of_getElem? (i := 32) rfl))) (mvT hZ (hw _ (List.mem_of_getElem? (i := 33) rfl))) (by decide) (backOf (W := 1) (rm6 l Z A0 hw [] (0 : Int32) v6 (1 : Int32) v5 v1 p1 v2 p2 v3 p3 T69.heap n0 zz71) hZ (hw _ (List.mem_of_getElem? (i := 33) rfl)) (hw _ (List.mem_of_getElem? (i := 32) rfl)) (by decide) (by decide)) (g := (mkF m 188 #[vI p0, vI p1, vI p2, vI p3, vJ q4, .second, vJ q5, .second, vI v1, vI v2, vI v3, vI (1 : Int32), vI v5, vI v6, vI v7, vI v8, vI v9, vR b11, vR b30, vI (own_min (1 : Int32) v5)] [(.int p3), (.int v3), (.int p2), (.int v2), (.int p1), (.int v1), (.int v5), (.int (1 : Int32)), (.int v6), (.int (0 : Int32)), (.int (own_expect (0 : Int32) v6 (1 : Int32) v5 v1 p1 v2 p2 v3 p3))])) rfl (by rw [hml]; rfl) (argsL := [(.int (0 : Int32)), (.int v6), (.int (1 : Int32)), (.int v5), (.int v1), (.int p1), (.int v2), (.int p2), (.int v3), (.int p3)]) (rest := [(.int (own_expect (0 : Int32) v6 (1 : Int32) v5 v1 p1 v2 p2 v3 p3))]) (lenOf pd_5 rfl) rfl (by show 2 * 0 + _ ≤ _; exact Nat.le_of_eq rfl) (hb hby at_188) (fun _ _ => ⟨rfl, eq75, (by decide : 4 + 0 ≤ _), (by decide : 39 + 0 ≤ _)⟩)
    dsimp only [Pt.U, Pt.locs, Pt.cells, Pt.slots] at X79 ql79 qy79 qz79 st79 hQ79
    subst ql79 qy79 qz79
    obtain ⟨rfl, Nq79, eq79⟩ := hQ79
    have N79 := Fr.app N75 Nq79
    have pre79 : Go p.tables e below S0 T79 (mkF m 191 #[vI p0, vI p1, vI p2, vI p3, vJ q4, .second, vJ q5, .second, vI v1, vI v2, vI v3, vI (1 : Int32), vI v5, vI v6, vI v7, vI v8, vI v9, vR b11, vR b30, vI (own_min (1 : Int32) v5)] [(.int (own_expect (0 : Int32) v6 (1 : Int32) v5 v1 p1 v2 p2 v3 p3)), (.int (own_expect (0 : Int32) v6 (1 : Int32) v5 v1 p1 v2 p2 v3 p3))]) := fun t k => pre78 t (st79 t k)
    have pre80 : Go p.tables e below S0 T79 (mkF m 197 #[vI p0, vI p1, vI p2, vI p3, vJ q4, .second, vJ q5, .second, vI v1, vI v2, vI v3, vI (1 : Int32), vI v5, vI v6, vI v7, vI v8, vI v9, vR b11, vR b30, vI (own_min (1 : Int32) v5)] [(.int (1 : Int32)), (.ref b11)]) := fun t k => pre79 t (by
      refine XS.icmpNo X79.here hx rfl (hb hby at_191) rfl (teq (rfl : (own_expect (0 : Int32) v6 (1 : Int32) v5 v1 p1 v2 p2 v3 p3) = (own_expect (0 : Int32) v6 (1 : Int32) v5 v1 p1 v2 p2 v3 p3))).2 ?_
      show Steps p.tables e below (T79.setTop (mkF m 194 #[vI p0, vI p1, vI p2, vI p3, vJ q4, .second, vJ q5, .second, vI v1, vI v2, vI v3, vI (1 : Int32), vI v5, vI v6, vI v7, vI v8, vI v9, vR b11, vR b30, vI (own_min (1 : Int32) v5)] [])) _
      refine XS.aload X79.here hx rfl (hb hby at_194) rfl rfl ?_
      show Steps p.tables e below (T79.setTop (mkF m 196 #[vI p0, vI p1, vI p2, vI p3, vJ q4, .second, vJ q5, .second, vI v1, vI v2, vI v3, vI (1 : Int32), vI v5, vI v6, vI v7, vI v8, vI v9, vR b11, vR b30, vI (own_min (1 : Int32) v5)] [(.ref b11)])) _
      refine XS.iconst X79.here hx rfl (hb hby at_196) ?_
      show Steps p.tables e below (T79.setTop (mkF m 197 #[vI p0, vI p1, vI p2, vI p3, vJ q4, .second, vJ q5, .second, vI v1, vI v2, vI v3, vI (1 : Int32), vI v5, vI v6, vI v7, vI v8, vI v9, vR b11, vR b30, vI (own_min (1 : Int32) v5)] [(.int (1 : Int32)), (.ref b11)])) _
      exact k)
    obtain ⟨cl81, Ar81, q81, S81, M81, H81, G81⟩ := id nf69_4
    have in81 : ¬ ((1 : Int32) < 0 ∨ cl81.slots.size ≤ ((1 : Int32)).toNatClampNeg) := inb_of S81 ⟨by decide, by decide⟩
    have at81 : cl81.slots[((1 : Int32)).toNatClampNeg]? = some (.int (own_expect (1 : Int32) v7 (1 : Int32) v5 v1 p1 v2 p2 v3 p3)) := H81.at in81 rfl
    have pre82 : Go p.tables e below S0 T79 (mkF m 214 #[vI p0, vI p1, vI p2, vI p3, vJ q4, .second, vJ q5, .second, vI v1, vI v2, vI v3, vI (1 : Int32), vI v5, vI v6, vI v7, vI v8, vI v9, vR b11, vR b30, vI (own_min (1 : Int32) v5)] [(.int p3), (.int v3), (.int p2), (.int v2), (.int p1), (.int v1), (.int v5), (.int (1 : Int32)), (.int v7), (.int (1 : Int32)), (.int (own_expect (1 : Int32) v7 (1 : Int32) v5 v1 p1 v2 p2 v3 p3))]) := fun t k => pre80 t (by
      refine X79.iaload hx (j := (1 : Int32)) (v := (.int (own_expect (1 : Int32) v7 (1 : Int32) v5 v1 p1 v2 p2 v3 p3))) (by rw [eq79]; exact Ar81.1) (State.isArrayOf_alike hZ.alike Ar81.2.1) Ar81.2.2 in81 at81 (g := (mkF m 197 #[vI p0, vI p1, vI p2, vI p3, vJ q4, .second, vJ q5, .second, vI v1, vI v2, vI v3, vI (1 : Int32), vI v5, vI v6, vI v7, vI v8, vI v9, vR b11, vR b30, vI (own_min (1 : Int32) v5)] [(.int (1 : Int32)), (.ref b11)])) rfl rfl (hb hby at_197) _ ?_
      show Steps p.tables e below (T79.setTop (mkF m 198 #[vI p0, vI p1, vI p2, vI p3, vJ q4, .second, vJ q5, .second, vI v1, vI v2, vI v3, vI (1 : Int32), vI v5, vI v6, vI v7, vI v8, vI v9, vR b11, vR b30, vI (own_min (1 : Int32) v5)] [(.int (own_expect (1 : Int32) v7 (1 : Int32) v5 v1 p1 v2 p2 v3 p3))])) _
      refine XS.iconst X79.here hx rfl (hb hby at_198) ?_
      show Steps p.tables e below (T79.setTop (mkF m 199 #[vI p0, vI p1, vI p2, vI p3, vJ q4, .second, vJ q5, .second, vI v1, vI v2, vI v3, vI (1 : Int32), vI v5, vI v6, vI v7, vI v8, vI v9, vR b11, vR b30, vI (own_min (1 : Int32) v5)] [(.int (1 : Int32)), (.int (own_expect (1 : Int32) v7 (1 : Int32) v5 v1 p1 v2 p2 v3 p3))])) _
      refine XS.iload X79.here hx rfl (hb hby at_199) rfl ?_
      show Steps p.tables e below (T79.setTop (mkF m 201 #[vI p0, vI p1, vI p2, vI p3, vJ q4, .second, vJ q5, .second, vI v1, vI v2, vI v3, vI (1 : Int32), vI v5, vI v6, vI v7, vI v8, vI v9, vR b11, vR b30, vI (own_min (1 : Int32) v5)] [(.int v7), (.int (1 : Int32)), (.int (own_expect (1 : Int32) v7 (1 : Int32) v5 v1 p1 v2 p2 v3 p3))])) _
      refine XS.iload X79.here hx rfl (hb hby at_201) rfl ?_
      show Steps p.tables e below (T79.setTop (mkF m 203 #[vI p0, vI p1, vI p2, vI p3, vJ q4, .second, vJ q5, .second, vI v1, vI v2, vI v3, vI (1 : Int32), vI v5, vI v6, vI v7, vI v8, vI v9, vR b11, vR b30, vI (own_min (1 : Int32) v5)] [(.int (1 : Int32)), (.int v7), (.int (1 : Int32)), (.int (own_expect (1 : Int32) v7 (1 : Int32) v5 v1 p1 v2 p2 v3 p3))])) _
      refine XS.iload X79.here hx rfl (hb hby at_203) rfl ?_
      show Steps p.tables e below (T79.setTop (mkF m 205 #[vI p0, vI p1, vI p2, vI p3, vJ q4, .second, vJ q5, .second, vI v1, vI v2, vI v3, vI (1 : Int32), vI v5, vI v6, vI v7, vI v8, vI v9, vR b11, vR b30, vI (own_min (1 : Int32) v5)] [(.int v5), (.int (1 : Int32)), (.int v7), (.int (1 : Int32)), (.int (own_expect (1 : Int32) v7 (1 : Int32) v5 v1 p1 v2 p2 v3 p3))])) _
      refine XS.iload X79.here hx rfl (hb hby at_205) rfl ?_
      show Steps p.tables e below (T79.setTop (mkF m 207 #[vI p0, vI p1, vI p2, vI p3, vJ q4, .second, vJ q5, .second, vI v1, vI v2, vI v3, vI (1 : Int32), vI v5, vI v6, vI v7, vI v8, vI v9, vR b11, vR b30, vI (own_min (1 : Int32) v5)] [(.int v1), (.int v5), (.int (1 : Int32)), (.int v7), (.int (1 : Int32)), (.int (own_expect (1 : Int32) v7 (1 : Int32) v5 v1 p1 v2 p2 v3 p3))])) _
      refine XS.iloadN X79.here hx rfl (hb hby at_207) rfl ?_
      show Steps p.tables e below (T79.setTop (mkF m 208 #[vI p0, vI p1, vI p2, vI p3, vJ q4, .second, vJ q5, .second, vI v1, vI v2, vI v3, vI (1 : Int32), vI v5, vI v6, vI v7, vI v8, vI v9, vR b11, vR b30, vI (own_min (1 : Int32) v5)] [(.int p1), (.int v1), (.int v5), (.int (1 : Int32)), (.int v7), (.int (1 : Int32)), (.int (own_expect (1 : Int32) v7 (1 : Int32) v5 v1 p1 v2 p2 v3 p3))])) _
      refine XS.iload X79.here hx rfl (hb hby at_208) rfl ?_
      show Steps p.tables e below (T79.setTop (mkF m 210 #[vI p0, vI p1, vI p2, vI p3, vJ q4, .second, vJ q5, .second, vI v1, vI v2, vI v3, vI (1 : Int32), vI v5, vI v6, vI v7, vI v8, vI v9, vR b11, vR b30, vI (own_min (1 : Int32) v5)] [(.int v2), (.int p1), (.int v1), (.int v5), (.int (1 : Int32)), (.int v7), (.int (1 : Int32)), (.int (own_expect (1 : Int32) v7 (1 : Int32) v5 v1 p1 v2 p2 v3 p3))])) _
      refine XS.iloadN X79.here hx rfl (hb hby at_210) rfl ?_
      show Steps p.tables e below (T79.setTop (mkF m 211 #[vI p0, vI p1, vI p2, vI p3, vJ q4, .second, vJ q5, .second, vI v1, vI v2, vI v3, vI (1 : Int32), vI v5, vI v6, vI v7, vI v8, vI v9, vR b11, vR b30, vI (own_min (1 : Int32) v5)] [(.int p2), (.int v2), (.int p1), (.int v1), (.int v5), (.int (1 : Int32)), (.int v7), (.int (1 : Int32)), (.int (own_expect (1 : Int32) v7 (1 : Int32) v5 v1 p1 v2 p2 v3 p3))])) _
      refine XS.iload X79.here hx rfl (hb hby at_211) rfl ?_
      show Steps p.tables e below (T79.setTop (mkF m 213 #[vI p0, vI p1, vI p2, vI p3, vJ q4, .second, vJ q5, .second, vI v1, vI v2, vI v3, vI (1 : Int32), vI v5, vI v6, vI v7, vI v8, vI v9, vR b11, vR b30, vI (own_min (1 : Int32) v5)] [(.int v3), (.int p2), (.int v2), (.int p1), (.int v1), (.int v5), (.int (1 : Int32)), (.int v7), (.int (1 : Int32)), (.int (own_expect (1 : Int32) v7 (1 : Int32) v5 v1 p1 v2 p2 v3 p3))])) _
      refine XS.iloadN X79.here hx rfl (hb hby at_213) rfl ?_
      show Steps p.tables e below (T79.setTop (mkF m 214 #[vI p0, vI p1, vI p2, vI p3, vJ q4, .second, vJ q5, .second, vI v1, vI v2, vI v3, vI (1 : Int32), vI v5, vI v6, vI v7, vI v8, vI v9, vR b11, vR b30, vI (own_min (1 : Int32) v5)] [(.int p3), (.int v3), (.int p2), (.int v2), (.int p1), (.int v1), (.int v5), (.int (1 : Int32)), (.int v7), (.int (1 : Int32)), (.int (own_expect (1 : Int32) v7 (1 : Int32) v5 v1 p1 v2 p2 v3 p3))])) _
      exact k)
    obtain ⟨_, _, ⟨T83, qL83, qk83, qn83⟩, -, X83, ⟨Lc83, hQ83, ql83, qy83, qz83⟩, st83⟩ := Jvm.LawKit.callS X79 hx (y := (⟨"com/example/motiflow/motiflow/UndoLogTakeBackPinLaw", "expect", "(IIIIIIIIII)I"⟩ : MethodName)) hown (mvT hZ (hw _ (List.mem_of_getElem? (i := 30) rfl))) (mvT hZ (hw _ (List.mem_of_getElem? (i := 31) rfl))) (mvT hZ (hw _ (List.mem_of_getElem? (i := 32) rfl))) (mvT hZ (hw _ (List.mem_of_getElem? (i := 33) rfl))) (by decide) (backOf (W := 1) (rm6 l Z A0 hw [] (1 : Int32) v7 (1 : Int32) v5 v1 p1 v2 p2 v3 p3 T69.heap n0 zz71) hZ (hw _ (List.mem_of_getElem? (i := 33) rfl)) (hw _ (List.mem_of_getElem? (i := 32) rfl)) (by decide) (by decide)) (g := (mkF m 214 #[vI p0, vI p1, vI p2, vI p3, vJ q4, .second, vJ q5, .second, vI v1, vI v2, vI v3, vI (1 : Int32), vI v5, vI v6, vI v7, vI v8, vI v9, vR b11, vR b30, vI (own_min (1 : Int32) v5)] [(.int p3), (.int v3), (.int p2), (.int v2), (.int p1), (.int v1), (.int v5), (.int (1 : Int32)), (.int v7), (.int (1 : Int32)), (.int (own_expect (1 : Int32) v7 (1 : Int32) v5 v1 p1 v2 p2 v3 p3))])) rfl (by rw [hml]; rfl) (argsL := [(.int (1 : Int32)), (.int v7), (.int (1 : Int32)), (.int v5), (.int v1), (.int p1), (.int v2), (.int p2), (.int v3), (.int p3)]) (rest := [(.int (own_expect (1 : Int32) v7 (1 : Int32) v5 v1 p1 v2 p2 v3 p3))]) (lenOf pd_5 rfl) rfl (by show 2 * 0 + _ ≤ _; exact Nat.le_of_eq rfl) (hb hby at_214) (fun _ _ => ⟨rfl, eq79, (by decide : 4 + 0 ≤ _), (by decide : 39 + 0 ≤ _)⟩)
    dsimp only [Pt.U, Pt.locs, Pt.cells, Pt.slots] at X83 ql83 qy83 qz83 st83 hQ83
    subst ql83 qy83 qz83
    obtain ⟨rfl, Nq83, eq83⟩ := hQ83
    have N83 := Fr.app N79 Nq83
    have pre83 : Go p.tables e below S0 T83 (mkF m 217 #[vI p0, vI p1, vI p2, vI p3, vJ q4, .second, vJ q5, .second, vI v1, vI v2, vI v3, vI (1 : Int32), vI v5, vI v6, vI v7, vI v8, vI v9, vR b11, vR b30, vI (own_min (1 : Int32) v5)] [(.int (own_expect (1 : Int32) v7 (1 : Int32) v5 v1 p1 v2 p2 v3 p3)), (.int (own_expect (1 : Int32) v7 (1 : Int32) v5 v1 p1 v2 p2 v3 p3))]) := fun t k => pre82 t (st83 t k)
    have pre84 : Go p.tables e below S0 T83 (mkF m 223 #[vI p0, vI p1, vI p2, vI p3, vJ q4, .second, vJ q5, .second, vI v1, vI v2, vI v3, vI (1 : Int32), vI v5, vI v6, vI v7, vI v8, vI v9, vR b11, vR b30, vI (own_min (1 : Int32) v5)] [(.int (2 : Int32)), (.ref b11)]) := fun t k => pre83 t (by
      refine XS.icmpNo X83.here hx rfl (hb hby at_217) rfl (teq (rfl : (own_expect (1 : Int32) v7 (1 : Int32) v5 v1 p1 v2 p2 v3 p3) = (own_expect (1 : Int32) v7 (1 : Int32) v5 v1 p1 v2 p2 v3 p3))).2 ?_
      show Steps p.tables e below (T83.setTop (mkF m 220 #[vI p0, vI p1, vI p2, vI p3, vJ q4, .second, vJ q5, .second, vI v1, vI v2, vI v3, vI (1 : Int32), vI v5, vI v6, vI v7, vI v8, vI v9, vR b11, vR b30, vI (own_min (1 : Int32) v5)] [])) _
      refine XS.aload X83.here hx rfl (hb hby at_220) rfl rfl ?_
      show Steps p.tables e below (T83.setTop (mkF m 222 #[vI p0, vI p1, vI p2, vI p3, vJ q4, .second, vJ q5, .second, vI v1, vI v2, vI v3, vI (1 : Int32), vI v5, vI v6, vI v7, vI v8, vI v9, vR b11, vR b30, vI (own_min (1 : Int32) v5)] [(.ref b11)])) _
      refine XS.iconst X83.here hx rfl (hb hby at_222) ?_
      show Steps p.tables e below (T83.setTop (mkF m 223 #[vI p0, vI p1, vI p2, vI p3, vJ q4, .second, vJ q5, .second, vI v1, vI v2, vI v3, vI (1 : Int32), vI v5, vI v6, vI v7, vI v8, vI v9, vR b11, vR b30, vI (own_min (1 : Int32) v5)] [(.int (2 : Int32)), (.ref b11)])) _
      exact k)
    obtain ⟨cl85, Ar85, q85, S85, M85, H85, G85⟩ := id nf69_4
    have in85 : ¬ ((2 : Int32) < 0 ∨ cl85.slots.size ≤ ((2 : Int32)).toNatClampNeg) := inb_of S85 ⟨by decide, by decide⟩
    have at85 : cl85.slots[((2 : Int32)).toNatClampNeg]? = some (.int (own_expect (2 : Int32) v8 (1 : Int32) v5 v1 p1 v2 p2 v3 p3)) := H85.at in85 rfl
    have pre86 : Go p.tables e below S0 T83 (mkF m 240 #[vI p0, vI p1, vI p2, vI p3, vJ q4, .second, vJ q5, .second, vI v1, vI v2, vI v3, vI (1 : Int32), vI v5, vI v6, vI v7, vI v8, vI v9, vR b11, vR b30, vI (own_min (1 : Int32) v5)] [(.int p3), (.int v3), (.int p2), (.int v2), (.int p1), (.int v1), (.int v5), (.int (1 : Int32)), (.int v8), (.int (2 : Int32)), (.int (own_expect (2 : Int32) v8 (1 : Int32) v5 v1 p1 v2 p2 v3 p3))]) := fun t k => pre84 t (by
      refine X83.iaload hx (j := (2 : Int32)) (v := (.int (own_expect (2 : Int32) v8 (1 : Int32) v5 v1 p1 v2 p2 v3 p3))) (by rw [eq83]; exact Ar85.1) (State.isArrayOf_alike hZ.alike Ar85.2.1) Ar85.2.2 in85 at85 (g := (mkF m 223 #[vI p0, vI p1, vI p2, vI p3, vJ q4, .second, vJ q5, .second, vI v1, vI v2, vI v3, vI (1 : Int32), vI v5, vI v6, vI v7, vI v8, vI v9, vR b11, vR b30, vI (own_min (1 : Int32) v5)] [(.int (2 : Int32)), (.ref b11)])) rfl rfl (hb hby at_223) _ ?_
      show Steps p.tables e below (T83.setTop (mkF m 224 #[vI p0, vI p1, vI p2, vI p3, vJ q4, .second, vJ q5, .second, vI v1, vI v2, vI v3, vI (1 : Int32), vI v5, vI v6, vI v7, vI v8, vI v9, vR b11, vR b30, vI (own_min (1 : Int32) v5)] [(.int (own_expect (2 : Int32) v8 (1 : Int32) v5 v1 p1 v2 p2 v3 p3))])) _
      refine XS.iconst X83.here hx rfl (hb hby at_224) ?_
      show Steps p.tables e below (T83.setTop (mkF m 225 #[vI p0, vI p1, vI p2, vI p3, vJ q4, .second, vJ q5, .second, vI v1, vI v2, vI v3, vI (1 : Int32), vI v5, vI v6, vI v7, vI v8, vI v9, vR b11, vR b30, vI (own_min (1 : Int32) v5)] [(.int (2 : Int32)), (.int (own_expect (2 : Int32) v8 (1 : Int32) v5 v1 p1 v2 p2 v3 p3))])) _
      refine XS.iload X83.here hx rfl (hb hby at_225) rfl ?_
      show Steps p.tables e below (T83.setTop (mkF m 227 #[vI p0, vI p1, vI p2, vI p3, vJ q4, .second, vJ q5, .second, vI v1, vI v2, vI v3, vI (1 : Int32), vI v5, vI v6, vI v7, vI v8, vI v9, vR b11, vR b30, vI (own_min (1 : Int32) v5)] [(.int v8), (.int (2 : Int32)), (.int (own_expect (2 : Int32) v8 (1 : Int32) v5 v1 p1 v2 p2 v3 p3))])) _
      refine XS.iload X83.here hx rfl (hb hby at_227) rfl ?_
      show Steps p.tables e below (T83.setTop (mkF m 229 #[vI p0, vI p1, vI p2, vI p3, vJ q4, .second, vJ q5, .second, vI v1, vI v2, vI v3, vI (1 : Int32), vI v5, vI v6, vI v7, vI v8, vI v9, vR b11, vR b30, vI (own_min (1 : Int32) v5)] [(.int (1 : Int32)), (.int v8), (.int (2 : Int32)), (.int (own_expect (2 : Int32) v8 (1 : Int32) v5 v1 p1 v2 p2 v3 p3))])) _
      refine XS.iload X83.here hx rfl (hb hby at_229) rfl ?_
      show Steps p.tables e below (T83.setTop (mkF m 231 #[vI p0, vI p1, vI p2, vI p3, vJ q4, .second, vJ q5, .second, vI v1, vI v2, vI v3, vI (1 : Int32), vI v5, vI v6, vI v7, vI v8, vI v9, vR b11, vR b30, vI (own_min (1 : Int32) v5)] [(.int v5), (.int (1 : Int32)), (.int v8), (.int (2 : Int32)), (.int (own_expect (2 : Int32) v8 (1 : Int32) v5 v1 p1 v2 p2 v3 p3))])) _
      refine XS.iload X83.here hx rfl (hb hby at_231) rfl ?_
      show Steps p.tables e below (T83.setTop (mkF m 233 #[vI p0, vI p1, vI p2, vI p3, vJ q4, .second, vJ q5, .second, vI v1, vI v2, vI v3, vI (1 : Int32), vI v5, vI v6, vI v7, vI v8, vI v9, vR b11, vR b30, vI (own_min (1 : Int32) v5)] [(.int v1), (.int v5), (.int (1 : Int32)), (.int v8), (.int (2 : Int32)), (.int (own_expect (2 : Int32) v8 (1 : Int32) v5 v1 p1 v2 p2 v3 p3))])) _
      refine XS.iloadN X83.here hx rfl (hb hby at_233) rfl ?_
      show Steps p.tables e below (T83.setTop (mkF m 234 #[vI p0, vI p1, vI p2, vI p3, vJ q4, .second, vJ q5, .second, vI v1, vI v2, vI v3, vI (1 : Int32), vI v5, vI v6, vI v7, vI v8, vI v9, vR b11, vR b30, vI (own_min (1 : Int32) v5)] [(.int p1), (.int v1), (.int v5), (.int (1 : Int32)), (.int v8), (.int (2 : Int32)), (.int (own_expect (2 : Int32) v8 (1 : Int32) v5 v1 p1 v2 p2 v3 p3))])) _
      refine XS.iload X83.here hx rfl (hb hby at_234) rfl ?_
      show Steps p.tables e below (T83.setTop (mkF m 236 #[vI p0, vI p1, vI p2, vI p3, vJ q4, .second, vJ q5, .second, vI v1, vI v2, vI v3, vI (1 : Int32), vI v5, vI v6, vI v7, vI v8, vI v9, vR b11, vR b30, vI (own_min (1 : Int32) v5)] [(.int v2), (.int p1), (.int v1), (.int v5), (.int (1 : Int32)), (.int v8), (.int (2 : Int32)), (.int (own_expect (2 : Int32) v8 (1 : Int32) v5 v1 p1 v2 p2 v3 p3))])) _
      refine XS.iloadN X83.here hx rfl (hb hby at_236) rfl ?_
      show Steps p.tables e below (T83.setTop (mkF m 237 #[vI p0, vI p1, vI p2, vI p3, vJ q4, .second, vJ q5, .second, vI v1, vI v2, vI v3, vI (1 : Int32), vI v5, vI v6, vI v7, vI v8, vI v9, vR b11, vR b30, vI (own_min (1 : Int32) v5)] [(.int p2), (.int v2), (.int p1), (.int v1), (.int v5), (.int (1 : Int32)), (.int v8), (.int (2 : Int32)), (.int (own_expect (2 : Int32) v8 (1 : Int32) v5 v1 p1 v2 p2 v3 p3))])) _
      refine XS.iload X83.here hx rfl (hb hby at_237) rfl ?_
      show Steps p.tables e below (T83.setTop (mkF m 239 #[vI p0, vI p1, vI p2, vI p3, vJ q4, .second, vJ q5, .second, vI v1, vI v2, vI v3, vI (1 : Int32), vI v5, vI v6, vI v7, vI v8, vI v9, vR b11, vR b30, vI (own_min (1 : Int32) v5)] [(.int v3), (.int p2), (.int v2), (.int p1), (.int v1), (.int v5), (.int (1 : Int32)), (.int v8), (.int (2 : Int32)), (.int (own_expect (2 : Int32) v8 (1 : Int32) v5 v1 p1 v2 p2 v3 p3))])) _
      refine XS.iloadN X83.here hx rfl (hb hby at_239) rfl ?_
      show Steps p.tables e below (T83.setTop (mkF m 240 #[vI p0, vI p1, vI p2, vI p3, vJ q4, .second, vJ q5, .second, vI v1, vI v2, vI v3, vI (1 : Int32), vI v5, vI v6, vI v7, vI v8, vI v9, vR b11, vR b30, vI (own_min (1 : Int32) v5)] [(.int p3), (.int v3), (.int p2), (.int v2), (.int p1), (.int v1), (.int v5), (.int (1 : Int32)), (.int v8), (.int (2 : Int32)), (.int (own_expect (2 : Int32) v8 (1 : Int32) v5 v1 p1 v2 p2 v3 p3))])) _
      exact k)
    obtain ⟨_, _, ⟨T87, qL87, qk87, qn87⟩, -, X87, ⟨Lc87, hQ87, ql87, qy87, qz87⟩, st87⟩ := Jvm.LawKit.callS X83 hx (y := (⟨"com/example/motiflow/motiflow/UndoLogTakeBackPinLaw", "expect", "(IIIIIIIIII)I"⟩ : MethodName)) hown (mvT hZ (hw _ (List.mem_of_getElem? (i := 30) rfl))) (mvT hZ (hw _ (List.mem_of_getElem? (i := 31) rfl))) (mvT hZ (hw _ (List.mem_of_getElem? (i := 32) rfl))) (mvT hZ (hw _ (List.mem_of_getElem? (i := 33) rfl))) (by decide) (backOf (W := 1) (rm6 l Z A0 hw [] (2 : Int32) v8 (1 : Int32) v5 v1 p1 v2 p2 v3 p3 T69.heap n0 zz71) hZ (hw _ (List.mem_of_getElem? (i := 33) rfl)) (hw _ (List.mem_of_getElem? (i := 32) rfl)) (by decide) (by decide)) (g := (mkF m 240 #[vI p0, vI p1, vI p2, vI p3, vJ q4, .second, vJ q5, .second, vI v1, vI v2, vI v3, vI (1 : Int32), vI v5, vI v6, vI v7, vI v8, vI v9, vR b11, vR b30, vI (own_min (1 : Int32) v5)] [(.int p3), (.int v3), (.int p2), (.int v2), (.int p1), (.int v1), (.int v5), (.int (1 : Int32)), (.int v8), (.int (2 : Int32)), (.int (own_expect (2 : Int32) v8 (1 : Int32) v5 v1 p1 v2 p2 v3 p3))])) rfl (by rw [hml]; rfl) (argsL := [(.int (2 : Int32)), (.int v8), (.int (1 : Int32)), (.int v5), (.int v1), (.int p1), (.int v2), (.int p2), (.int v3), (.int p3)]) (rest := [(.int (own_expect (2 : Int32) v8 (1 : Int32) v5 v1 p1 v2 p2 v3 p3))]) (lenOf pd_5 rfl) rfl (by show 2 * 0 + _ ≤ _; exact Nat.le_of_eq rfl) (hb hby at_240) (fun _ _ => ⟨rfl, eq83, (by decide : 4 + 0 ≤ _), (by decide : 39 + 0 ≤ _)⟩)
    dsimp only [Pt.U, Pt.locs, Pt.cells, Pt.slots] at X87 ql87 qy87 qz87 st87 hQ87
    subst ql87 qy87 qz87
    obtain ⟨rfl, Nq87, eq87⟩ := hQ87
    have N87 := Fr.app N83 Nq87
    have pre87 : Go p.tables e below S0 T87 (mkF m 243 #[vI p0, vI p1, vI p2, vI p3, vJ q4, .second, vJ q5, .second, vI v1, vI v2, vI v3, vI (1 : Int32), vI v5, vI v6, vI v7, vI v8, vI v9, vR b11, vR b30, vI (own_min (1 : Int32) v5)] [(.int (own_expect (2 : Int32) v8 (1 : Int32) v5 v1 p1 v2 p2 v3 p3)), (.int (own_expect (2 : Int32) v8 (1 : Int32) v5 v1 p1 v2 p2 v3 p3))]) := fun t k => pre86 t (st87 t k)
    have pre88 : Go p.tables e below S0 T87 (mkF m 249 #[vI p0, vI p1, vI p2, vI p3, vJ q4, .second, vJ q5, .second, vI v1, vI v2, vI v3, vI (1 : Int32), vI v5, vI v6, vI v7, vI v8, vI v9, vR b11, vR b30, vI (own_min (1 : Int32) v5)] [(.int (3 : Int32)), (.ref b11)]) := fun t k => pre87 t (by
      refine XS.icmpNo X87.here hx rfl (hb hby at_243) rfl (teq (rfl : (own_expect (2 : Int32) v8 (1 : Int32) v5 v1 p1 v2 p2 v3 p3) = (own_expect (2 : Int32) v8 (1 : Int32) v5 v1 p1 v2 p2 v3 p3))).2 ?_
      show Steps p.tables e below (T87.setTop (mkF m 246 #[vI p0, vI p1, vI p2, vI p3, vJ q4, .second, vJ q5, .second, vI v1, vI v2, vI v3, vI (1 : Int32), vI v5, vI v6, vI v7, vI v8, vI v9, vR b11, vR b30, vI (own_min (1 : Int32) v5)] [])) _
      refine XS.aload X87.here hx rfl (hb hby at_246) rfl rfl ?_
      show Steps p.tables e below (T87.setTop (mkF m 248 #[vI p0, vI p1, vI p2, vI p3, vJ q4, .second, vJ q5, .second, vI v1, vI v2, vI v3, vI (1 : Int32), vI v5, vI v6, vI v7, vI v8, vI v9, vR b11, vR b30, vI (own_min (1 : Int32) v5)] [(.ref b11)])) _
      refine XS.iconst X87.here hx rfl (hb hby at_248) ?_
      show Steps p.tables e below (T87.setTop (mkF m 249 #[vI p0, vI p1, vI p2, vI p3, vJ q4, .second, vJ q5, .second, vI v1, vI v2, vI v3, vI (1 : Int32), vI v5, vI v6, vI v7, vI v8, vI v9, vR b11, vR b30, vI (own_min (1 : Int32) v5)] [(.int (3 : Int32)), (.ref b11)])) _
      exact k)
    obtain ⟨cl89, Ar89, q89, S89, M89, H89, G89⟩ := id nf69_4
    have in89 : ¬ ((3 : Int32) < 0 ∨ cl89.slots.size ≤ ((3 : Int32)).toNatClampNeg) := inb_of S89 ⟨by decide, by decide⟩
    have at89 : cl89.slots[((3 : Int32)).toNatClampNeg]? = some (.int (own_expect (3 : Int32) v9 (1 : Int32) v5 v1 p1 v2 p2 v3 p3)) := H89.at in89 rfl
    have pre90 : Go p.tables e below S0 T87 (mkF m 266 #[vI p0, vI p1, vI p2, vI p3, vJ q4, .second, vJ q5, .second, vI v1, vI v2, vI v3, vI (1 : Int32), vI v5, vI v6, vI v7, vI v8, vI v9, vR b11, vR b30, vI (own_min (1 : Int32) v5)] [(.int p3), (.int v3), (.int p2), (.int v2), (.int p1), (.int v1), (.int v5), (.int (1 : Int32)), (.int v9), (.int (3 : Int32)), (.int (own_expect (3 : Int32) v9 (1 : Int32) v5 v1 p1 v2 p2 v3 p3))]) := fun t k => pre88 t (by
      refine X87.iaload hx (j := (3 : Int32)) (v := (.int (own_expect (3 : Int32) v9 (1 : Int32) v5 v1 p1 v2 p2 v3 p3))) (by rw [eq87]; exact Ar89.1) (State.isArrayOf_alike hZ.alike Ar89.2.1) Ar89.2.2 in89 at89 (g := (mkF m 249 #[vI p0, vI p1, vI p2, vI p3, vJ q4, .second, vJ q5, .second, vI v1, vI v2, vI v3, vI (1 : Int32), vI v5, vI v6, vI v7, vI v8, vI v9, vR b11, vR b30, vI (own_min (1 : Int32) v5)] [(.int (3 : Int32)), (.ref b11)])) rfl rfl (hb hby at_249) _ ?_
      show Steps p.tables e below (T87.setTop (mkF m 250 #[vI p0, vI p1, vI p2, vI p3, vJ q4, .second, vJ q5, .second, vI v1, vI v2, vI v3, vI (1 : Int32), vI v5, vI v6, vI v7, vI v8, vI v9, vR b11, vR b30, vI (own_min (1 : Int32) v5)] [(.int (own_expect (3 : Int32) v9 (1 : Int32) v5 v1 p1 v2 p2 v3 p3))])) _
      refine XS.iconst X87.here hx rfl (hb hby at_250) ?_
      show Steps p.tables e below (T87.setTop (mkF m 251 #[vI p0, vI p1, vI p2, vI p3, vJ q4, .second, vJ q5, .second, vI v1, vI v2, vI v3, vI (1 : Int32), vI v5, vI v6, vI v7, vI v8, vI v9, vR b11, vR b30, vI (own_min (1 : Int32) v5)] [(.int (3 : Int32)), (.int (own_expect (3 : Int32) v9 (1 : Int32) v5 v1 p1 v2 p2 v3 p3))])) _
      refine XS.iload X87.here hx rfl (hb hby at_251) rfl ?_
      show Steps p.tables e below (T87.setTop (mkF m 253 #[vI p0, vI p1, vI p2, vI p3, vJ q4, .second, vJ q5, .second, vI v1, vI v2, vI v3, vI (1 : Int32), vI v5, vI v6, vI v7, vI v8, vI v9, vR b11, vR b30, vI (own_min (1 : Int32) v5)] [(.int v9), (.int (3 : Int32)), (.int (own_expect (3 : Int32) v9 (1 : Int32) v5 v1 p1 v2 p2 v3 p3))])) _
      refine XS.iload X87.here hx rfl (hb hby at_253) rfl ?_
      show Steps p.tables e below (T87.setTop (mkF m 255 #[vI p0, vI p1, vI p2, vI p3, vJ q4, .second, vJ q5, .second, vI v1, vI v2, vI v3, vI (1 : Int32), vI v5, vI v6, vI v7, vI v8, vI v9, vR b11, vR b30, vI (own_min (1 : Int32) v5)] [(.int (1 : Int32)), (.int v9), (.int (3 : Int32)), (.int (own_expect (3 : Int32) v9 (1 : Int32) v5 v1 p1 v2 p2 v3 p3))])) _
      refine XS.iload X87.here hx rfl (hb hby at_255) rfl ?_
      show Steps p.tables e below (T87.setTop (mkF m 257 #[vI p0, vI p1, vI p2, vI p3, vJ q4, .second, vJ q5, .second, vI v1, vI v2, vI v3, vI (1 : Int32), vI v5, vI v6, vI v7, vI v8, vI v9, vR b11, vR b30, vI (own_min (1 : Int32) v5)] [(.int v5), (.int (1 : Int32)), (.int v9), (.int (3 : Int32)), (.int (own_expect (3 : Int32) v9 (1 : Int32) v5 v1 p1 v2 p2 v3 p3))])) _
      refine XS.iload X87.here hx rfl (hb hby at_257) rfl ?_
      show Steps p.tables e below (T87.setTop (mkF m 259 #[vI p0, vI p1, vI p2, vI p3, vJ q4, .second, vJ q5, .second, vI v1, vI v2, vI v3, vI (1 : Int32), vI v5, vI v6, vI v7, vI v8, vI v9, vR b11, vR b30, vI (own_min (1 : Int32) v5)] [(.int v1), (.int v5), (.int (1 : Int32)), (.int v9), (.int (3 : Int32)), (.int (own_expect (3 : Int32) v9 (1 : Int32) v5 v1 p1 v2 p2 v3 p3))])) _
      refine XS.iloadN X87.here hx rfl (hb hby at_259) rfl ?_
      show Steps p.tables e below (T87.setTop (mkF m 260 #[vI p0, vI p1, vI p2, vI p3, vJ q4, .second, vJ q5, .second, vI v1, vI v2, vI v3, vI (1 : Int32), vI v5, vI v6, vI v7, vI v8, vI v9, vR b11, vR b30, vI (own_min (1 : Int32) v5)] [(.int p1), (.int v1), (.int v5), (.int (1 : Int32)), (.int v9), (.int (3 : Int32)), (.int (own_expect (3 : Int32) v9 (1 : Int32) v5 v1 p1 v2 p2 v3 p3))])) _
      refine XS.iload X87.here hx rfl (hb hby at_260) rfl ?_
      show Steps p.tables e below (T87.setTop (mkF m 262 #[vI p0, vI p1, vI p2, vI p3, vJ q4, .second, vJ q5, .second, vI v1, vI v2, vI v3, vI (1 : Int32), vI v5, vI v6, vI v7, vI v8, vI v9, vR b11, vR b30, vI (own_min (1 : Int32) v5)] [(.int v2), (.int p1), (.int v1), (.int v5), (.int (1 : Int32)), (.int v9), (.int (3 : Int32)), (.int (own_expect (3 : Int32) v9 (1 : Int32) v5 v1 p1 v2 p2 v3 p3))])) _
      refine XS.iloadN X87.here hx rfl (hb hby at_262) rfl ?_
      show Steps p.tables e below (T87.setTop (mkF m 263 #[vI p0, vI p1, vI p2, vI p3, vJ q4, .second, vJ q5, .second, vI v1, vI v2, vI v3, vI (1 : Int32), vI v5, vI v6, vI v7, vI v8, vI v9, vR b11, vR b30, vI (own_min (1 : Int32) v5)] [(.int p2), (.int v2), (.int p1), (.int v1), (.int v5), (.int (1 : Int32)), (.int v9), (.int (3 : Int32)), (.int (own_expect (3 : Int32) v9 (1 : Int32) v5 v1 p1 v2 p2 v3 p3))])) _
      refine XS.iload X87.here hx rfl (hb hby at_263) rfl ?_
      show Steps p.tables e below (T87.setTop (mkF m 265 #[vI p0, vI p1, vI p2, vI p3, vJ q4, .second, vJ q5, .second, vI v1, vI v2, vI v3, vI (1 : Int32), vI v5, vI v6, vI v7, vI v8, vI v9, vR b11, vR b30, vI (own_min (1 : Int32) v5)] [(.int v3), (.int p2), (.int v2), (.int p1), (.int v1), (.int v5), (.int (1 : Int32)), (.int v9), (.int (3 : Int32)), (.int (own_expect (3 : Int32) v9 (1 : Int32) v5 v1 p1 v2 p2 v3 p3))])) _
      refine XS.iloadN X87.here hx rfl (hb hby at_265) rfl ?_
      show Steps p.tables e below (T87.setTop (mkF m 266 #[vI p0, vI p1, vI p2, vI p3, vJ q4, .second, vJ q5, .second, vI v1, vI v2, vI v3, vI (1 : Int32), vI v5, vI v6, vI v7, vI v8, vI v9, vR b11, vR b30, vI (own_min (1 : Int32) v5)] [(.int p3), (.int v3), (.int p2), (.int v2), (.int p1), (.int v1), (.int v5), (.int (1 : Int32)), (.int v9), (.int (3 : Int32)), (.int (own_expect (3 : Int32) v9 (1 : Int32) v5 v1 p1 v2 p2 v3 p3))])) _
      exact k)
    obtain ⟨_, _, ⟨T91, qL91, qk91, qn91⟩, -, X91, ⟨Lc91, hQ91, ql91, qy91, qz91⟩, st91⟩ := Jvm.LawKit.callS X87 hx (y := (⟨"com/example/motiflow/motiflow/UndoLogTakeBackPinLaw", "expect", "(IIIIIIIIII)I"⟩ : MethodName)) hown (mvT hZ (hw _ (List.mem_of_getElem? (i := 30) rfl))) (mvT hZ (hw _ (List.mem_of_getElem? (i := 31) rfl))) (mvT hZ (hw _ (List.mem_of_getElem? (i := 32) rfl))) (mvT hZ (hw _ (List.mem_of_getElem? (i := 33) rfl))) (by decide) (backOf (W := 1) (rm6 l Z A0 hw [] (3 : Int32) v9 (1 : Int32) v5 v1 p1 v2 p2 v3 p3 T69.heap n0 zz71) hZ (hw _ (List.mem_of_getElem? (i := 33) rfl)) (hw _ (List.mem_of_getElem? (i := 32) rfl)) (by decide) (by decide)) (g := (mkF m 266 #[vI p0, vI p1, vI p2, vI p3, vJ q4, .second, vJ q5, .second, vI v1, vI v2, vI v3, vI (1 : Int32), vI v5, vI v6, vI v7, vI v8, vI v9, vR b11, vR b30, vI (own_min (1 : Int32) v5)] [(.int p3), (.int v3), (.int p2), (.int v2), (.int p1), (.int v1), (.int v5), (.int (1 : Int32)), (.int v9), (.int (3 : Int32)), (.int (own_expect (3 : Int32) v9 (1 : Int32) v5 v1 p1 v2 p2 v3 p3))])) rfl (by rw [hml]; rfl) (argsL := [(.int (3 : Int32)), (.int v9), (.int (1 : Int32)), (.int v5), (.int v1), (.int p1), (.int v2), (.int p2), (.int v3), (.int p3)]) (rest := [(.int (own_expect (3 : Int32) v9 (1 : Int32) v5 v1 p1 v2 p2 v3 p3))]) (lenOf pd_5 rfl) rfl (by show 2 * 0 + _ ≤ _; exact Nat.le_of_eq rfl) (hb hby at_266) (fun _ _ => ⟨rfl, eq87, (by decide : 4 + 0 ≤ _), (by decide : 39 + 0 ≤ _)⟩)
    dsimp only [Pt.U, Pt.locs, Pt.cells, Pt.slots] at X91 ql91 qy91 qz91 st91 hQ91
    subst ql91 qy91 qz91
    obtain ⟨rfl, Nq91, eq91⟩ := hQ91
    have N91 := Fr.app N87 Nq91
    have pre91 : Go p.tables e below S0 T91 (mkF m 269 #[vI p0, vI p1, vI p2, vI p3, vJ q4, .second, vJ q5, .second, vI v1, vI v2, vI v3, vI (1 : Int32), vI v5, vI v6, vI v7, vI v8, vI v9, vR b11, vR b30, vI (own_min (1 : Int32) v5)] [(.int (own_expect (3 : Int32) v9 (1 : Int32) v5 v1 p1 v2 p2 v3 p3)), (.int (own_expect (3 : Int32) v9 (1 : Int32) v5 v1 p1 v2 p2 v3 p3))]) := fun t k => pre90 t (st91 t k)
    have pre92 : Go p.tables e below S0 T91 (mkF m 277 #[vI p0, vI p1, vI p2, vI p3, vJ q4, .second, vJ q5, .second, vI v1, vI v2, vI v3, vI (1 : Int32), vI v5, vI v6, vI v7, vI v8, vI v9, vR b11, vR b30, vI (own_min (1 : Int32) v5)] [(.int (1 : Int32))]) := fun t k => pre91 t (by
      refine XS.icmpNo X91.here hx rfl (hb hby at_269) rfl (teq (rfl : (own_expect (3 : Int32) v9 (1 : Int32) v5 v1 p1 v2 p2 v3 p3) = (own_expect (3 : Int32) v9 (1 : Int32) v5 v1 p1 v2 p2 v3 p3))).2 ?_
      show Steps p.tables e below (T91.setTop (mkF m 272 #[vI p0, vI p1, vI p2, vI p3, vJ q4, .second, vJ q5, .second, vI v1, vI v2, vI v3, vI (1 : Int32), vI v5, vI v6, vI v7, vI v8, vI v9, vR b11, vR b30, vI (own_min (1 : Int32) v5)] [])) _
      refine XS.iconst X91.here hx rfl (hb hby at_272) ?_
      show Steps p.tables e below (T91.setTop (mkF m 273 #[vI p0, vI p1, vI p2, vI p3, vJ q4, .second, vJ q5, .second, vI v1, vI v2, vI v3, vI (1 : Int32), vI v5, vI v6, vI v7, vI v8, vI v9, vR b11, vR b30, vI (own_min (1 : Int32) v5)] [(.int (1 : Int32))])) _
      refine XS.goto X91.here hx rfl (pc0 := 273) (pc' := 277) rfl (hb hby at_273) (by decide) (by decide) ?_
      show Steps p.tables e below (T91.setTop (mkF m 277 #[vI p0, vI p1, vI p2, vI p3, vJ q4, .second, vJ q5, .second, vI v1, vI v2, vI v3, vI (1 : Int32), vI v5, vI v6, vI v7, vI v8, vI v9, vR b11, vR b30, vI (own_min (1 : Int32) v5)] [(.int (1 : Int32))])) _
      exact k)
    obtain ⟨fs, hr, hrun, hended, hW, hsame⟩ := X91.leave (v := some (.int (1 : Int32))) (fun h => by rw [Bd.returns] at h; cases h)
    exact ⟨_, _, pre92.fin hS0 (retN X91 hx (t := .boolean) Bd.returns (by simp) (hb hby at_277) hr), hrun, hended, _, _, rfl, (by
      show Q0 Z p0 p1 p2 p3 q4 q5 h0 n0 _ T91.heap _
      rw [eq91]
      exact ⟨rfl, N91⟩), ⟨_, rfl⟩, hW, hsame.mono (by decide) (by decide)⟩
  · skip
    have pre93 : Go p.tables e below S0 T35 (mkF m 109 #[vI p0, vI p1, vI p2, vI p3, vJ q4, .second, vJ q5, .second, vI v1, vI v2, vI v3, vI (2 : Int32), vI v5, vI v6, vI v7, vI v8, vI v9, vR b11, vR b30, .unset] [(.int p1), (.int v1), (.ref b30)]) := fun t k => pre38 t (by
      refine XS.iload X35.here hx rfl (hb hby at_99) rfl ?_
      show Steps p.tables e below (T35.setTop (mkF m 101 #[vI p0, vI p1, vI p2, vI p3, vJ q4, .second, vJ q5, .second, vI v1, vI v2, vI v3, vI (2 : Int32), vI v5, vI v6, vI v7, vI v8, vI v9, vR b11, vR b30, .unset] [(.int (2 : Int32))])) _
      refine XS.ifNo X35.here hx rfl (hb hby at_101) rfl ((if0 _ _).trans (tlt (by decide : (0 : Int32) < (2 : Int32))).2.2.2) ?_
      show Steps p.tables e below (T35.setTop (mkF m 104 #[vI p0, vI p1, vI p2, vI p3, vJ q4, .second, vJ q5, .second, vI v1, vI v2, vI v3, vI (2 : Int32), vI v5, vI v6, vI v7, vI v8, vI v9, vR b11, vR b30, .unset] [])) _
      refine XS.aload X35.here hx rfl (hb hby at_104) rfl rfl ?_
      show Steps p.tables e below (T35.setTop (mkF m 106 #[vI p0, vI p1, vI p2, vI p3, vJ q4, .second, vJ q5, .second, vI v1, vI v2, vI v3, vI (2 : Int32), vI v5, vI v6, vI v7, vI v8, vI v9, vR b11, vR b30, .unset] [(.ref b30)])) _
      refine XS.iload X35.here hx rfl (hb hby at_106) rfl ?_
      show Steps p.tables e below (T35.setTop (mkF m 108 #[vI p0, vI p1, vI p2, vI p3, vJ q4, .second, vJ q5, .second, vI v1, vI v2, vI v3, vI (2 : Int32), vI v5, vI v6, vI v7, vI v8, vI v9, vR b11, vR b30, .unset] [(.int v1), (.ref b30)])) _
      refine XS.iloadN X35.here hx rfl (hb hby at_108) rfl ?_
      show Steps p.tables e below (T35.setTop (mkF m 109 #[vI p0, vI p1, vI p2, vI p3, vJ q4, .second, vJ q5, .second, vI v1, vI v2, vI v3, vI (2 : Int32), vI v5, vI v6, vI v7, vI v8, vI v9, vR b11, vR b30, .unset] [(.int p1), (.int v1), (.ref b30)])) _
      exact k)
    obtain ⟨cq94, kq94, qa94, qb94, qc94⟩ := isOf hZ rfl nf35_0
    obtain ⟨_, _, ⟨T94, qL94, qk94, qn94⟩, -, X94, ⟨Lc94, hQ94, ql94, qy94, qz94⟩, st94⟩ := X35.virtualBack hx (y := (⟨"com/example/motiflow/motiflow/UndoLog", "record", "(II)V"⟩ : MethodName)) (z := (⟨"com/example/motiflow/motiflow/UndoLog", "record", "(II)V"⟩ : MethodName)) hown (mvT hZ (hw _ (List.mem_of_getElem? (i := 34) rfl))) (mvT hZ (hw _ (List.mem_of_getElem? (i := 35) rfl))) (notFace_of_selects (args := #[]) (mvT hZ (hw _ (List.mem_of_getElem? (i := 37) rfl)))) (mvT hZ (hw _ (List.mem_of_getElem? (i := 37) rfl))) (mvT hZ (hw _ (List.mem_of_getElem? (i := 36) rfl))) (by decide) (backOf (W := 0) (rm7_0 l Z A0 hw [] b30 v1 p1 b1_35 b2_35 k1_35 k2_35 T35.heap n0 zz37 nf35_0 nf35_1 nf35_2 nf35_3 nf35_4 nf35_5 (Ne.symm nn35_0_1) (Ne.symm nn35_1_1) hq35.2.2 bo30 bo35_0 bo35_1) hZ (hw _ (List.mem_of_getElem? (i := 38) rfl)) (hw _ (List.mem_of_getElem? (i := 3) rfl)) (by decide) (by decide)) qa94 qc94 (g := (mkF m 109 #[vI p0, vI p1, vI p2, vI p3, vJ q4, .second, vJ q5, .second, vI v1, vI v2, vI v3, vI (2 : Int32), vI v5, vI v6, vI v7, vI v8, vI v9, vR b11, vR b30, .unset] [(.int p1), (.int v1), (.ref b30)])) rfl (by rw [hml]; rfl) (Steps.refl _) (argsL := [(.int v1), (.int p1)]) (rest := []) (lenOf pd_6 rfl) rfl (by show 2 * 0 + _ ≤ _; exact Nat.le_of_eq rfl) (hb hby at_109) (fun _ _ => ⟨rfl, rfl, (by decide : 4 + 0 ≤ _), (by decide : 39 + 0 ≤ _)⟩)
    dsimp only [Pt.U, Pt.locs, Pt.cells, Pt.slots] at X94 ql94 qy94 qz94 st94 hQ94
    subst ql94 qy94 qz94
    obtain ⟨rfl, Nq94, Kq94, nf94_0, nf94_1, nf94_2, nf94_3, nf94_4, nf94_5⟩ := hQ94
    have N94 := Fr.app N35 Nq94
    have pre94 : Go p.tables e below S0 T94 (mkF m 112 #[vI p0, vI p1, vI p2, vI p3, vJ q4, .second, vJ q5, .second, vI v1, vI v2, vI v3, vI (2 : Int32), vI v5, vI v6, vI v7, vI v8, vI v9, vR b11, vR b30, .unset] []) := fun t k => pre93 t (st94.trans k)
    have f95_1 := f36_1.keep Kq94 (ninS ne31 (ninS nn35_0_0 (ninS nn35_1_0 nin0)))
    have zz96 : n0 ≤ T94.heap.size := Nat.le_trans zz37 Kq94.1
    have pre97 : Go p.tables e below S0 T94 (mkF m 123 #[vI p0, vI p1, vI p2, vI p3, vJ q4, .second, vJ q5, .second, vI v1, vI v2, vI v3, vI (2 : Int32), vI v5, vI v6, vI v7, vI v8, vI v9, vR b11, vR b30, .unset] [(.int p2), (.int v2), (.ref b30)]) := fun t k => pre94 t (by
      refine XS.iload X94.here hx rfl (hb hby at_112) rfl ?_
      show Steps p.tables e below (T94.setTop (mkF m 114 #[vI p0, vI p1, vI p2, vI p3, vJ q4, .second, vJ q5, .second, vI v1, vI v2, vI v3, vI (2 : Int32), vI v5, vI v6, vI v7, vI v8, vI v9, vR b11, vR b30, .unset] [(.int (2 : Int32))])) _
      refine XS.iconst X94.here hx rfl (hb hby at_114) ?_
      show Steps p.tables e below (T94.setTop (mkF m 115 #[vI p0, vI p1, vI p2, vI p3, vJ q4, .second, vJ q5, .second, vI v1, vI v2, vI v3, vI (2 : Int32), vI v5, vI v6, vI v7, vI v8, vI v9, vR b11, vR b30, .unset] [(.int (1 : Int32)), (.int (2 : Int32))])) _
      refine XS.icmpNo X94.here hx rfl (hb hby at_115) rfl (tlt (by decide : (1 : Int32) < (2 : Int32))).2.2.2 ?_
      show Steps p.tables e below (T94.setTop (mkF m 118 #[vI p0, vI p1, vI p2, vI p3, vJ q4, .second, vJ q5, .second, vI v1, vI v2, vI v3, vI (2 : Int32), vI v5, vI v6, vI v7, vI v8, vI v9, vR b11, vR b30, .unset] [])) _
      refine XS.aload X94.here hx rfl (hb hby at_118) rfl rfl ?_
      show Steps p.tables e below (T94.setTop (mkF m 120 #[vI p0, vI p1, vI p2, vI p3, vJ q4, .second, vJ q5, .second, vI v1, vI v2, vI v3, vI (2 : Int32), vI v5, vI v6, vI v7, vI v8, vI v9, vR b11, vR b30, .unset] [(.ref b30)])) _
      refine XS.iload X94.here hx rfl (hb hby at_120) rfl ?_
      show Steps p.tables e below (T94.setTop (mkF m 122 #[vI p0, vI p1, vI p2, vI p3, vJ q4, .second, vJ q5, .second, vI v1, vI v2, vI v3, vI (2 : Int32), vI v5, vI v6, vI v7, vI v8, vI v9, vR b11, vR b30, .unset] [(.int v2), (.ref b30)])) _
      refine XS.iloadN X94.here hx rfl (hb hby at_122) rfl ?_
      show Steps p.tables e below (T94.setTop (mkF m 123 #[vI p0, vI p1, vI p2, vI p3, vJ q4, .second, vJ q5, .second, vI v1, vI v2, vI v3, vI (2 : Int32), vI v5, vI v6, vI v7, vI v8, vI v9, vR b11, vR b30, .unset] [(.int p2), (.int v2), (.ref b30)])) _
      exact k)
    obtain ⟨cq98, kq98, qa98, qb98, qc98⟩ := isOf hZ rfl nf94_0
    obtain ⟨_, _, ⟨T98, qL98, qk98, qn98⟩, -, X98, ⟨Lc98, hQ98, ql98, qy98, qz98⟩, st98⟩ := X94.virtualBack hx (y := (⟨"com/example/motiflow/motiflow/UndoLog", "record", "(II)V"⟩ : MethodName)) (z := (⟨"com/example/motiflow/motiflow/UndoLog", "record", "(II)V"⟩ : MethodName)) hown (mvT hZ (hw _ (List.mem_of_getElem? (i := 34) rfl))) (mvT hZ (hw _ (List.mem_of_getElem? (i := 35) rfl))) (notFace_of_selects (args := #[]) (mvT hZ (hw _ (List.mem_of_getElem? (i := 37) rfl)))) (mvT hZ (hw _ (List.mem_of_getElem? (i := 37) rfl))) (mvT hZ (hw _ (List.mem_of_getElem? (i := 36) rfl))) (by decide) (backOf (W := 0) (rm7_1 l Z A0 hw [] b30 v2 p2 b1_35 b2_35 k1_35 k2_35 v1 p1 T94.heap n0 zz96 nf94_0 nf94_1 nf94_2 nf94_3 nf94_4 nf94_5 (Ne.symm nn35_0_1) (Ne.symm nn35_1_1) hq35.2.2 bo30 bo35_0 bo35_1) hZ (hw _ (List.mem_of_getElem? (i := 38) rfl)) (hw _ (List.mem_of_getElem? (i := 3) rfl)) (by decide) (by decide)) qa98 qc98 (g := (mkF m 123 #[vI p0, vI p1, vI p2, vI p3, vJ q4, .second, vJ q5, .second, vI v1, vI v2, vI v3, vI (2 : Int32), vI v5, vI v6, vI v7, vI v8, vI v9, vR b11, vR b30, .unset] [(.int p2), (.int v2), (.ref b30)])) rfl (by rw [hml]; rfl) (Steps.refl _) (argsL := [(.int v2), (.int p2)]) (rest := []) (lenOf pd_6 rfl) rfl (by show 2 * 0 + _ ≤ _; exact Nat.le_of_eq rfl) (hb hby at_123) (fun _ _ => ⟨rfl, rfl, (by decide : 4 + 0 ≤ _), (by decide : 39 + 0 ≤ _)⟩)
    dsimp only [Pt.U, Pt.locs, Pt.cells, Pt.slots] at X98 ql98 qy98 qz98 st98 hQ98
    subst ql98 qy98 qz98
    obtain ⟨rfl, Nq98, Kq98, nf98_0, nf98_1, nf98_2, nf98_3, nf98_4, nf98_5⟩ := hQ98
    have N98 := Fr.app N94 Nq98
    have pre98 : Go p.tables e below S0 T98 (mkF m 126 #[vI p0, vI p1, vI p2, vI p3, vJ q4, .second, vJ q5, .second, vI v1, vI v2, vI v3, vI (2 : Int32), vI v5, vI v6, vI v7, vI v8, vI v9, vR b11, vR b30, .unset] []) := fun t k => pre97 t (st98.trans k)
    have f99_1 := f95_1.keep Kq98 (ninS ne31 (ninS nn35_0_0 (ninS nn35_1_0 nin0)))
    have zz100 : n0 ≤ T98.heap.size := Nat.le_trans zz96 Kq98.1
    have pre101 : Go p.tables e below S0 T98 (mkF m 146 #[vI p0, vI p1, vI p2, vI p3, vJ q4, .second, vJ q5, .second, vI v1, vI v2, vI v3, vI (2 : Int32), vI v5, vI v6, vI v7, vI v8, vI v9, vR b11, vR b30, .unset] [(.int v5), (.ref b11), (.ref b30)]) := fun t k => pre98 t (by
      refine XS.iload X98.here hx rfl (hb hby at_126) rfl ?_
      show Steps p.tables e below (T98.setTop (mkF m 128 #[vI p0, vI p1, vI p2, vI p3, vJ q4, .second, vJ q5, .second, vI v1, vI v2, vI v3, vI (2 : Int32), vI v5, vI v6, vI v7, vI v8, vI v9, vR b11, vR b30, .unset] [(.int (2 : Int32))])) _
      refine XS.iconst X98.here hx rfl (hb hby at_128) ?_
      show Steps p.tables e below (T98.setTop (mkF m 129 #[vI p0, vI p1, vI p2, vI p3, vJ q4, .second, vJ q5, .second, vI v1, vI v2, vI v3, vI (2 : Int32), vI v5, vI v6, vI v7, vI v8, vI v9, vR b11, vR b30, .unset] [(.int (2 : Int32)), (.int (2 : Int32))])) _
      refine XS.icmpYes X98.here hx rfl (pc0 := 129) (pc' := 140) rfl (hb hby at_129) rfl (flt (by decide : ¬ ((2 : Int32) < (2 : Int32)))).2.2.2 (by decide) (by decide) ?_
      show Steps p.tables e below (T98.setTop (mkF m 140 #[vI p0, vI p1, vI p2, vI p3, vJ q4, .second, vJ q5, .second, vI v1, vI v2, vI v3, vI (2 : Int32), vI v5, vI v6, vI v7, vI v8, vI v9, vR b11, vR b30, .unset] [])) _
      refine XS.aload X98.here hx rfl (hb hby at_140) rfl rfl ?_
      show Steps p.tables e below (T98.setTop (mkF m 142 #[vI p0, vI p1, vI p2, vI p3, vJ q4, .second, vJ q5, .second, vI v1, vI v2, vI v3, vI (2 : Int32), vI v5, vI v6, vI v7, vI v8, vI v9, vR b11, vR b30, .unset] [(.ref b30)])) _
      refine XS.aload X98.here hx rfl (hb hby at_142) rfl rfl ?_
      show Steps p.tables e below (T98.setTop (mkF m 144 #[vI p0, vI p1, vI p2, vI p3, vJ q4, .second, vJ q5, .second, vI v1, vI v2, vI v3, vI (2 : Int32), vI v5, vI v6, vI v7, vI v8, vI v9, vR b11, vR b30, .unset] [(.ref b11), (.ref b30)])) _
      refine XS.iload X98.here hx rfl (hb hby at_144) rfl ?_
      show Steps p.tables e below (T98.setTop (mkF m 146 #[vI p0, vI p1, vI p2, vI p3, vJ q4, .second, vJ q5, .second, vI v1, vI v2, vI v3, vI (2 : Int32), vI v5, vI v6, vI v7, vI v8, vI v9, vR b11, vR b30, .unset] [(.int v5), (.ref b11), (.ref b30)])) _
      exact k)
    obtain ⟨cq102, kq102, qa102, qb102, qc102⟩ := isOf hZ rfl nf98_0
    obtain ⟨_, _, ⟨T102, qL102, qk102, qn102⟩, -, X102, ⟨Lc102, hQ102, ql102, qy102, qz102⟩, st102⟩ := X98.virtualBack hx (y := (⟨"com/example/motiflow/motiflow/UndoLog", "takeBack", "([II)V"⟩ : MethodName)) (z := (⟨"com/example/motiflow/motiflow/UndoLog", "takeBack", "([II)V"⟩ : MethodName)) hown (mvT hZ (hw _ (List.mem_of_getElem? (i := 14) rfl))) (mvT hZ (hw _ (List.mem_of_getElem? (i := 15) rfl))) (notFace_of_selects (args := #[]) (mvT hZ (hw _ (List.mem_of_getElem? (i := 17) rfl)))) (mvT hZ (hw _ (List.mem_of_getElem? (i := 17) rfl))) (mvT hZ (hw _ (List.mem_of_getElem? (i := 16) rfl))) (by decide) (backOf (W := 0) (rm3_2 l Z A0 hw [] b30 b11 v5 b1_35 b2_35 k1_35 k2_35 kA11 v6 v7 v8 v9 v1 p1 v2 p2 v3 p3 T98.heap n0 zz100 nf98_0 nf98_1 nf98_2 nf98_3 nf98_4 nf98_5 f99_1 (Ne.symm nn35_0_1) (Ne.symm nn35_1_1) ne31 (Ne.symm nn35_0_0) (Ne.symm nn35_1_0) bo30 bo11 hp0 hp1 hmark) hZ (hw _ (List.mem_of_getElem? (i := 18) rfl)) (hw _ (List.mem_of_getElem? (i := 3) rfl)) (by decide) (by decide)) qa102 qc102 (g := (mkF m 146 #[vI p0, vI p1, vI p2, vI p3, vJ q4, .second, vJ q5, .second, vI v1, vI v2, vI v3, vI (2 : Int32), vI v5, vI v6, vI v7, vI v8, vI v9, vR b11, vR b30, .unset] [(.int v5), (.ref b11), (.ref b30)])) rfl (by rw [hml]; rfl) (Steps.refl _) (argsL := [(.ref b11), (.int v5)]) (rest := []) (lenOf pd_2 rfl) rfl (by show 2 * 0 + _ ≤ _; exact Nat.le_of_eq rfl) (hb hby at_146) (fun _ _ => ⟨rfl, rfl, (by decide : 4 + 0 ≤ _), (by decide : 39 + 0 ≤ _)⟩)
    dsimp only [Pt.U, Pt.locs, Pt.cells, Pt.slots] at X102 ql102 qy102 qz102 st102 hQ102
    subst ql102 qy102 qz102
    obtain ⟨rfl, Nq102, Kq102, nf102_0, nf102_1, nf102_2, nf102_3, nf102_4⟩ := hQ102
    have N102 := Fr.app N98 Nq102
    have pre102 : Go p.tables e below S0 T102 (mkF m 149 #[vI p0, vI p1, vI p2, vI p3, vJ q4, .second, vJ q5, .second, vI v1, vI v2, vI v3, vI (2 : Int32), vI v5, vI v6, vI v7, vI v8, vI v9, vR b11, vR b30, .unset] []) := fun t k => pre101 t (st102.trans k)
    have f103_1 := nf98_4.keep Kq102 (ninS (Ne.symm nn35_0_1) (ninS (Ne.symm nn35_0_0) nin0))
    have f103_2 := nf98_5.keep Kq102 (ninS (Ne.symm nn35_1_1) (ninS (Ne.symm nn35_1_0) nin0))
    have zz104 : n0 ≤ T102.heap.size := Nat.le_trans zz100 Kq102.1
    have pre105 : Go p.tables e below S0 T102 (mkF m 153 #[vI p0, vI p1, vI p2, vI p3, vJ q4, .second, vJ q5, .second, vI v1, vI v2, vI v3, vI (2 : Int32), vI v5, vI v6, vI v7, vI v8, vI v9, vR b11, vR b30, .unset] [(.int v5), (.int (2 : Int32))]) := fun t k => pre102 t (by
      refine XS.iload X102.here hx rfl (hb hby at_149) rfl ?_
      show Steps p.tables e below (T102.setTop (mkF m 151 #[vI p0, vI p1, vI p2, vI p3, vJ q4, .second, vJ q5, .second, vI v1, vI v2, vI v3, vI (2 : Int32), vI v5, vI v6, vI v7, vI v8, vI v9, vR b11, vR b30, .unset] [(.int (2 : Int32))])) _
      refine XS.iload X102.here hx rfl (hb hby at_151) rfl ?_
      show Steps p.tables e below (T102.setTop (mkF m 153 #[vI p0, vI p1, vI p2, vI p3, vJ q4, .second, vJ q5, .second, vI v1, vI v2, vI v3, vI (2 : Int32), vI v5, vI v6, vI v7, vI v8, vI v9, vR b11, vR b30, .unset] [(.int v5), (.int (2 : Int32))])) _
      exact k)
    obtain ⟨_, _, ⟨T106, qL106, qk106, qn106⟩, -, X106, ⟨Lc106, hQ106, ql106, qy106, qz106⟩, st106⟩ := Jvm.LawKit.callS X102 hx (y := (⟨"java/lang/Math", "min", "(II)I"⟩ : MethodName)) hown (mvT hZ (hw _ (List.mem_of_getElem? (i := 21) rfl))) (mvT hZ (hw _ (List.mem_of_getElem? (i := 22) rfl))) (mvT hZ (hw _ (List.mem_of_getElem? (i := 23) rfl))) (mvT hZ (hw _ (List.mem_of_getElem? (i := 24) rfl))) (by decide) (backOf (W := 0) (rm4 l Z A0 hw [] (2 : Int32) v5 T102.heap n0 zz104) hZ (hw _ (List.mem_of_getElem? (i := 24) rfl)) (hw _ (List.mem_of_getElem? (i := 23) rfl)) (by decide) (by decide)) (g := (mkF m 153 #[vI p0, vI p1, vI p2, vI p3, vJ q4, .second, vJ q5, .second, vI v1, vI v2, vI v3, vI (2 : Int32), vI v5, vI v6, vI v7, vI v8, vI v9, vR b11, vR b30, .unset] [(.int v5), (.int (2 : Int32))])) rfl (by rw [hml]; rfl) (argsL := [(.int (2 : Int32)), (.int v5)]) (rest := []) (lenOf pd_3 rfl) rfl (by show 2 * 0 + _ ≤ _; exact Nat.le_of_eq rfl) (hb hby at_153) (fun _ _ => ⟨rfl, rfl, (by decide : 4 + 0 ≤ _), (by decide : 39 + 0 ≤ _)⟩)
    dsimp only [Pt.U, Pt.locs, Pt.cells, Pt.slots] at X106 ql106 qy106 qz106 st106 hQ106
    subst ql106 qy106 qz106
    obtain ⟨rfl, Nq106, eq106⟩ := hQ106
    have N106 := Fr.app N102 Nq106
    have pre106 : Go p.tables e below S0 T106 (mkF m 156 #[vI p0, vI p1, vI p2, vI p3, vJ q4, .second, vJ q5, .second, vI v1, vI v2, vI v3, vI (2 : Int32), vI v5, vI v6, vI v7, vI v8, vI v9, vR b11, vR b30, .unset] [(.int (own_min (2 : Int32) v5))]) := fun t k => pre105 t (st106 t k)
    have pre107 : Go p.tables e below S0 T106 (mkF m 160 #[vI p0, vI p1, vI p2, vI p3, vJ q4, .second, vJ q5, .second, vI v1, vI v2, vI v3, vI (2 : Int32), vI v5, vI v6, vI v7, vI v8, vI v9, vR b11, vR b30, vI (own_min (2 : Int32) v5)] [(.ref b30)]) := fun t k => pre106 t (by
      refine XS.istore X106.here hx rfl (hb hby at_156) rfl (l' := #[vI p0, vI p1, vI p2, vI p3, vJ q4, .second, vJ q5, .second, vI v1, vI v2, vI v3, vI (2 : Int32), vI v5, vI v6, vI v7, vI v8, vI v9, vR b11, vR b30, vI (own_min (2 : Int32) v5)]) rfl ?_
      show Steps p.tables e below (T106.setTop (mkF m 158 #[vI p0, vI p1, vI p2, vI p3, vJ q4, .second, vJ q5, .second, vI v1, vI v2, vI v3, vI (2 : Int32), vI v5, vI v6, vI v7, vI v8, vI v9, vR b11, vR b30, vI (own_min (2 : Int32) v5)] [])) _
      refine XS.aload X106.here hx rfl (hb hby at_158) rfl rfl ?_
      show Steps p.tables e below (T106.setTop (mkF m 160 #[vI p0, vI p1, vI p2, vI p3, vJ q4, .second, vJ q5, .second, vI v1, vI v2, vI v3, vI (2 : Int32), vI v5, vI v6, vI v7, vI v8, vI v9, vR b11, vR b30, vI (own_min (2 : Int32) v5)] [(.ref b30)])) _
      exact k)
    obtain ⟨cq108, kq108, qa108, qb108, qc108⟩ := isOf hZ eq106 nf102_0
    obtain ⟨_, _, ⟨T108, qL108, qk108, qn108⟩, -, X108, ⟨Lc108, hQ108, ql108, qy108, qz108⟩, st108⟩ := X106.virtualBack hx (y := (⟨"com/example/motiflow/motiflow/UndoLog", "size", "()I"⟩ : MethodName)) (z := (⟨"com/example/motiflow/motiflow/UndoLog", "size", "()I"⟩ : MethodName)) hown (mvT hZ (hw _ (List.mem_of_getElem? (i := 25) rfl))) (mvT hZ (hw _ (List.mem_of_getElem? (i := 26) rfl))) (notFace_of_selects (args := #[]) (mvT hZ (hw _ (List.mem_of_getElem? (i := 28) rfl)))) (mvT hZ (hw _ (List.mem_of_getElem? (i := 28) rfl))) (mvT hZ (hw _ (List.mem_of_getElem? (i := 27) rfl))) (by decide) (backOf (W := 0) (rm5 l Z A0 hw [] b30 (own_min (2 : Int32) v5) T102.heap n0 zz104 nf102_3) hZ (hw _ (List.mem_of_getElem? (i := 29) rfl)) (hw _ (List.mem_of_getElem? (i := 3) rfl)) (by decide) (by decide)) qa108 qc108 (g := (mkF m 160 #[vI p0, vI p1, vI p2, vI p3, vJ q4, .second, vJ q5, .second, vI v1, vI v2, vI v3, vI (2 : Int32), vI v5, vI v6, vI v7, vI v8, vI v9, vR b11, vR b30, vI (own_min (2 : Int32) v5)] [(.ref b30)])) rfl (by rw [hml]; rfl) (Steps.refl _) (argsL := []) (rest := []) (lenOf pd_4 rfl) rfl (by show 2 * 0 + _ ≤ _; exact Nat.le_of_eq rfl) (hb hby at_160) (fun _ _ => ⟨rfl, eq106, (by decide : 4 + 0 ≤ _), (by decide : 39 + 0 ≤ _)⟩)
    dsimp only [Pt.U, Pt.locs, Pt.cells, Pt.slots] at X108 ql108 qy108 qz108 st108 hQ108
    subst ql108 qy108 qz108
    obtain ⟨rfl, Nq108, eq108⟩ := hQ108
    have N108 := Fr.app N106 Nq108
    have pre108 : Go p.tables e below S0 T108 (mkF m 163 #[vI p0, vI p1, vI p2, vI p3, vJ q4, .second, vJ q5, .second, vI v1, vI v2, vI v3, vI (2 : Int32), vI v5, vI v6, vI v7, vI v8, vI v9, vR b11, vR b30, vI (own_min (2 : Int32) v5)] [(.int (own_min (2 : Int32) v5))]) := fun t k => pre107 t (st108.trans k)
    have pre109 : Go p.tables e below S0 T108 (mkF m 171 #[vI p0, vI p1, vI p2, vI p3, vJ q4, .second, vJ q5, .second, vI v1, vI v2, vI v3, vI (2 : Int32), vI v5, vI v6, vI v7, vI v8, vI v9, vR b11, vR b30, vI (own_min (2 : Int32) v5)] [(.int (0 : Int32)), (.ref b11)]) := fun t k => pre108 t (by
      refine XS.iload X108.here hx rfl (hb hby at_163) rfl ?_
      show Steps p.tables e below (T108.setTop (mkF m 165 #[vI p0, vI p1, vI p2, vI p3, vJ q4, .second, vJ q5, .second, vI v1, vI v2, vI v3, vI (2 : Int32), vI v5, vI v6, vI v7, vI v8, vI v9, vR b11, vR b30, vI (own_min (2 : Int32) v5)] [(.int (own_min (2 : Int32) v5)), (.int (own_min (2 : Int32) v5))])) _
      refine XS.icmpNo X108.here hx rfl (hb hby at_165) rfl (teq (rfl : (own_min (2 : Int32) v5) = (own_min (2 : Int32) v5))).2 ?_
      show Steps p.tables e below (T108.setTop (mkF m 168 #[vI p0, vI p1, vI p2, vI p3, vJ q4, .second, vJ q5, .second, vI v1, vI v2, vI v3, vI (2 : Int32), vI v5, vI v6, vI v7, vI v8, vI v9, vR b11, vR b30, vI (own_min (2 : Int32) v5)] [])) _
      refine XS.aload X108.here hx rfl (hb hby at_168) rfl rfl ?_
      show Steps p.tables e below (T108.setTop (mkF m 170 #[vI p0, vI p1, vI p2, vI p3, vJ q4, .second, vJ q5, .second, vI v1, vI v2, vI v3, vI (2 : Int32), vI v5, vI v6, vI v7, vI v8, vI v9, vR b11, vR b30, vI (own_min (2 : Int32) v5)] [(.ref b11)])) _
      refine XS.iconst X108.here hx rfl (hb hby at_170) ?_
      show Steps p.tables e below (T108.setTop (mkF m 171 #[vI p0, vI p1, vI p2, vI p3, vJ q4, .second, vJ q5, .second, vI v1, vI v2, vI v3, vI (2 : Int32), vI v5, vI v6, vI v7, vI v8, vI v9, vR b11, vR b30, vI (own_min (2 : Int32) v5)] [(.int (0 : Int32)), (.ref b11)])) _
      exact k)
    obtain ⟨cl110, Ar110, q110, S110, M110, H110, G110⟩ := id nf102_4
    have in110 : ¬ ((0 : Int32) < 0 ∨ cl110.slots.size ≤ ((0 : Int32)).toNatClampNeg) := inb_of S110 ⟨by decide, by decide⟩
    have at110 : cl110.slots[((0 : Int32)).toNatClampNeg]? = some (.int (own_expect (0 : Int32) v6 (2 : Int32) v5 v1 p1 v2 p2 v3 p3)) := H110.at in110 rfl
    have pre111 : Go p.tables e below S0 T108 (mkF m 188 #[vI p0, vI p1, vI p2, vI p3, vJ q4, .second, vJ q5, .second, vI v1, vI v2, vI v3, vI (2 : Int32), vI v5, vI v6, vI v7, vI v8, vI v9, vR b11, vR b30, vI (own_min (2 : Int32) v5)] [(.int p3), (.int v3), (.int p2), (.int v2), (.int p1), (.int v1), (.int v5), (.int (2 : Int32)), (.int v6), (.int (0 : Int32)), (.int (own_expect (0 : Int32) v6 (2 : Int32) v5 v1 p1 v2 p2 v3 p3))]) := fun t k => pre109 t (by
      refine X108.iaload hx (j := (0 : Int32)) (v := (.int (own_expect (0 : Int32) v6 (2 : Int32) v5 v1 p1 v2 p2 v3 p3))) (by rw [eq108]; exact Ar110.1) (State.isArrayOf_alike hZ.alike Ar110.2.1) Ar110.2.2 in110 at110 (g := (mkF m 171 #[vI p0, vI p1, vI p2, vI p3, vJ q4, .second, vJ q5, .second, vI v1, vI v2, vI v3, vI (2 : Int32), vI v5, vI v6, vI v7, vI v8, vI v9, vR b11, vR b30, vI (own_min (2 : Int32) v5)] [(.int (0 : Int32)), (.ref b11)])) rfl rfl (hb hby at_171) _ ?_
      show Steps p.tables e below (T108.setTop (mkF m 172 #[vI p0, vI p1, vI p2, vI p3, vJ q4, .second, vJ q5, .second, vI v1, vI v2, vI v3, vI (2 : Int32), vI v5, vI v6, vI v7, vI v8, vI v9, vR b11, vR b30, vI (own_min (2 : Int32) v5)] [(.int (own_expect (0 : Int32) v6 (2 : Int32) v5 v1 p1 v2 p2 v3 p3))])) _
      refine XS.iconst X108.here hx rfl (hb hby at_172) ?_
      show Steps p.tables e below (T108.setTop (mkF m 173 #[vI p0, vI p1, vI p2, vI p3, vJ q4, .second, vJ q5, .second, vI v1, vI v2, vI v3, vI (2 : Int32), vI v5, vI v6, vI v7, vI v8, vI v9, vR b11, vR b30, vI (own_min (2 : Int32) v5)] [(.int (0 : Int32)), (.int (own_expect (0 : Int32) v6 (2 : Int32) v5 v1 p1 v2 p2 v3 p3))])) _
      refine XS.iload X108.here hx rfl (hb hby at_173) rfl ?_
      show Steps p.tables e below (T108.setTop (mkF m 175 #[vI p0, vI p1, vI p2, vI p3, vJ q4, .second, vJ q5, .second, vI v1, vI v2, vI v3, vI (2 : Int32), vI v5, vI v6, vI v7, vI v8, vI v9, vR b11, vR b30, vI (own_min (2 : Int32) v5)] [(.int v6), (.int (0 : Int32)), (.int (own_expect (0 : Int32) v6 (2 : Int32) v5 v1 p1 v2 p2 v3 p3))])) _
      refine XS.iload X108.here hx rfl (hb hby at_175) rfl ?_
      show Steps p.tables e below (T108.setTop (mkF m 177 #[vI p0, vI p1, vI p2, vI p3, vJ q4, .second, vJ q5, .second, vI v1, vI v2, vI v3, vI (2 : Int32), vI v5, vI v6, vI v7, vI v8, vI v9, vR b11, vR b30, vI (own_min (2 : Int32) v5)] [(.int (2 : Int32)), (.int v6), (.int (0 : Int32)), (.int (own_expect (0 : Int32) v6 (2 : Int32) v5 v1 p1 v2 p2 v3 p3))])) _
      refine XS.iload X108.here hx rfl (hb hby at_177) rfl ?_
      show Steps p.tables e below (T108.setTop (mkF m 179 #[vI p0, vI p1, vI p2, vI p3, vJ q4, .second, vJ q5, .second, vI v1, vI v2, vI v3, vI (2 : Int32), vI v5, vI v6, vI v7, vI v8, vI v9, vR b11, vR b30, vI (own_min (2 : Int32) v5)] [(.int v5), (.int (2 : Int32)), (.int v6), (.int (0 : Int32)), (.int (own_expect (0 : Int32) v6 (2 : Int32) v5 v1 p1 v2 p2 v3 p3))])) _
      refine XS.iload X108.here hx rfl (hb hby at_179) rfl ?_
      show Steps p.tables e below (T108.setTop (mkF m 181 #[vI p0, vI p1, vI p2, vI p3, vJ q4, .second, vJ q5, .second, vI v1, vI v2, vI v3, vI (2 : Int32), vI v5, vI v6, vI v7, vI v8, vI v9, vR b11, vR b30, vI (own_min (2 : Int32) v5)] [(.int v1), (.int v5), (.int (2 : Int32)), (.int v6), (.int (0 : Int32)), (.int (own_expect (0 : Int32) v6 (2 : Int32) v5 v1 p1 v2 p2 v3 p3))])) _
      refine XS.iloadN X108.here hx rfl (hb hby at_181) rfl ?_
      show Steps p.tables e below (T108.setTop (mkF m 182 #[vI p0, vI p1, vI p2, vI p3, vJ q4, .second, vJ q5, .second, vI v1, vI v2, vI v3, vI (2 : Int32), vI v5, vI v6, vI v7, vI v8, vI v9, vR b11, vR b30, vI (own_min (2 : Int32) v5)] [(.int p1), (.int v1), (.int v5), (.int (2 : Int32)), (.int v6), (.int (0 : Int32)), (.int (own_expect (0 : Int32) v6 (2 : Int32) v5 v1 p1 v2 p2 v3 p3))])) _
      refine XS.iload X108.here hx rfl (hb hby at_182) rfl ?_
      show Steps p.tables e below (T108.setTop (mkF m 184 #[vI p0, vI p1, vI p2, vI p3, vJ q4, .second, vJ q5, .second, vI v1, vI v2, vI v3, vI (2 : Int32), vI v5, vI v6, vI v7, vI v8, vI v9, vR b11, vR b30, vI (own_min (2 : Int32) v5)] [(.int v2), (.int p1), (.int v1), (.int v5), (.int (2 : Int32)), (.int v6), (.int (0 : Int32)), (.int (own_expect (0 : Int32) v6 (2 : Int32) v5 v1 p1 v2 p2 v3 p3))])) _
      refine XS.iloadN X108.here hx rfl (hb hby at_184) rfl ?_
      show Steps p.tables e below (T108.setTop (mkF m 185 #[vI p0, vI p1, vI p2, vI p3, vJ q4, .second, vJ q5, .second, vI v1, vI v2, vI v3, vI (2 : Int32), vI v5, vI v6, vI v7, vI v8, vI v9, vR b11, vR b30, vI (own_min (2 : Int32) v5)] [(.int p2), (.int v2), (.int p1), (.int v1), (.int v5), (.int (2 : Int32)), (.int v6), (.int (0 : Int32)), (.int (own_expect (0 : Int32) v6 (2 : Int32) v5 v1 p1 v2 p2 v3 p3))])) _
      refine XS.iload X108.here hx rfl (hb hby at_185) rfl ?_
      show Steps p.tables e below (T108.setTop (mkF m 187 #[vI p0, vI p1, vI p2, vI p3, vJ q4, .second, vJ q5, .second, vI v1, vI v2, vI v3, vI (2 : Int32), vI v5, vI v6, vI v7, vI v8, vI v9, vR b11, vR b30, vI (own_min (2 : Int32) v5)] [(.int v3), (.int p2), (.int v2), (.int p1), (.int v1), (.int v5), (.int (2 : Int32)), (.int v6), (.int (0 : Int32)), (.int (own_expect (0 : Int32) v6 (2 : Int32) v5 v1 p1 v2 p2 v3 p3))])) _
      refine XS.iloadN X108.here hx rfl (hb hby at_187) rfl ?_
      show Steps p.tables e below (T108.setTop (mkF m 188 #[vI p0, vI p1, vI p2, vI p3, vJ q4, .second, vJ q5, .second, vI v1, vI v2, vI v3, vI (2 : Int32), vI v5, vI v6, vI v7, vI v8, vI v9, vR b11, vR b30, vI (own_min (2 : Int32) v5)] [(.int p3), (.int v3), (.int p2), (.int v2), (.int p1), (.int v1), (.int v5), (.int (2 : Int32)), (.int v6), (.int (0 : Int32)), (.int (own_expect (0 : Int32) v6 (2 : Int32) v5 v1 p1 v2 p2 v3 p3))])) _
      exact k)
    obtain ⟨_, _, ⟨T112, qL112, qk112, qn112⟩, -, X112, ⟨Lc112, hQ112, ql112, qy112, qz112⟩, st112⟩ := Jvm.LawKit.callS X108 hx (y := (⟨"com/example/motiflow/motiflow/UndoLogTakeBackPinLaw", "expect", "(IIIIIIIIII)I"⟩ : MethodName)) hown (mvT hZ (hw _ (List.mem_of_getElem? (i := 30) rfl))) (mvT hZ (hw _ (List.mem_of_getElem? (i := 31) rfl))) (mvT hZ (hw _ (List.mem_of_getElem? (i := 32) rfl))) (mvT hZ (hw _ (List.mem_of_getElem? (i := 33) rfl))) (by decide) (backOf (W := 1) (rm6 l Z A0 hw [] (0 : Int32) v6 (2 : Int32) v5 v1 p1 v2 p2 v3 p3 T102.heap n0 zz104) hZ (hw _ (List.mem_of_getElem? (i := 33) rfl)) (hw _ (List.mem_of_getElem? (i := 32) rfl)) (by decide) (by decide)) (g := (mkF m 188 #[vI p0, vI p1, vI p2, vI p3, vJ q4, .second, vJ q5, .second, vI v1, vI v2, vI v3, vI (2 : Int32), vI v5, vI v6, vI v7, vI v8, vI v9, vR b11, vR b30, vI (own_min (2 : Int32) v5)] [(.int p3), (.int v3), (.int p2), (.int v2), (.int p1), (.int v1), (.int v5), (.int (2 : Int32)), (.int v6), (.int (0 : Int32)), (.int (own_expect (0 : Int32) v6 (2 : Int32) v5 v1 p1 v2 p2 v3 p3))])) rfl (by rw [hml]; rfl) (argsL := [(.int (0 : Int32)), (.int v6), (.int (2 : Int32)), (.int v5), (.int v1), (.int p1), (.int v2), (.int p2), (.int v3), (.int p3)]) (rest := [(.int (own_expect (0 : Int32) v6 (2 : Int32) v5 v1 p1 v2 p2 v3 p3))]) (lenOf pd_5 rfl) rfl (by show 2 * 0 + _ ≤ _; exact Nat.le_of_eq rfl) (hb hby at_188) (fun _ _ => ⟨rfl, eq108, (by decide : 4 + 0 ≤ _), (by decide : 39 + 0 ≤ _)⟩)
    dsimp only [Pt.U, Pt.locs, Pt.cells, Pt.slots] at X112 ql112 qy112 qz112 st112 hQ112
    subst ql112 qy112 qz112
    obtain ⟨rfl, Nq112, eq112⟩ := hQ112
    have N112 := Fr.app N108 Nq112
    have pre112 : Go p.tables e below S0 T112 (mkF m 191 #[vI p0, vI p1, vI p2, vI p3, vJ q4, .second, vJ q5, .second, vI v1, vI v2, vI v3, vI (2 : Int32), vI v5, vI v6, vI v7, vI v8, vI v9, vR b11, vR b30, vI (own_min (2 : Int32) v5)] [(.int (own_expect (0 : Int32) v6 (2 : Int32) v5 v1 p1 v2 p2 v3 p3)), (.int (own_expect (0 : Int32) v6 (2 : Int32) v5 v1 p1 v2 p2 v3 p3))]) := fun t k => pre111 t (st112 t k)
    have pre113 : Go p.tables e below S0 T112 (mkF m 197 #[vI p0, vI p1, vI p2, vI p3, vJ q4, .second, vJ q5, .second, vI v1, vI v2, vI v3, vI (2 : Int32), vI v5, vI v6, vI v7, vI v8, vI v9, vR b11, vR b30, vI (own_min (2 : Int32) v5)] [(.int (1 : Int32)), (.ref b11)]) := fun t k => pre112 t (by
      refine XS.icmpNo X112.here hx rfl (hb hby at_191) rfl (teq (rfl : (own_expect (0 : Int32) v6 (2 : Int32) v5 v1 p1 v2 p2 v3 p3) = (own_expect (0 : Int32) v6 (2 : Int32) v5 v1 p1 v2 p2 v3 p3))).2 ?_
      show Steps p.tables e below (T112.setTop (mkF m 194 #[vI p0, vI p1, vI p2, vI p3, vJ q4, .second, vJ q5, .second, vI v1, vI v2, vI v3, vI (2 : Int32), vI v5, vI v6, vI v7, vI v8, vI v9, vR b11, vR b30, vI (own_min (2 : Int32) v5)] [])) _
      refine XS.aload X112.here hx rfl (hb hby at_194) rfl rfl ?_
      show Steps p.tables e below (T112.setTop (mkF m 196 #[vI p0, vI p1, vI p2, vI p3, vJ q4, .second, vJ q5, .second, vI v1, vI v2, vI v3, vI (2 : Int32), vI v5, vI v6, vI v7, vI v8, vI v9, vR b11, vR b30, vI (own_min (2 : Int32) v5)] [(.ref b11)])) _
      refine XS.iconst X112.here hx rfl (hb hby at_196) ?_
      show Steps p.tables e below (T112.setTop (mkF m 197 #[vI p0, vI p1, vI p2, vI p3, vJ q4, .second, vJ q5, .second, vI v1, vI v2, vI v3, vI (2 : Int32), vI v5, vI v6, vI v7, vI v8, vI v9, vR b11, vR b30, vI (own_min (2 : Int32) v5)] [(.int (1 : Int32)), (.ref b11)])) _
      exact k)
    obtain ⟨cl114, Ar114, q114, S114, M114, H114, G114⟩ := id nf102_4
    have in114 : ¬ ((1 : Int32) < 0 ∨ cl114.slots.size ≤ ((1 : Int32)).toNatClampNeg) := inb_of S114 ⟨by decide, by decide⟩
    have at114 : cl114.slots[((1 : Int32)).toNatClampNeg]? = some (.int (own_expect (1 : Int32) v7 (2 : Int32) v5 v1 p1 v2 p2 v3 p3)) := H114.at in114 rfl
    have pre115 : Go p.tables e below S0 T112 (mkF m 214 #[vI p0, vI p1, vI p2, vI p3, vJ q4, .second, vJ q5, .second, vI v1, vI v2, vI v3, vI (2 : Int32), vI v5, vI v6, vI v7, vI v8, vI v9, vR b11, vR b30, vI (own_min (2 : Int32) v5)] [(.int p3), (.int v3), (.int p2), (.int v2), (.int p1), (.int v1), (.int v5), (.int (2 : Int32)), (.int v7), (.int (1 : Int32)), (.int (own_expect (1 : Int32) v7 (2 : Int32) v5 v1 p1 v2 p2 v3 p3))]) := fun t k => pre113 t (by
      refine X112.iaload hx (j := (1 : Int32)) (v := (.int (own_expect (1 : Int32) v7 (2 : Int32) v5 v1 p1 v2 p2 v3 p3))) (by rw [eq112]; exact Ar114.1) (State.isArrayOf_alike hZ.alike Ar114.2.1) Ar114.2.2 in114 at114 (g := (mkF m 197 #[vI p0, vI p1, vI p2, vI p3, vJ q4, .second, vJ q5, .second, vI v1, vI v2, vI v3, vI (2 : Int32), vI v5, vI v6, vI v7, vI v8, vI v9, vR b11, vR b30, vI (own_min (2 : Int32) v5)] [(.int (1 : Int32)), (.ref b11)])) rfl rfl (hb hby at_197) _ ?_
      show Steps p.tables e below (T112.setTop (mkF m 198 #[vI p0, vI p1, vI p2, vI p3, vJ q4, .second, vJ q5, .second, vI v1, vI v2, vI v3, vI (2 : Int32), vI v5, vI v6, vI v7, vI v8, vI v9, vR b11, vR b30, vI (own_min (2 : Int32) v5)] [(.int (own_expect (1 : Int32) v7 (2 : Int32) v5 v1 p1 v2 p2 v3 p3))])) _
      refine XS.iconst X112.here hx rfl (hb hby at_198) ?_
      show Steps p.tables e below (T112.setTop (mkF m 199 #[vI p0, vI p1, vI p2, vI p3, vJ q4, .second, vJ q5, .second, vI v1, vI v2, vI v3, vI (2 : Int32), vI v5, vI v6, vI v7, vI v8, vI v9, vR b11, vR b30, vI (own_min (2 : Int32) v5)] [(.int (1 : Int32)), (.int (own_expect (1 : Int32) v7 (2 : Int32) v5 v1 p1 v2 p2 v3 p3))])) _
      refine XS.iload X112.here hx rfl (hb hby at_199) rfl ?_
      show Steps p.tables e below (T112.setTop (mkF m 201 #[vI p0, vI p1, vI p2, vI p3, vJ q4, .second, vJ q5, .second, vI v1, vI v2, vI v3, vI (2 : Int32), vI v5, vI v6, vI v7, vI v8, vI v9, vR b11, vR b30, vI (own_min (2 : Int32) v5)] [(.int v7), (.int (1 : Int32)), (.int (own_expect (1 : Int32) v7 (2 : Int32) v5 v1 p1 v2 p2 v3 p3))])) _
      refine XS.iload X112.here hx rfl (hb hby at_201) rfl ?_
      show Steps p.tables e below (T112.setTop (mkF m 203 #[vI p0, vI p1, vI p2, vI p3, vJ q4, .second, vJ q5, .second, vI v1, vI v2, vI v3, vI (2 : Int32), vI v5, vI v6, vI v7, vI v8, vI v9, vR b11, vR b30, vI (own_min (2 : Int32) v5)] [(.int (2 : Int32)), (.int v7), (.int (1 : Int32)), (.int (own_expect (1 : Int32) v7 (2 : Int32) v5 v1 p1 v2 p2 v3 p3))])) _
      refine XS.iload X112.here hx rfl (hb hby at_203) rfl ?_
      show Steps p.tables e below (T112.setTop (mkF m 205 #[vI p0, vI p1, vI p2, vI p3, vJ q4, .second, vJ q5, .second, vI v1, vI v2, vI v3, vI (2 : Int32), vI v5, vI v6, vI v7, vI v8, vI v9, vR b11, vR b30, vI (own_min (2 : Int32) v5)] [(.int v5), (.int (2 : Int32)), (.int v7), (.int (1 : Int32)), (.int (own_expect (1 : Int32) v7 (2 : Int32) v5 v1 p1 v2 p2 v3 p3))])) _
      refine XS.iload X112.here hx rfl (hb hby at_205) rfl ?_
      show Steps p.tables e below (T112.setTop (mkF m 207 #[vI p0, vI p1, vI p2, vI p3, vJ q4, .second, vJ q5, .second, vI v1, vI v2, vI v3, vI (2 : Int32), vI v5, vI v6, vI v7, vI v8, vI v9, vR b11, vR b30, vI (own_min (2 : Int32) v5)] [(.int v1), (.int v5), (.int (2 : Int32)), (.int v7), (.int (1 : Int32)), (.int (own_expect (1 : Int32) v7 (2 : Int32) v5 v1 p1 v2 p2 v3 p3))])) _
      refine XS.iloadN X112.here hx rfl (hb hby at_207) rfl ?_
      show Steps p.tables e below (T112.setTop (mkF m 208 #[vI p0, vI p1, vI p2, vI p3, vJ q4, .second, vJ q5, .second, vI v1, vI v2, vI v3, vI (2 : Int32), vI v5, vI v6, vI v7, vI v8, vI v9, vR b11, vR b30, vI (own_min (2 : Int32) v5)] [(.int p1), (.int v1), (.int v5), (.int (2 : Int32)), (.int v7), (.int (1 : Int32)), (.int (own_expect (1 : Int32) v7 (2 : Int32) v5 v1 p1 v2 p2 v3 p3))])) _
      refine XS.iload X112.here hx rfl (hb hby at_208) rfl ?_
      show Steps p.tables e below (T112.setTop (mkF m 210 #[vI p0, vI p1, vI p2, vI p3, vJ q4, .second, vJ q5, .second, vI v1, vI v2, vI v3, vI (2 : Int32), vI v5, vI v6, vI v7, vI v8, vI v9, vR b11, vR b30, vI (own_min (2 : Int32) v5)] [(.int v2), (.int p1), (.int v1), (.int v5), (.int (2 : Int32)), (.int v7), (.int (1 : Int32)), (.int (own_expect (1 : Int32) v7 (2 : Int32) v5 v1 p1 v2 p2 v3 p3))])) _
      refine XS.iloadN X112.here hx rfl (hb hby at_210) rfl ?_
      show Steps p.tables e below (T112.setTop (mkF m 211 #[vI p0, vI p1, vI p2, vI p3, vJ q4, .second, vJ q5, .second, vI v1, vI v2, vI v3, vI (2 : Int32), vI v5, vI v6, vI v7, vI v8, vI v9, vR b11, vR b30, vI (own_min (2 : Int32) v5)] [(.int p2), (.int v2), (.int p1), (.int v1), (.int v5), (.int (2 : Int32)), (.int v7), (.int (1 : Int32)), (.int (own_expect (1 : Int32) v7 (2 : Int32) v5 v1 p1 v2 p2 v3 p3))])) _
      refine XS.iload X112.here hx rfl (hb hby at_211) rfl ?_
      show Steps p.tables e below (T112.setTop (mkF m 213 #[vI p0, vI p1, vI p2, vI p3, vJ q4, .second, vJ q5, .second, vI v1, vI v2, vI v3, vI (2 : Int32), vI v5, vI v6, vI v7, vI v8, vI v9, vR b11, vR b30, vI (own_min (2 : Int32) v5)] [(.int v3), (.int p2), (.int v2), (.int p1), (.int v1), (.int v5), (.int (2 : Int32)), (.int v7), (.int (1 : Int32)), (.int (own_expect (1 : Int32) v7 (2 : Int32) v5 v1 p1 v2 p2 v3 p3))])) _
      refine XS.iloadN X112.here hx rfl (hb hby at_213) rfl ?_
      show Steps p.tables e below (T112.setTop (mkF m 214 #[vI p0, vI p1, vI p2, vI p3, vJ q4, .second, vJ q5, .second, vI v1, vI v2, vI v3, vI (2 : Int32), vI v5, vI v6, vI v7, vI v8, vI v9, vR b11, vR b30, vI (own_min (2 : Int32) v5)] [(.int p3), (.int v3), (.int p2), (.int v2), (.int p1), (.int v1), (.int v5), (.int (2 : Int32)), (.int v7), (.int (1 : Int32)), (.int (own_expect (1 : Int32) v7 (2 : Int32) v5 v1 p1 v2 p2 v3 p3))])) _
      exact k)
    obtain ⟨_, _, ⟨T116, qL116, qk116, qn116⟩, -, X116, ⟨Lc116, hQ116, ql116, qy116, qz116⟩, st116⟩ := Jvm.LawKit.callS X112 hx (y := (⟨"com/example/motiflow/motiflow/UndoLogTakeBackPinLaw", "expect", "(IIIIIIIIII)I"⟩ : MethodName)) hown (mvT hZ (hw _ (List.mem_of_getElem? (i := 30) rfl))) (mvT hZ (hw _ (List.mem_of_getElem? (i := 31) rfl))) (mvT hZ (hw _ (List.mem_of_getElem? (i := 32) rfl))) (mvT hZ (hw _ (List.mem_of_getElem? (i := 33) rfl))) (by decide) (backOf (W := 1) (rm6 l Z A0 hw [] (1 : Int32) v7 (2 : Int32) v5 v1 p1 v2 p2 v3 p3 T102.heap n0 zz104) hZ (hw _ (List.mem_of_getElem? (i := 33) rfl)) (hw _ (List.mem_of_getElem? (i := 32) rfl)) (by decide) (by decide)) (g := (mkF m 214 #[vI p0, vI p1, vI p2, vI p3, vJ q4, .second, vJ q5, .second, vI v1, vI v2, vI v3, vI (2 : Int32), vI v5, vI v6, vI v7, vI v8, vI v9, vR b11, vR b30, vI (own_min (2 : Int32) v5)] [(.int p3), (.int v3), (.int p2), (.int v2), (.int p1), (.int v1), (.int v5), (.int (2 : Int32)), (.int v7), (.int (1 : Int32)), (.int (own_expect (1 : Int32) v7 (2 : Int32) v5 v1 p1 v2 p2 v3 p3))])) rfl (by rw [hml]; rfl) (argsL := [(.int (1 : Int32)), (.int v7), (.int (2 : Int32)), (.int v5), (.int v1), (.int p1), (.int v2), (.int p2), (.int v3), (.int p3)]) (rest := [(.int (own_expect (1 : Int32) v7 (2 : Int32) v5 v1 p1 v2 p2 v3 p3))]) (lenOf pd_5 rfl) rfl (by show 2 * 0 + _ ≤ _; exact Nat.le_of_eq rfl) (hb hby at_214) (fun _ _ => ⟨rfl, eq112, (by decide : 4 + 0 ≤ _), (by decide : 39 + 0 ≤ _)⟩)
    dsimp only [Pt.U, Pt.locs, Pt.cells, Pt.slots] at X116 ql116 qy116 qz116 st116 hQ116
    subst ql116 qy116 qz116
    obtain ⟨rfl, Nq116, eq116⟩ := hQ116
    have N116 := Fr.app N112 Nq116
    have pre116 : Go p.tables e below S0 T116 (mkF m 217 #[vI p0, vI p1, vI p2, vI p3, vJ q4, .second, vJ q5, .second, vI v1, vI v2, vI v3, vI (2 : Int32), vI v5, vI v6, vI v7, vI v8, vI v9, vR b11, vR b30, vI (own_min (2 : Int32) v5)] [(.int (own_expect (1 : Int32) v7 (2 : Int32) v5 v1 p1 v2 p2 v3 p3)), (.int (own_expect (1 : Int32) v7 (2 : Int32) v5 v1 p1 v2 p2 v3 p3))]) := fun t k => pre115 t (st116 t k)
    have pre117 : Go p.tables e below S0 T116 (mkF m 223 #[vI p0, vI p1, vI p2, vI p3, vJ q4, .second, vJ q5, .second, vI v1, vI v2, vI v3, vI (2 : Int32), vI v5, vI v6, vI v7, vI v8, vI v9, vR b11, vR b30, vI (own_min (2 : Int32) v5)] [(.int (2 : Int32)), (.ref b11)]) := fun t k => pre116 t (by
      refine XS.icmpNo X116.here hx rfl (hb hby at_217) rfl (teq (rfl : (own_expect (1 : Int32) v7 (2 : Int32) v5 v1 p1 v2 p2 v3 p3) = (own_expect (1 : Int32) v7 (2 : Int32) v5 v1 p1 v2 p2 v3 p3))).2 ?_
      show Steps p.tables e below (T116.setTop (mkF m 220 #[vI p0, vI p1, vI p2, vI p3, vJ q4, .second, vJ q5, .second, vI v1, vI v2, vI v3, vI (2 : Int32), vI v5, vI v6, vI v7, vI v8, vI v9, vR b11, vR b30, vI (own_min (2 : Int32) v5)] [])) _
      refine XS.aload X116.here hx rfl (hb hby at_220) rfl rfl ?_
      show Steps p.tables e below (T116.setTop (mkF m 222 #[vI p0, vI p1, vI p2, vI p3, vJ q4, .second, vJ q5, .second, vI v1, vI v2, vI v3, vI (2 : Int32), vI v5, vI v6, vI v7, vI v8, vI v9, vR b11, vR b30, vI (own_min (2 : Int32) v5)] [(.ref b11)])) _
      refine XS.iconst X116.here hx rfl (hb hby at_222) ?_
      show Steps p.tables e below (T116.setTop (mkF m 223 #[vI p0, vI p1, vI p2, vI p3, vJ q4, .second, vJ q5, .second, vI v1, vI v2, vI v3, vI (2 : Int32), vI v5, vI v6, vI v7, vI v8, vI v9, vR b11, vR b30, vI (own_min (2 : Int32) v5)] [(.int (2 : Int32)), (.ref b11)])) _
      exact k)
    obtain ⟨cl118, Ar118, q118, S118, M118, H118, G118⟩ := id nf102_4
    have in118 : ¬ ((2 : Int32) < 0 ∨ cl118.slots.size ≤ ((2 : Int32)).toNatClampNeg) := inb_of S118 ⟨by decide, by decide⟩
    have at118 : cl118.slots[((2 : Int32)).toNatClampNeg]? = some (.int (own_expect (2 : Int32) v8 (2 : Int32) v5 v1 p1 v2 p2 v3 p3)) := H118.at in118 rfl
    have pre119 : Go p.tables e below S0 T116 (mkF m 240 #[vI p0, vI p1, vI p2, vI p3, vJ q4, .second, vJ q5, .second, vI v1, vI v2, vI v3, vI (2 : Int32), vI v5, vI v6, vI v7, vI v8, vI v9, vR b11, vR b30, vI (own_min (2 : Int32) v5)] [(.int p3), (.int v3), (.int p2), (.int v2), (.int p1), (.int v1), (.int v5), (.int (2 : Int32)), (.int v8), (.int (2 : Int32)), (.int (own_expect (2 : Int32) v8 (2 : Int32) v5 v1 p1 v2 p2 v3 p3))]) := fun t k => pre117 t (by
      refine X116.iaload hx (j := (2 : Int32)) (v := (.int (own_expect (2 : Int32) v8 (2 : Int32) v5 v1 p1 v2 p2 v3 p3))) (by rw [eq116]; exact Ar118.1) (State.isArrayOf_alike hZ.alike Ar118.2.1) Ar118.2.2 in118 at118 (g := (mkF m 223 #[vI p0, vI p1, vI p2, vI p3, vJ q4, .second, vJ q5, .second, vI v1, vI v2, vI v3, vI (2 : Int32), vI v5, vI v6, vI v7, vI v8, vI v9, vR b11, vR b30, vI (own_min (2 : Int32) v5)] [(.int (2 : Int32)), (.ref b11)])) rfl rfl (hb hby at_223) _ ?_
      show Steps p.tables e below (T116.setTop (mkF m 224 #[vI p0, vI p1, vI p2, vI p3, vJ q4, .second, vJ q5, .second, vI v1, vI v2, vI v3, vI (2 : Int32), vI v5, vI v6, vI v7, vI v8, vI v9, vR b11, vR b30, vI (own_min (2 : Int32) v5)] [(.int (own_expect (2 : Int32) v8 (2 : Int32) v5 v1 p1 v2 p2 v3 p3))])) _
      refine XS.iconst X116.here hx rfl (hb hby at_224) ?_
      show Steps p.tables e below (T116.setTop (mkF m 225 #[vI p0, vI p1, vI p2, vI p3, vJ q4, .second, vJ q5, .second, vI v1, vI v2, vI v3, vI (2 : Int32), vI v5, vI v6, vI v7, vI v8, vI v9, vR b11, vR b30, vI (own_min (2 : Int32) v5)] [(.int (2 : Int32)), (.int (own_expect (2 : Int32) v8 (2 : Int32) v5 v1 p1 v2 p2 v3 p3))])) _
      refine XS.iload X116.here hx rfl (hb hby at_225) rfl ?_
      show Steps p.tables e below (T116.setTop (mkF m 227 #[vI p0, vI p1, vI p2, vI p3, vJ q4, .second, vJ q5, .second, vI v1, vI v2, vI v3, vI (2 : Int32), vI v5, vI v6, vI v7, vI v8, vI v9, vR b11, vR b30, vI (own_min (2 : Int32) v5)] [(.int v8), (.int (2 : Int32)), (.int (own_expect (2 : Int32) v8 (2 : Int32) v5 v1 p1 v2 p2 v3 p3))])) _
      refine XS.iload X116.here hx rfl (hb hby at_227) rfl ?_
      show Steps p.tables e below (T116.setTop (mkF m 229 #[vI p0, vI p1, vI p2, vI p3, vJ q4, .second, vJ q5, .second, vI v1, vI v2, vI v3, vI (2 : Int32), vI v5, vI v6, vI v7, vI v8, vI v9, vR b11, vR b30, vI (own_min (2 : Int32) v5)] [(.int (2 : Int32)), (.int v8), (.int (2 : Int32)), (.int (own_expect (2 : Int32) v8 (2 : Int32) v5 v1 p1 v2 p2 v3 p3))])) _
      refine XS.iload X116.here hx rfl (hb hby at_229) rfl ?_
      show Steps p.tables e below (T116.setTop (mkF m 231 #[vI p0, vI p1, vI p2, vI p3, vJ q4, .second, vJ q5, .second, vI v1, vI v2, vI v3, vI (2 : Int32), vI v5, vI v6, vI v7, vI v8, vI v9, vR b11, vR b30, vI (own_min (2 : Int32) v5)] [(.int v5), (.int (2 : Int32)), (.int v8), (.int (2 : Int32)), (.int (own_expect (2 : Int32) v8 (2 : Int32) v5 v1 p1 v2 p2 v3 p3))])) _
      refine XS.iload X116.here hx rfl (hb hby at_231) rfl ?_
      show Steps p.tables e below (T116.setTop (mkF m 233 #[vI p0, vI p1, vI p2, vI p3, vJ q4, .second, vJ q5, .second, vI v1, vI v2, vI v3, vI (2 : Int32), vI v5, vI v6, vI v7, vI v8, vI v9, vR b11, vR b30, vI (own_min (2 : Int32) v5)] [(.int v1), (.int v5), (.int (2 : Int32)), (.int v8), (.int (2 : Int32)), (.int (own_expect (2 : Int32) v8 (2 : Int32) v5 v1 p1 v2 p2 v3 p3))])) _
      refine XS.iloadN X116.here hx rfl (hb hby at_233) rfl ?_
      show Steps p.tables e below (T116.setTop (mkF m 234 #[vI p0, vI p1, vI p2, vI p3, vJ q4, .second, vJ q5, .second, vI v1, vI v2, vI v3, vI (2 : Int32), vI v5, vI v6, vI v7, vI v8, vI v9, vR b11, vR b30, vI (own_min (2 : Int32) v5)] [(.int p1), (.int v1), (.int v5), (.int (2 : Int32)), (.int v8), (.int (2 : Int32)), (.int (own_expect (2 : Int32) v8 (2 : Int32) v5 v1 p1 v2 p2 v3 p3))])) _
      refine XS.iload X116.here hx rfl (hb hby at_234) rfl ?_
      show Steps p.tables e below (T116.setTop (mkF m 236 #[vI p0, vI p1, vI p2, vI p3, vJ q4, .second, vJ q5, .second, vI v1, vI v2, vI v3, vI (2 : Int32), vI v5, vI v6, vI v7, vI v8, vI v9, vR b11, vR b30, vI (own_min (2 : Int32) v5)] [(.int v2), (.int p1), (.int v1), (.int v5), (.int (2 : Int32)), (.int v8), (.int (2 : Int32)), (.int (own_expect (2 : Int32) v8 (2 : Int32) v5 v1 p1 v2 p2 v3 p3))])) _
      refine XS.iloadN X116.here hx rfl (hb hby at_236) rfl ?_
      show Steps p.tables e below (T116.setTop (mkF m 237 #[vI p0, vI p1, vI p2, vI p3, vJ q4, .second, vJ q5, .second, vI v1, vI v2, vI v3, vI (2 : Int32), vI v5, vI v6, vI v7, vI v8, vI v9, vR b11, vR b30, vI (own_min (2 : Int32) v5)] [(.int p2), (.int v2), (.int p1), (.int v1), (.int v5), (.int (2 : Int32)), (.int v8), (.int (2 : Int32)), (.int (own_expect (2 : Int32) v8 (2 : Int32) v5 v1 p1 v2 p2 v3 p3))])) _
      refine XS.iload X116.here hx rfl (hb hby at_237) rfl ?_
      show Steps p.tables e below (T116.setTop (mkF m 239 #[vI p0, vI p1, vI p2, vI p3, vJ q4, .second, vJ q5, .second, vI v1, vI v2, vI v3, vI (2 : Int32), vI v5, vI v6, vI v7, vI v8, vI v9, vR b11, vR b30, vI (own_min (2 : Int32) v5)] [(.int v3), (.int p2), (.int v2), (.int p1), (.int v1), (.int v5), (.int (2 : Int32)), (.int v8), (.int (2 : Int32)), (.int (own_expect (2 : Int32) v8 (2 : Int32) v5 v1 p1 v2 p2 v3 p3))])) _
      refine XS.iloadN X116.here hx rfl (hb hby at_239) rfl ?_
      show Steps p.tables e below (T116.setTop (mkF m 240 #[vI p0, vI p1, vI p2, vI p3, vJ q4, .second, vJ q5, .second, vI v1, vI v2, vI v3, vI (2 : Int32), vI v5, vI v6, vI v7, vI v8, vI v9, vR b11, vR b30, vI (own_min (2 : Int32) v5)] [(.int p3), (.int v3), (.int p2), (.int v2), (.int p1), (.int v1), (.int v5), (.int (2 : Int32)), (.int v8), (.int (2 : Int32)), (.int (own_expect (2 : Int32) v8 (2 : Int32) v5 v1 p1 v2 p2 v3 p3))])) _
      exact k)
    obtain ⟨_, _, ⟨T120, qL120, qk120, qn120⟩, -, X120, ⟨Lc120, hQ120, ql120, qy120, qz120⟩, st120⟩ := Jvm.LawKit.callS X116 hx (y := (⟨"com/example/motiflow/motiflow/UndoLogTakeBackPinLaw", "expect", "(IIIIIIIIII)I"⟩ : MethodName)) hown (mvT hZ (hw _ (List.mem_of_getElem? (i := 30) rfl))) (mvT hZ (hw _ (List.mem_of_getElem? (i := 31) rfl))) (mvT hZ (hw _ (List.mem_of_getElem? (i := 32) rfl))) (mvT hZ (hw _ (List.mem_of_getElem? (i := 33) rfl))) (by decide) (backOf (W := 1) (rm6 l Z A0 hw [] (2 : Int32) v8 (2 : Int32) v5 v1 p1 v2 p2 v3 p3 T102.heap n0 zz104) hZ (hw _ (List.mem_of_getElem? (i := 33) rfl)) (hw _ (List.mem_of_getElem? (i := 32) rfl)) (by decide) (by decide)) (g := (mkF m 240 #[vI p0, vI p1, vI p2, vI p3, vJ q4, .second, vJ q5, .second, vI v1, vI v2, vI v3, vI (2 : Int32), vI v5, vI v6, vI v7, vI v8, vI v9, vR b11, vR b30, vI (own_min (2 : Int32) v5)] [(.int p3), (.int v3), (.int p2), (.int v2), (.int p1), (.int v1), (.int v5), (.int (2 : Int32)), (.int v8), (.int (2 : Int32)), (.int (own_expect (2 : Int32) v8 (2 : Int32) v5 v1 p1 v2 p2 v3 p3))])) rfl (by rw [hml]; rfl) (argsL := [(.int (2 : Int32)), (.int v8), (.int (2 : Int32)), (.int v5), (.int v1), (.int p1), (.int v2), (.int p2), (.int v3), (.int p3)]) (rest := [(.int (own_expect (2 : Int32) v8 (2 : Int32) v5 v1 p1 v2 p2 v3 p3))]) (lenOf pd_5 rfl) rfl (by show 2 * 0 + _ ≤ _; exact Nat.le_of_eq rfl) (hb hby at_240) (fun _ _ => ⟨rfl, eq116, (by decide : 4 + 0 ≤ _), (by decide : 39 + 0 ≤ _)⟩)
    dsimp only [Pt.U, Pt.locs, Pt.cells, Pt.slots] at X120 ql120 qy120 qz120 st120 hQ120
    subst ql120 qy120 qz120
    obtain ⟨rfl, Nq120, eq120⟩ := hQ120
    have N120 := Fr.app N116 Nq120
    have pre120 : Go p.tables e below S0 T120 (mkF m 243 #[vI p0, vI p1, vI p2, vI p3, vJ q4, .second, vJ q5, .second, vI v1, vI v2, vI v3, vI (2 : Int32), vI v5, vI v6, vI v7, vI v8, vI v9, vR b11, vR b30, vI (own_min (2 : Int32) v5)] [(.int (own_expect (2 : Int32) v8 (2 : Int32) v5 v1 p1 v2 p2 v3 p3)), (.int (own_expect (2 : Int32) v8 (2 : Int32) v5 v1 p1 v2 p2 v3 p3))]) := fun t k => pre119 t (st120 t k)
    have pre121 : Go p.tables e below S0 T120 (mkF m 249 #[vI p0, vI p1, vI p2, vI p3, vJ q4, .second, vJ q5, .second, vI v1, vI v2, vI v3, vI (2 : Int32), vI v5, vI v6, vI v7, vI v8, vI v9, vR b11, vR b30, vI (own_min (2 : Int32) v5)] [(.int (3 : Int32)), (.ref b11)]) := fun t k => pre120 t (by
      refine XS.icmpNo X120.here hx rfl (hb hby at_243) rfl (teq (rfl : (own_expect (2 : Int32) v8 (2 : Int32) v5 v1 p1 v2 p2 v3 p3) = (own_expect (2 : Int32) v8 (2 : Int32) v5 v1 p1 v2 p2 v3 p3))).2 ?_
      show Steps p.tables e below (T120.setTop (mkF m 246 #[vI p0, vI p1, vI p2, vI p3, vJ q4, .second, vJ q5, .second, vI v1, vI v2, vI v3, vI (2 : Int32), vI v5, vI v6, vI v7, vI v8, vI v9, vR b11, vR b30, vI (own_min (2 : Int32) v5)] [])) _
      refine XS.aload X120.here hx rfl (hb hby at_246) rfl rfl ?_
      show Steps p.tables e below (T120.setTop (mkF m 248 #[vI p0, vI p1, vI p2, vI p3, vJ q4, .second, vJ q5, .second, vI v1, vI v2, vI v3, vI (2 : Int32), vI v5, vI v6, vI v7, vI v8, vI v9, vR b11, vR b30, vI (own_min (2 : Int32) v5)] [(.ref b11)])) _
      refine XS.iconst X120.here hx rfl (hb hby at_248) ?_
      show Steps p.tables e below (T120.setTop (mkF m 249 #[vI p0, vI p1, vI p2, vI p3, vJ q4, .second, vJ q5, .second, vI v1, vI v2, vI v3, vI (2 : Int32), vI v5, vI v6, vI v7, vI v8, vI v9, vR b11, vR b30, vI (own_min (2 : Int32) v5)] [(.int (3 : Int32)), (.ref b11)])) _
      exact k)
    obtain ⟨cl122, Ar122, q122, S122, M122, H122, G122⟩ := id nf102_4
    have in122 : ¬ ((3 : Int32) < 0 ∨ cl122.slots.size ≤ ((3 : Int32)).toNatClampNeg) := inb_of S122 ⟨by decide, by decide⟩
    have at122 : cl122.slots[((3 : Int32)).toNatClampNeg]? = some (.int (own_expect (3 : Int32) v9 (2 : Int32) v5 v1 p1 v2 p2 v3 p3)) := H122.at in122 rfl
    have pre123 : Go p.tables e below S0 T120 (mkF m 266 #[vI p0, vI p1, vI p2, vI p3, vJ q4, .second, vJ q5, .second, vI v1, vI v2, vI v3, vI (2 : Int32), vI v5, vI v6, vI v7, vI v8, vI v9, vR b11, vR b30, vI (own_min (2 : Int32) v5)] [(.int p3), (.int v3), (.int p2), (.int v2), (.int p1), (.int v1), (.int v5), (.int (2 : Int32)), (.int v9), (.int (3 : Int32)), (.int (own_expect (3 : Int32) v9 (2 : Int32) v5 v1 p1 v2 p2 v3 p3))]) := fun t k => pre121 t (by
      refine X120.iaload hx (j := (3 : Int32)) (v := (.int (own_expect (3 : Int32) v9 (2 : Int32) v5 v1 p1 v2 p2 v3 p3))) (by rw [eq120]; exact Ar122.1) (State.isArrayOf_alike hZ.alike Ar122.2.1) Ar122.2.2 in122 at122 (g := (mkF m 249 #[vI p0, vI p1, vI p2, vI p3, vJ q4, .second, vJ q5, .second, vI v1, vI v2, vI v3, vI (2 : Int32), vI v5, vI v6, vI v7, vI v8, vI v9, vR b11, vR b30, vI (own_min (2 : Int32) v5)] [(.int (3 : Int32)), (.ref b11)])) rfl rfl (hb hby at_249) _ ?_
      show Steps p.tables e below (T120.setTop (mkF m 250 #[vI p0, vI p1, vI p2, vI p3, vJ q4, .second, vJ q5, .second, vI v1, vI v2, vI v3, vI (2 : Int32), vI v5, vI v6, vI v7, vI v8, vI v9, vR b11, vR b30, vI (own_min (2 : Int32) v5)] [(.int (own_expect (3 : Int32) v9 (2 : Int32) v5 v1 p1 v2 p2 v3 p3))])) _
      refine XS.iconst X120.here hx rfl (hb hby at_250) ?_
      show Steps p.tables e below (T120.setTop (mkF m 251 #[vI p0, vI p1, vI p2, vI p3, vJ q4, .second, vJ q5, .second, vI v1, vI v2, vI v3, vI (2 : Int32), vI v5, vI v6, vI v7, vI v8, vI v9, vR b11, vR b30, vI (own_min (2 : Int32) v5)] [(.int (3 : Int32)), (.int (own_expect (3 : Int32) v9 (2 : Int32) v5 v1 p1 v2 p2 v3 p3))])) _
      refine XS.iload X120.here hx rfl (hb hby at_251) rfl ?_
      show Steps p.tables e below (T120.setTop (mkF m 253 #[vI p0, vI p1, vI p2, vI p3, vJ q4, .second, vJ q5, .second, vI v1, vI v2, vI v3, vI (2 : Int32), vI v5, vI v6, vI v7, vI v8, vI v9, vR b11, vR b30, vI (own_min (2 : Int32) v5)] [(.int v9), (.int (3 : Int32)), (.int (own_expect (3 : Int32) v9 (2 : Int32) v5 v1 p1 v2 p2 v3 p3))])) _
      refine XS.iload X120.here hx rfl (hb hby at_253) rfl ?_
      show Steps p.tables e below (T120.setTop (mkF m 255 #[vI p0, vI p1, vI p2, vI p3, vJ q4, .second, vJ q5, .second, vI v1, vI v2, vI v3, vI (2 : Int32), vI v5, vI v6, vI v7, vI v8, vI v9, vR b11, vR b30, vI (own_min (2 : Int32) v5)] [(.int (2 : Int32)), (.int v9), (.int (3 : Int32)), (.int (own_expect (3 : Int32) v9 (2 : Int32) v5 v1 p1 v2 p2 v3 p3))])) _
      refine XS.iload X120.here hx rfl (hb hby at_255) rfl ?_
      show Steps p.tables e below (T120.setTop (mkF m 257 #[vI p0, vI p1, vI p2, vI p3, vJ q4, .second, vJ q5, .second, vI v1, vI v2, vI v3, vI (2 : Int32), vI v5, vI v6, vI v7, vI v8, vI v9, vR b11, vR b30, vI (own_min (2 : Int32) v5)] [(.int v5), (.int (2 : Int32)), (.int v9), (.int (3 : Int32)), (.int (own_expect (3 : Int32) v9 (2 : Int32) v5 v1 p1 v2 p2 v3 p3))])) _
      refine XS.iload X120.here hx rfl (hb hby at_257) rfl ?_
      show Steps p.tables e below (T120.setTop (mkF m 259 #[vI p0, vI p1, vI p2, vI p3, vJ q4, .second, vJ q5, .second, vI v1, vI v2, vI v3, vI (2 : Int32), vI v5, vI v6, vI v7, vI v8, vI v9, vR b11, vR b30, vI (own_min (2 : Int32) v5)] [(.int v1), (.int v5), (.int (2 : Int32)), (.int v9), (.int (3 : Int32)), (.int (own_expect (3 : Int32) v9 (2 : Int32) v5 v1 p1 v2 p2 v3 p3))])) _
      refine XS.iloadN X120.here hx rfl (hb hby at_259) rfl ?_
      show Steps p.tables e below (T120.setTop (mkF m 260 #[vI p0, vI p1, vI p2, vI p3, vJ q4, .second, vJ q5, .second, vI v1, vI v2, vI v3, vI (2 : Int32), vI v5, vI v6, vI v7, vI v8, vI v9, vR b11, vR b30, vI (own_min (2 : Int32) v5)] [(.int p1), (.int v1), (.int v5), (.int (2 : Int32)), (.int v9), (.int (3 : Int32)), (.int (own_expect (3 : Int32) v9 (2 : Int32) v5 v1 p1 v2 p2 v3 p3))])) _
      refine XS.iload X120.here hx rfl (hb hby at_260) rfl ?_
      show Steps p.tables e below (T120.setTop (mkF m 262 #[vI p0, vI p1, vI p2, vI p3, vJ q4, .second, vJ q5, .second, vI v1, vI v2, vI v3, vI (2 : Int32), vI v5, vI v6, vI v7, vI v8, vI v9, vR b11, vR b30, vI (own_min (2 : Int32) v5)] [(.int v2), (.int p1), (.int v1), (.int v5), (.int (2 : Int32)), (.int v9), (.int (3 : Int32)), (.int (own_expect (3 : Int32) v9 (2 : Int32) v5 v1 p1 v2 p2 v3 p3))])) _
      refine XS.iloadN X120.here hx rfl (hb hby at_262) rfl ?_
      show Steps p.tables e below (T120.setTop (mkF m 263 #[vI p0, vI p1, vI p2, vI p3, vJ q4, .second, vJ q5, .second, vI v1, vI v2, vI v3, vI (2 : Int32), vI v5, vI v6, vI v7, vI v8, vI v9, vR b11, vR b30, vI (own_min (2 : Int32) v5)] [(.int p2), (.int v2), (.int p1), (.int v1), (.int v5), (.int (2 : Int32)), (.int v9), (.int (3 : Int32)), (.int (own_expect (3 : Int32) v9 (2 : Int32) v5 v1 p1 v2 p2 v3 p3))])) _
      refine XS.iload X120.here hx rfl (hb hby at_263) rfl ?_
      show Steps p.tables e below (T120.setTop (mkF m 265 #[vI p0, vI p1, vI p2, vI p3, vJ q4, .second, vJ q5, .second, vI v1, vI v2, vI v3, vI (2 : Int32), vI v5, vI v6, vI v7, vI v8, vI v9, vR b11, vR b30, vI (own_min (2 : Int32) v5)] [(.int v3), (.int p2), (.int v2), (.int p1), (.int v1), (.int v5), (.int (2 : Int32)), (.int v9), (.int (3 : Int32)), (.int (own_expect (3 : Int32) v9 (2 : Int32) v5 v1 p1 v2 p2 v3 p3))])) _
      refine XS.iloadN X120.here hx rfl (hb hby at_265) rfl ?_
      show Steps p.tables e below (T120.setTop (mkF m 266 #[vI p0, vI p1, vI p2, vI p3, vJ q4, .second, vJ q5, .second, vI v1, vI v2, vI v3, vI (2 : Int32), vI v5, vI v6, vI v7, vI v8, vI v9, vR b11, vR b30, vI (own_min (2 : Int32) v5)] [(.int p3), (.int v3), (.int p2), (.int v2), (.int p1), (.int v1), (.int v5), (.int (2 : Int32)), (.int v9), (.int (3 : Int32)), (.int (own_expect (3 : Int32) v9 (2 : Int32) v5 v1 p1 v2 p2 v3 p3))])) _
      exact k)
    obtain ⟨_, _, ⟨T124, qL124, qk124, qn124⟩, -, X124, ⟨Lc124, hQ124, ql124, qy124, qz124⟩, st124⟩ := Jvm.LawKit.callS X120 hx (y := (⟨"com/example/motiflow/motiflow/UndoLogTakeBackPinLaw", "expect", "(IIIIIIIIII)I"⟩ : MethodName)) hown (mvT hZ (hw _ (List.mem_of_getElem? (i := 30) rfl))) (mvT hZ (hw _ (List.mem_of_getElem? (i := 31) rfl))) (mvT hZ (hw _ (List.mem_of_getElem? (i := 32) rfl))) (mvT hZ (hw _ (List.mem_of_getElem? (i := 33) rfl))) (by decide) (backOf (W := 1) (rm6 l Z A0 hw [] (3 : Int32) v9 (2 : Int32) v5 v1 p1 v2 p2 v3 p3 T102.heap n0 zz104) hZ (hw _ (List.mem_of_getElem? (i := 33) rfl)) (hw _ (List.mem_of_getElem? (i := 32) rfl)) (by decide) (by decide)) (g := (mkF m 266 #[vI p0, vI p1, vI p2, vI p3, vJ q4, .second, vJ q5, .second, vI v1, vI v2, vI v3, vI (2 : Int32), vI v5, vI v6, vI v7, vI v8, vI v9, vR b11, vR b30, vI (own_min (2 : Int32) v5)] [(.int p3), (.int v3), (.int p2), (.int v2), (.int p1), (.int v1), (.int v5), (.int (2 : Int32)), (.int v9), (.int (3 : Int32)), (.int (own_expect (3 : Int32) v9 (2 : Int32) v5 v1 p1 v2 p2 v3 p3))])) rfl (by rw [hml]; rfl) (argsL := [(.int (3 : Int32)), (.int v9), (.int (2 : Int32)), (.int v5), (.int v1), (.int p1), (.int v2), (.int p2), (.int v3), (.int p3)]) (rest := [(.int (own_expect (3 : Int32) v9 (2 : Int32) v5 v1 p1 v2 p2 v3 p3))]) (lenOf pd_5 rfl) rfl (by show 2 * 0 + _ ≤ _; exact Nat.le_of_eq rfl) (hb hby at_266) (fun _ _ => ⟨rfl, eq120, (by decide : 4 + 0 ≤ _), (by decide : 39 + 0 ≤ _)⟩)
    dsimp only [Pt.U, Pt.locs, Pt.cells, Pt.slots] at X124 ql124 qy124 qz124 st124 hQ124
    subst ql124 qy124 qz124
    obtain ⟨rfl, Nq124, eq124⟩ := hQ124
    have N124 := Fr.app N120 Nq124
    have pre124 : Go p.tables e below S0 T124 (mkF m 269 #[vI p0, vI p1, vI p2, vI p3, vJ q4, .second, vJ q5, .second, vI v1, vI v2, vI v3, vI (2 : Int32), vI v5, vI v6, vI v7, vI v8, vI v9, vR b11, vR b30, vI (own_min (2 : Int32) v5)] [(.int (own_expect (3 : Int32) v9 (2 : Int32) v5 v1 p1 v2 p2 v3 p3)), (.int (own_expect (3 : Int32) v9 (2 : Int32) v5 v1 p1 v2 p2 v3 p3))]) := fun t k => pre123 t (st124 t k)
    have pre125 : Go p.tables e below S0 T124 (mkF m 277 #[vI p0, vI p1, vI p2, vI p3, vJ q4, .second, vJ q5, .second, vI v1, vI v2, vI v3, vI (2 : Int32), vI v5, vI v6, vI v7, vI v8, vI v9, vR b11, vR b30, vI (own_min (2 : Int32) v5)] [(.int (1 : Int32))]) := fun t k => pre124 t (by
      refine XS.icmpNo X124.here hx rfl (hb hby at_269) rfl (teq (rfl : (own_expect (3 : Int32) v9 (2 : Int32) v5 v1 p1 v2 p2 v3 p3) = (own_expect (3 : Int32) v9 (2 : Int32) v5 v1 p1 v2 p2 v3 p3))).2 ?_
      show Steps p.tables e below (T124.setTop (mkF m 272 #[vI p0, vI p1, vI p2, vI p3, vJ q4, .second, vJ q5, .second, vI v1, vI v2, vI v3, vI (2 : Int32), vI v5, vI v6, vI v7, vI v8, vI v9, vR b11, vR b30, vI (own_min (2 : Int32) v5)] [])) _
      refine XS.iconst X124.here hx rfl (hb hby at_272) ?_
      show Steps p.tables e below (T124.setTop (mkF m 273 #[vI p0, vI p1, vI p2, vI p3, vJ q4, .second, vJ q5, .second, vI v1, vI v2, vI v3, vI (2 : Int32), vI v5, vI v6, vI v7, vI v8, vI v9, vR b11, vR b30, vI (own_min (2 : Int32) v5)] [(.int (1 : Int32))])) _
      refine XS.goto X124.here hx rfl (pc0 := 273) (pc' := 277) rfl (hb hby at_273) (by decide) (by decide) ?_
      show Steps p.tables e below (T124.setTop (mkF m 277 #[vI p0, vI p1, vI p2, vI p3, vJ q4, .second, vJ q5, .second, vI v1, vI v2, vI v3, vI (2 : Int32), vI v5, vI v6, vI v7, vI v8, vI v9, vR b11, vR b30, vI (own_min (2 : Int32) v5)] [(.int (1 : Int32))])) _
      exact k)
    obtain ⟨fs, hr, hrun, hended, hW, hsame⟩ := X124.leave (v := some (.int (1 : Int32))) (fun h => by rw [Bd.returns] at h; cases h)
    exact ⟨_, _, pre125.fin hS0 (retN X124 hx (t := .boolean) Bd.returns (by simp) (hb hby at_277) hr), hrun, hended, _, _, rfl, (by
      show Q0 Z p0 p1 p2 p3 q4 q5 h0 n0 _ T124.heap _
      rw [eq124]
      exact ⟨rfl, N124⟩), ⟨_, rfl⟩, hW, hsame.mono (by decide) (by decide)⟩
  · skip
    have pre126 : Go p.tables e below S0 T35 (mkF m 109 #[vI p0, vI p1, vI p2, vI p3, vJ q4, .second, vJ q5, .second, vI v1, vI v2, vI v3, vI (3 : Int32), vI v5, vI v6, vI v7, vI v8, vI v9, vR b11, vR b30, .unset] [(.int p1), (.int v1), (.ref b30)]) := fun t k => pre38 t (by
      refine XS.iload X35.here hx rfl (hb hby at_99) rfl ?_
      show Steps p.tables e below (T35.setTop (mkF m 101 #[vI p0, vI p1, vI p2, vI p3, vJ q4, .second, vJ q5, .second, vI v1, vI v2, vI v3, vI (3 : Int32), vI v5, vI v6, vI v7, vI v8, vI v9, vR b11, vR b30, .unset] [(.int (3 : Int32))])) _
      refine XS.ifNo X35.here hx rfl (hb hby at_101) rfl ((if0 _ _).trans (tlt (by decide : (0 : Int32) < (3 : Int32))).2.2.2) ?_
      show Steps p.tables e below (T35.setTop (mkF m 104 #[vI p0, vI p1, vI p2, vI p3, vJ q4, .second, vJ q5, .second, vI v1, vI v2, vI v3, vI (3 : Int32), vI v5, vI v6, vI v7, vI v8, vI v9, vR b11, vR b30, .unset] [])) _
      refine XS.aload X35.here hx rfl (hb hby at_104) rfl rfl ?_
      show Steps p.tables e below (T35.setTop (mkF m 106 #[vI p0, vI p1, vI p2, vI p3, vJ q4, .second, vJ q5, .second, vI v1, vI v2, vI v3, vI (3 : Int32), vI v5, vI v6, vI v7, vI v8, vI v9, vR b11, vR b30, .unset] [(.ref b30)])) _
      refine XS.iload X35.here hx rfl (hb hby at_106) rfl ?_
      show Steps p.tables e below (T35.setTop (mkF m 108 #[vI p0, vI p1, vI p2, vI p3, vJ q4, .second, vJ q5, .second, vI v1, vI v2, vI v3, vI (3 : Int32), vI v5, vI v6, vI v7, vI v8, vI v9, vR b11, vR b30, .unset] [(.int v1), (.ref b30)])) _
      refine XS.iloadN X35.here hx rfl (hb hby at_108) rfl ?_
      show Steps p.tables e below (T35.setTop (mkF m 109 #[vI p0, vI p1, vI p2, vI p3, vJ q4, .second, vJ q5, .second, vI v1, vI v2, vI v3, vI (3 : Int32), vI v5, vI v6, vI v7, vI v8, vI v9, vR b11, vR b30, .unset] [(.int p1), (.int v1), (.ref b30)])) _
      exact k)
    obtain ⟨cq127, kq127, qa127, qb127, qc127⟩ := isOf hZ rfl nf35_0
    obtain ⟨_, _, ⟨T127, qL127, qk127, qn127⟩, -, X127, ⟨Lc127, hQ127, ql127, qy127, qz127⟩, st127⟩ := X35.virtualBack hx (y := (⟨"com/example/motiflow/motiflow/UndoLog", "record", "(II)V"⟩ : MethodName)) (z := (⟨"com/example/motiflow/motiflow/UndoLog", "record", "(II)V"⟩ : MethodName)) hown (mvT hZ (hw _ (List.mem_of_getElem? (i := 34) rfl))) (mvT hZ (hw _ (List.mem_of_getElem? (i := 35) rfl))) (notFace_of_selects (args := #[]) (mvT hZ (hw _ (List.mem_of_getElem? (i := 37) rfl)))) (mvT hZ (hw _ (List.mem_of_getElem? (i := 37) rfl))) (mvT hZ (hw _ (List.mem_of_getElem? (i := 36) rfl))) (by decide) (backOf (W := 0) (rm7_0 l Z A0 hw [] b30 v1 p1 b1_35 b2_35 k1_35 k2_35 T35.heap n0 zz37 nf35_0 nf35_1 nf35_2 nf35_3 nf35_4 nf35_5 (Ne.symm nn35_0_1) (Ne.symm nn35_1_1) hq35.2.2 bo30 bo35_0 bo35_1) hZ (hw _ (List.mem_of_getElem? (i := 38) rfl)) (hw _ (List.mem_of_getElem? (i := 3) rfl)) (by decide) (by decide)) qa127 qc127 (g := (mkF m 109 #[vI p0, vI p1, vI p2, vI p3, vJ q4, .second, vJ q5, .second, vI v1, vI v2, vI v3, vI (3 : Int32), vI v5, vI v6, vI v7, vI v8, vI v9, vR b11, vR b30, .unset] [(.int p1), (.int v1), (.ref b30)])) rfl (by rw [hml]; rfl) (Steps.refl _) (argsL := [(.int v1), (.int p1)]) (rest := []) (lenOf pd_6 rfl) rfl (by show 2 * 0 + _ ≤ _; exact Nat.le_of_eq rfl) (hb hby at_109) (fun _ _ => ⟨rfl, rfl, (by decide : 4 + 0 ≤ _), (by decide : 39 + 0 ≤ _)⟩)
    dsimp only [Pt.U, Pt.locs, Pt.cells, Pt.slots] at X127 ql127 qy127 qz127 st127 hQ127
    subst ql127 qy127 qz127
    obtain ⟨rfl, Nq127, Kq127, nf127_0, nf127_1, nf127_2, nf127_3, nf127_4, nf127_5⟩ := hQ127
    have N127 := Fr.app N35 Nq127
    have pre127 : Go p.tables e below S0 T127 (mkF m 112 #[vI p0, vI p1, vI p2, vI p3, vJ q4, .second, vJ q5, .second, vI v1, vI v2, vI v3, vI (3 : Int32), vI v5, vI v6, vI v7, vI v8, vI v9, vR b11, vR b30, .unset] []) := fun t k => pre126 t (st127.trans k)
    have f128_1 := f36_1.keep Kq127 (ninS ne31 (ninS nn35_0_0 (ninS nn35_1_0 nin0)))
    have zz129 : n0 ≤ T127.heap.size := Nat.le_trans zz37 Kq127.1
    have pre130 : Go p.tables e below S0 T127 (mkF m 123 #[vI p0, vI p1, vI p2, vI p3, vJ q4, .second, vJ q5, .second, vI v1, vI v2, vI v3, vI (3 : Int32), vI v5, vI v6, vI v7, vI v8, vI v9, vR b11, vR b30, .unset] [(.int p2), (.int v2), (.ref b30)]) := fun t k => pre127 t (by
      refine XS.iload X127.here hx rfl (hb hby at_112) rfl ?_
      show Steps p.tables e below (T127.setTop (mkF m 114 #[vI p0, vI p1, vI p2, vI p3, vJ q4, .second, vJ q5, .second, vI v1, vI v2, vI v3, vI (3 : Int32), vI v5, vI v6, vI v7, vI v8, vI v9, vR b11, vR b30, .unset] [(.int (3 : Int32))])) _
      refine XS.iconst X127.here hx rfl (hb hby at_114) ?_
      show Steps p.tables e below (T127.setTop (mkF m 115 #[vI p0, vI p1, vI p2, vI p3, vJ q4, .second, vJ q5, .second, vI v1, vI v2, vI v3, vI (3 : Int32), vI v5, vI v6, vI v7, vI v8, vI v9, vR b11, vR b30, .unset] [(.int (1 : Int32)), (.int (3 : Int32))])) _
      refine XS.icmpNo X127.here hx rfl (hb hby at_115) rfl (tlt (by decide : (1 : Int32) < (3 : Int32))).2.2.2 ?_
      show Steps p.tables e below (T127.setTop (mkF m 118 #[vI p0, vI p1, vI p2, vI p3, vJ q4, .second, vJ q5, .second, vI v1, vI v2, vI v3, vI (3 : Int32), vI v5, vI v6, vI v7, vI v8, vI v9, vR b11, vR b30, .unset] [])) _
      refine XS.aload X127.here hx rfl (hb hby at_118) rfl rfl ?_
      show Steps p.tables e below (T127.setTop (mkF m 120 #[vI p0, vI p1, vI p2, vI p3, vJ q4, .second, vJ q5, .second, vI v1, vI v2, vI v3, vI (3 : Int32), vI v5, vI v6, vI v7, vI v8, vI v9, vR b11, vR b30, .unset] [(.ref b30)])) _
      refine XS.iload X127.here hx rfl (hb hby at_120) rfl ?_
      show Steps p.tables e below (T127.setTop (mkF m 122 #[vI p0, vI p1, vI p2, vI p3, vJ q4, .second, vJ q5, .second, vI v1, vI v2, vI v3, vI (3 : Int32), vI v5, vI v6, vI v7, vI v8, vI v9, vR b11, vR b30, .unset] [(.int v2), (.ref b30)])) _
      refine XS.iloadN X127.here hx rfl (hb hby at_122) rfl ?_
      show Steps p.tables e below (T127.setTop (mkF m 123 #[vI p0, vI p1, vI p2, vI p3, vJ q4, .second, vJ q5, .second, vI v1, vI v2, vI v3, vI (3 : Int32), vI v5, vI v6, vI v7, vI v8, vI v9, vR b11, vR b30, .unset] [(.int p2), (.int v2), (.ref b30)])) _
      exact k)
    obtain ⟨cq131, kq131, qa131, qb131, qc131⟩ := isOf hZ rfl nf127_0
    obtain ⟨_, _, ⟨T131, qL131, qk131, qn131⟩, -, X131, ⟨Lc131, hQ131, ql131, qy131, qz131⟩, st131⟩ := X127.virtualBack hx (y := (⟨"com/example/motiflow/motiflow/UndoLog", "record", "(II)V"⟩ : MethodName)) (z := (⟨"com/example/motiflow/motiflow/UndoLog", "record", "(II)V"⟩ : MethodName)) hown (mvT hZ (hw _ (List.mem_of_getElem? (i := 34) rfl))) (mvT hZ (hw _ (List.mem_of_getElem? (i := 35) rfl))) (notFace_of_selects (args := #[]) (mvT hZ (hw _ (List.mem_of_getElem? (i := 37) rfl)))) (mvT hZ (hw _ (List.mem_of_getElem? (i := 37) rfl))) (mvT hZ (hw _ (List.mem_of_getElem? (i := 36) rfl))) (by decide) (backOf (W := 0) (rm7_1 l Z A0 hw [] b30 v2 p2 b1_35 b2_35 k1_35 k2_35 v1 p1 T127.heap n0 zz129 nf127_0 nf127_1 nf127_2 nf127_3 nf127_4 nf127_5 (Ne.symm nn35_0_1) (Ne.symm nn35_1_1) hq35.2.2 bo30 bo35_0 bo35_1) hZ (hw _ (List.mem_of_getElem? (i := 38) rfl)) (hw _ (List.mem_of_getElem? (i := 3) rfl)) (by decide) (by decide)) qa131 qc131 (g := (mkF m 123 #[vI p0, vI p1, vI p2, vI p3, vJ q4, .second, vJ q5, .second, vI v1, vI v2, vI v3, vI (3 : Int32), vI v5, vI v6, vI v7, vI v8, vI v9, vR b11, vR b30, .unset] [(.int p2), (.int v2), (.ref b30)])) rfl (by rw [hml]; rfl) (Steps.refl _) (argsL := [(.int v2), (.int p2)]) (rest := []) (lenOf pd_6 rfl) rfl (by show 2 * 0 + _ ≤ _; exact Nat.le_of_eq rfl) (hb hby at_123) (fun _ _ => ⟨rfl, rfl, (by decide : 4 + 0 ≤ _), (by decide : 39 + 0 ≤ _)⟩)
    dsimp only [Pt.U, Pt.locs, Pt.cells, Pt.slots] at X131 ql131 qy131 qz131 st131 hQ131
    subst ql131 qy131 qz131
    obtain ⟨rfl, Nq131, Kq131, nf131_0, nf131_1, nf131_2, nf131_3, nf131_4, nf131_5⟩ := hQ131
    have N131 := Fr.app N127 Nq131
    have pre131 : Go p.tables e below S0 T131 (mkF m 126 #[vI p0, vI p1, vI p2, vI p3, vJ q4, .second, vJ q5, .second, vI v1, vI v2, vI v3, vI (3 : Int32), vI v5, vI v6, vI v7, vI v8, vI v9, vR b11, vR b30, .unset] []) := fun t k => pre130 t (st131.trans k)
    have f132_1 := f128_1.keep Kq131 (ninS ne31 (ninS nn35_0_0 (ninS nn35_1_0 nin0)))
    have zz133 : n0 ≤ T131.heap.size := Nat.le_trans zz129 Kq131.1
    have pre134 : Go p.tables e below S0 T131 (mkF m 137 #[vI p0, vI p1, vI p2, vI p3, vJ q4, .second, vJ q5, .second, vI v1, vI v2, vI v3, vI (3 : Int32), vI v5, vI v6, vI v7, vI v8, vI v9, vR b11, vR b30, .unset] [(.int p3), (.int v3), (.ref b30)]) := fun t k => pre131 t (by
      refine XS.iload X131.here hx rfl (hb hby at_126) rfl ?_
      show Steps p.tables e below (T131.setTop (mkF m 128 #[vI p0, vI p1, vI p2, vI p3, vJ q4, .second, vJ q5, .second, vI v1, vI v2, vI v3, vI (3 : Int32), vI v5, vI v6, vI v7, vI v8, vI v9, vR b11, vR b30, .unset] [(.int (3 : Int32))])) _
      refine XS.iconst X131.here hx rfl (hb hby at_128) ?_
      show Steps p.tables e below (T131.setTop (mkF m 129 #[vI p0, vI p1, vI p2, vI p3, vJ q4, .second, vJ q5, .second, vI v1, vI v2, vI v3, vI (3 : Int32), vI v5, vI v6, vI v7, vI v8, vI v9, vR b11, vR b30, .unset] [(.int (2 : Int32)), (.int (3 : Int32))])) _
      refine XS.icmpNo X131.here hx rfl (hb hby at_129) rfl (tlt (by decide : (2 : Int32) < (3 : Int32))).2.2.2 ?_
      show Steps p.tables e below (T131.setTop (mkF m 132 #[vI p0, vI p1, vI p2, vI p3, vJ q4, .second, vJ q5, .second, vI v1, vI v2, vI v3, vI (3 : Int32), vI v5, vI v6, vI v7, vI v8, vI v9, vR b11, vR b30, .unset] [])) _
      refine XS.aload X131.here hx rfl (hb hby at_132) rfl rfl ?_
      show Steps p.tables e below (T131.setTop (mkF m 134 #[vI p0, vI p1, vI p2, vI p3, vJ q4, .second, vJ q5, .second, vI v1, vI v2, vI v3, vI (3 : Int32), vI v5, vI v6, vI v7, vI v8, vI v9, vR b11, vR b30, .unset] [(.ref b30)])) _
      refine XS.iload X131.here hx rfl (hb hby at_134) rfl ?_
      show Steps p.tables e below (T131.setTop (mkF m 136 #[vI p0, vI p1, vI p2, vI p3, vJ q4, .second, vJ q5, .second, vI v1, vI v2, vI v3, vI (3 : Int32), vI v5, vI v6, vI v7, vI v8, vI v9, vR b11, vR b30, .unset] [(.int v3), (.ref b30)])) _
      refine XS.iloadN X131.here hx rfl (hb hby at_136) rfl ?_
      show Steps p.tables e below (T131.setTop (mkF m 137 #[vI p0, vI p1, vI p2, vI p3, vJ q4, .second, vJ q5, .second, vI v1, vI v2, vI v3, vI (3 : Int32), vI v5, vI v6, vI v7, vI v8, vI v9, vR b11, vR b30, .unset] [(.int p3), (.int v3), (.ref b30)])) _
      exact k)
    obtain ⟨cq135, kq135, qa135, qb135, qc135⟩ := isOf hZ rfl nf131_0
    obtain ⟨_, _, ⟨T135, qL135, qk135, qn135⟩, -, X135, ⟨Lc135, hQ135, ql135, qy135, qz135⟩, st135⟩ := X131.virtualBack hx (y := (⟨"com/example/motiflow/motiflow/UndoLog", "record", "(II)V"⟩ : MethodName)) (z := (⟨"com/example/motiflow/motiflow/UndoLog", "record", "(II)V"⟩ : MethodName)) hown (mvT hZ (hw _ (List.mem_of_getElem? (i := 34) rfl))) (mvT hZ (hw _ (List.mem_of_getElem? (i := 35) rfl))) (notFace_of_selects (args := #[]) (mvT hZ (hw _ (List.mem_of_getElem? (i := 37) rfl)))) (mvT hZ (hw _ (List.mem_of_getElem? (i := 37) rfl))) (mvT hZ (hw _ (List.mem_of_getElem? (i := 36) rfl))) (by decide) (backOf (W := 0) (rm7_2 l Z A0 hw [] b30 v3 p3 b1_35 b2_35 k1_35 k2_35 v1 p1 v2 p2 T131.heap n0 zz133 nf131_0 nf131_1 nf131_2 nf131_3 nf131_4 nf131_5 (Ne.symm nn35_0_1) (Ne.symm nn35_1_1) hq35.2.2 bo30 bo35_0 bo35_1) hZ (hw _ (List.mem_of_getElem? (i := 38) rfl)) (hw _ (List.mem_of_getElem? (i := 3) rfl)) (by decide) (by decide)) qa135 qc135 (g := (mkF m 137 #[vI p0, vI p1, vI p2, vI p3, vJ q4, .second, vJ q5, .second, vI v1, vI v2, vI v3, vI (3 : Int32), vI v5, vI v6, vI v7, vI v8, vI v9, vR b11, vR b30, .unset] [(.int p3), (.int v3), (.ref b30)])) rfl (by rw [hml]; rfl) (Steps.refl _) (argsL := [(.int v3), (.int p3)]) (rest := []) (lenOf pd_6 rfl) rfl (by show 2 * 0 + _ ≤ _; exact Nat.le_of_eq rfl) (hb hby at_137) (fun _ _ => ⟨rfl, rfl, (by decide : 4 + 0 ≤ _), (by decide : 39 + 0 ≤ _)⟩)
    dsimp only [Pt.U, Pt.locs, Pt.cells, Pt.slots] at X135 ql135 qy135 qz135 st135 hQ135
    subst ql135 qy135 qz135
    obtain ⟨rfl, Nq135, Kq135, nf135_0, nf135_1, nf135_2, nf135_3, nf135_4, nf135_5⟩ := hQ135
    have N135 := Fr.app N131 Nq135
    have pre135 : Go p.tables e below S0 T135 (mkF m 140 #[vI p0, vI p1, vI p2, vI p3, vJ q4, .second, vJ q5, .second, vI v1, vI v2, vI v3, vI (3 : Int32), vI v5, vI v6, vI v7, vI v8, vI v9, vR b11, vR b30, .unset] []) := fun t k => pre134 t (st135.trans k)
    have f136_1 := f132_1.keep Kq135 (ninS ne31 (ninS nn35_0_0 (ninS nn35_1_0 nin0)))
    have zz137 : n0 ≤ T135.heap.size := Nat.le_trans zz133 Kq135.1
    have pre138 : Go p.tables e below S0 T135 (mkF m 146 #[vI p0, vI p1, vI p2, vI p3, vJ q4, .second, vJ q5, .second, vI v1, vI v2, vI v3, vI (3 : Int32), vI v5, vI v6, vI v7, vI v8, vI v9, vR b11, vR b30, .unset] [(.int v5), (.ref b11), (.ref b30)]) := fun t k => pre135 t (by
      refine XS.aload X135.here hx rfl (hb hby at_140) rfl rfl ?_
      show Steps p.tables e below (T135.setTop (mkF m 142 #[vI p0, vI p1, vI p2, vI p3, vJ q4, .second, vJ q5, .second, vI v1, vI v2, vI v3, vI (3 : Int32), vI v5, vI v6, vI v7, vI v8, vI v9, vR b11, vR b30, .unset] [(.ref b30)])) _
      refine XS.aload X135.here hx rfl (hb hby at_142) rfl rfl ?_
      show Steps p.tables e below (T135.setTop (mkF m 144 #[vI p0, vI p1, vI p2, vI p3, vJ q4, .second, vJ q5, .second, vI v1, vI v2, vI v3, vI (3 : Int32), vI v5, vI v6, vI v7, vI v8, vI v9, vR b11, vR b30, .unset] [(.ref b11), (.ref b30)])) _
      refine XS.iload X135.here hx rfl (hb hby at_144) rfl ?_
      show Steps p.tables e below (T135.setTop (mkF m 146 #[vI p0, vI p1, vI p2, vI p3, vJ q4, .second, vJ q5, .second, vI v1, vI v2, vI v3, vI (3 : Int32), vI v5, vI v6, vI v7, vI v8, vI v9, vR b11, vR b30, .unset] [(.int v5), (.ref b11), (.ref b30)])) _
      exact k)
    obtain ⟨cq139, kq139, qa139, qb139, qc139⟩ := isOf hZ rfl nf135_0
    obtain ⟨_, _, ⟨T139, qL139, qk139, qn139⟩, -, X139, ⟨Lc139, hQ139, ql139, qy139, qz139⟩, st139⟩ := X135.virtualBack hx (y := (⟨"com/example/motiflow/motiflow/UndoLog", "takeBack", "([II)V"⟩ : MethodName)) (z := (⟨"com/example/motiflow/motiflow/UndoLog", "takeBack", "([II)V"⟩ : MethodName)) hown (mvT hZ (hw _ (List.mem_of_getElem? (i := 14) rfl))) (mvT hZ (hw _ (List.mem_of_getElem? (i := 15) rfl))) (notFace_of_selects (args := #[]) (mvT hZ (hw _ (List.mem_of_getElem? (i := 17) rfl)))) (mvT hZ (hw _ (List.mem_of_getElem? (i := 17) rfl))) (mvT hZ (hw _ (List.mem_of_getElem? (i := 16) rfl))) (by decide) (backOf (W := 0) (rm3_3 l Z A0 hw [] b30 b11 v5 b1_35 b2_35 k1_35 k2_35 kA11 v6 v7 v8 v9 v1 p1 v2 p2 v3 p3 T135.heap n0 zz137 nf135_0 nf135_1 nf135_2 nf135_3 nf135_4 nf135_5 f136_1 (Ne.symm nn35_0_1) (Ne.symm nn35_1_1) ne31 (Ne.symm nn35_0_0) (Ne.symm nn35_1_0) bo30 bo11 hp0 hp1 hp2 hmark) hZ (hw _ (List.mem_of_getElem? (i := 18) rfl)) (hw _ (List.mem_of_getElem? (i := 3) rfl)) (by decide) (by decide)) qa139 qc139 (g := (mkF m 146 #[vI p0, vI p1, vI p2, vI p3, vJ q4, .second, vJ q5, .second, vI v1, vI v2, vI v3, vI (3 : Int32), vI v5, vI v6, vI v7, vI v8, vI v9, vR b11, vR b30, .unset] [(.int v5), (.ref b11), (.ref b30)])) rfl (by rw [hml]; rfl) (Steps.refl _) (argsL := [(.ref b11), (.int v5)]) (rest := []) (lenOf pd_2 rfl) rfl (by show 2 * 0 + _ ≤ _; exact Nat.le_of_eq rfl) (hb hby at_146) (fun _ _ => ⟨rfl, rfl, (by decide : 4 + 0 ≤ _), (by decide : 39 + 0 ≤ _)⟩)
    dsimp only [Pt.U, Pt.locs, Pt.cells, Pt.slots] at X139 ql139 qy139 qz139 st139 hQ139
    subst ql139 qy139 qz139
    obtain ⟨rfl, Nq139, Kq139, nf139_0, nf139_1, nf139_2, nf139_3, nf139_4⟩ := hQ139
    have N139 := Fr.app N135 Nq139
    have pre139 : Go p.tables e below S0 T139 (mkF m 149 #[vI p0, vI p1, vI p2, vI p3, vJ q4, .second, vJ q5, .second, vI v1, vI v2, vI v3, vI (3 : Int32), vI v5, vI v6, vI v7, vI v8, vI v9, vR b11, vR b30, .unset] []) := fun t k => pre138 t (st139.trans k)
    have f140_1 := nf135_4.keep Kq139 (ninS (Ne.symm nn35_0_1) (ninS (Ne.symm nn35_0_0) nin0))
    have f140_2 := nf135_5.keep Kq139 (ninS (Ne.symm nn35_1_1) (ninS (Ne.symm nn35_1_0) nin0))
    have zz141 : n0 ≤ T139.heap.size := Nat.le_trans zz137 Kq139.1
    have pre142 : Go p.tables e below S0 T139 (mkF m 153 #[vI p0, vI p1, vI p2, vI p3, vJ q4, .second, vJ q5, .second, vI v1, vI v2, vI v3, vI (3 : Int32), vI v5, vI v6, vI v7, vI v8, vI v9, vR b11, vR b30, .unset] [(.int v5), (.int (3 : Int32))]) := fun t k => pre139 t (by
      refine XS.iload X139.here hx rfl (hb hby at_149) rfl ?_
      show Steps p.tables e below (T139.setTop (mkF m 151 #[vI p0, vI p1, vI p2, vI p3, vJ q4, .second, vJ q5, .second, vI v1, vI v2, vI v3, vI (3 : Int32), vI v5, vI v6, vI v7, vI v8, vI v9, vR b11, vR b30, .unset] [(.int (3 : Int32))])) _
      refine XS.iload X139.here hx rfl (hb hby at_151) rfl ?_
      show Steps p.tables e below (T139.setTop (mkF m 153 #[vI p0, vI p1, vI p2, vI p3, vJ q4, .second, vJ q5, .second, vI v1, vI v2, vI v3, vI (3 : Int32), vI v5, vI v6, vI v7, vI v8, vI v9, vR b11, vR b30, .unset] [(.int v5), (.int (3 : Int32))])) _
      exact k)
    obtain ⟨_, _, ⟨T143, qL143, qk143, qn143⟩, -, X143, ⟨Lc143, hQ143, ql143, qy143, qz143⟩, st143⟩ := Jvm.LawKit.callS X139 hx (y := (⟨"java/lang/Math", "min", "(II)I"⟩ : MethodName)) hown (mvT hZ (hw _ (List.mem_of_getElem? (i := 21) rfl))) (mvT hZ (hw _ (List.mem_of_getElem? (i := 22) rfl))) (mvT hZ (hw _ (List.mem_of_getElem? (i := 23) rfl))) (mvT hZ (hw _ (List.mem_of_getElem? (i := 24) rfl))) (by decide) (backOf (W := 0) (rm4 l Z A0 hw [] (3 : Int32) v5 T139.heap n0 zz141) hZ (hw _ (List.mem_of_getElem? (i := 24) rfl)) (hw _ (List.mem_of_getElem? (i := 23) rfl)) (by decide) (by decide)) (g := (mkF m 153 #[vI p0, vI p1, vI p2, vI p3, vJ q4, .second, vJ q5, .second, vI v1, vI v2, vI v3, vI (3 : Int32), vI v5, vI v6, vI v7, vI v8, vI v9, vR b11, vR b30, .unset] [(.int v5), (.int (3 : Int32))])) rfl (by rw [hml]; rfl) (argsL := [(.int (3 : Int32)), (.int v5)]) (rest := []) (lenOf pd_3 rfl) rfl (by show 2 * 0 + _ ≤ _; exact Nat.le_of_eq rfl) (hb hby at_153) (fun _ _ => ⟨rfl, rfl, (by decide : 4 + 0 ≤ _), (by decide : 39 + 0 ≤ _)⟩)
    dsimp only [Pt.U, Pt.locs, Pt.cells, Pt.slots] at X143 ql143 qy143 qz143 st143 hQ143
    subst ql143 qy143 qz143
    obtain ⟨rfl, Nq143, eq143⟩ := hQ143
    have N143 := Fr.app N139 Nq143
    have pre143 : Go p.tables e below S0 T143 (mkF m 156 #[vI p0, vI p1, vI p2, vI p3, vJ q4, .second, vJ q5, .second, vI v1, vI v2, vI v3, vI (3 : Int32), vI v5, vI v6, vI v7, vI v8, vI v9, vR b11, vR b30, .unset] [(.int (own_min (3 : Int32) v5))]) := fun t k => pre142 t (st143 t k)
    have pre144 : Go p.tables e below S0 T143 (mkF m 160 #[vI p0, vI p1, vI p2, vI p3, vJ q4, .second, vJ q5, .second, vI v1, vI v2, vI v3, vI (3 : Int32), vI v5, vI v6, vI v7, vI v8, vI v9, vR b11, vR b30, vI (own_min (3 : Int32) v5)] [(.ref b30)]) := fun t k => pre143 t (by
      refine XS.istore X143.here hx rfl (hb hby at_156) rfl (l' := #[vI p0, vI p1, vI p2, vI p3, vJ q4, .second, vJ q5, .second, vI v1, vI v2, vI v3, vI (3 : Int32), vI v5, vI v6, vI v7, vI v8, vI v9, vR b11, vR b30, vI (own_min (3 : Int32) v5)]) rfl ?_
      show Steps p.tables e below (T143.setTop (mkF m 158 #[vI p0, vI p1, vI p2, vI p3, vJ q4, .second, vJ q5, .second, vI v1, vI v2, vI v3, vI (3 : Int32), vI v5, vI v6, vI v7, vI v8, vI v9, vR b11, vR b30, vI (own_min (3 : Int32) v5)] [])) _
      refine XS.aload X143.here hx rfl (hb hby at_158) rfl rfl ?_
      show Steps p.tables e below (T143.setTop (mkF m 160 #[vI p0, vI p1, vI p2, vI p3, vJ q4, .second, vJ q5, .second, vI v1, vI v2, vI v3, vI (3 : Int32), vI v5, vI v6, vI v7, vI v8, vI v9, vR b11, vR b30, vI (own_min (3 : Int32) v5)] [(.ref b30)])) _
      exact k)
    obtain ⟨cq145, kq145, qa145, qb145, qc145⟩ := isOf hZ eq143 nf139_0
    obtain ⟨_, _, ⟨T145, qL145, qk145, qn145⟩, -, X145, ⟨Lc145, hQ145, ql145, qy145, qz145⟩, st145⟩ := X143.virtualBack hx (y := (⟨"com/example/motiflow/motiflow/UndoLog", "size", "()I"⟩ : MethodName)) (z := (⟨"com/example/motiflow/motiflow/UndoLog", "size", "()I"⟩ : MethodName)) hown (mvT hZ (hw _ (List.mem_of_getElem? (i := 25) rfl))) (mvT hZ (hw _ (List.mem_of_getElem? (i := 26) rfl))) (notFace_of_selects (args := #[]) (mvT hZ (hw _ (List.mem_of_getElem? (i := 28) rfl)))) (mvT hZ (hw _ (List.mem_of_getElem? (i := 28) rfl))) (mvT hZ (hw _ (List.mem_of_getElem? (i := 27) rfl))) (by decide) (backOf (W := 0) (rm5 l Z A0 hw [] b30 (own_min (3 : Int32) v5) T139.heap n0 zz141 nf139_3) hZ (hw _ (List.mem_of_getElem? (i := 29) rfl)) (hw _ (List.mem_of_getElem? (i := 3) rfl)) (by decide) (by decide)) qa145 qc145 (g := (mkF m 160 #[vI p0, vI p1, vI p2, vI p3, vJ q4, .second, vJ q5, .second, vI v1, vI v2, vI v3, vI (3 : Int32), vI v5, vI v6, vI v7, vI v8, vI v9, vR b11, vR b30, vI (own_min (3 : Int32) v5)] [(.ref b30)])) rfl (by rw [hml]; rfl) (Steps.refl _) (argsL := []) (rest := []) (lenOf pd_4 rfl) rfl (by show 2 * 0 + _ ≤ _; exact Nat.le_of_eq rfl) (hb hby at_160) (fun _ _ => ⟨rfl, eq143, (by decide : 4 + 0 ≤ _), (by decide : 39 + 0 ≤ _)⟩)
    dsimp only [Pt.U, Pt.locs, Pt.cells, Pt.slots] at X145 ql145 qy145 qz145 st145 hQ145
    subst ql145 qy145 qz145
    obtain ⟨rfl, Nq145, eq145⟩ := hQ145
    have N145 := Fr.app N143 Nq145
    have pre145 : Go p.tables e below S0 T145 (mkF m 163 #[vI p0, vI p1, vI p2, vI p3, vJ q4, .second, vJ q5, .second, vI v1, vI v2, vI v3, vI (3 : Int32), vI v5, vI v6, vI v7, vI v8, vI v9, vR b11, vR b30, vI (own_min (3 : Int32) v5)] [(.int (own_min (3 : Int32) v5))]) := fun t k => pre144 t (st145.trans k)
    have pre146 : Go p.tables e below S0 T145 (mkF m 171 #[vI p0, vI p1, vI p2, vI p3, vJ q4, .second, vJ q5, .second, vI v1, vI v2, vI v3, vI (3 : Int32), vI v5, vI v6, vI v7, vI v8, vI v9, vR b11, vR b30, vI (own_min (3 : Int32) v5)] [(.int (0 : Int32)), (.ref b11)]) := fun t k => pre145 t (by
      refine XS.iload X145.here hx rfl (hb hby at_163) rfl ?_
      show Steps p.tables e below (T145.setTop (mkF m 165 #[vI p0, vI p1, vI p2, vI p3, vJ q4, .second, vJ q5, .second, vI v1, vI v2, vI v3, vI (3 : Int32), vI v5, vI v6, vI v7, vI v8, vI v9, vR b11, vR b30, vI (own_min (3 : Int32) v5)] [(.int (own_min (3 : Int32) v5)), (.int (own_min (3 : Int32) v5))])) _
      refine XS.icmpNo X145.here hx rfl (hb hby at_165) rfl (teq (rfl : (own_min (3 : Int32) v5) = (own_min (3 : Int32) v5))).2 ?_
      show Steps p.tables e below (T145.setTop (mkF m 168 #[vI p0, vI p1, vI p2, vI p3, vJ q4, .second, vJ q5, .second, vI v1, vI v2, vI v3, vI (3 : Int32), vI v5, vI v6, vI v7, vI v8, vI v9, vR b11, vR b30, vI (own_min (3 : Int32) v5)] [])) _
      refine XS.aload X145.here hx rfl (hb hby at_168) rfl rfl ?_
      show Steps p.tables e below (T145.setTop (mkF m 170 #[vI p0, vI p1, vI p2, vI p3, vJ q4, .second, vJ q5, .second, vI v1, vI v2, vI v3, vI (3 : Int32), vI v5, vI v6, vI v7, vI v8, vI v9, vR b11, vR b30, vI (own_min (3 : Int32) v5)] [(.ref b11)])) _
      refine XS.iconst X145.here hx rfl (hb hby at_170) ?_
      show Steps p.tables e below (T145.setTop (mkF m 171 #[vI p0, vI p1, vI p2, vI p3, vJ q4, .second, vJ q5, .second, vI v1, vI v2, vI v3, vI (3 : Int32), vI v5, vI v6, vI v7, vI v8, vI v9, vR b11, vR b30, vI (own_min (3 : Int32) v5)] [(.int (0 : Int32)), (.ref b11)])) _
      exact k)
    obtain ⟨cl147, Ar147, q147, S147, M147, H147, G147⟩ := id nf139_4
    have in147 : ¬ ((0 : Int32) < 0 ∨ cl147.slots.size ≤ ((0 : Int32)).toNatClampNeg) := inb_of S147 ⟨by decide, by decide⟩
    have at147 : cl147.slots[((0 : Int32)).toNatClampNeg]? = some (.int (own_expect (0 : Int32) v6 (3 : Int32) v5 v1 p1 v2 p2 v3 p3)) := H147.at in147 rfl
    have pre148 : Go p.tables e below S0 T145 (mkF m 188 #[vI p0, vI p1, vI p2, vI p3, vJ q4, .second, vJ q5, .second, vI v1, vI v2, vI v3, vI (3 : Int32), vI v5, vI v6, vI v7, vI v8, vI v9, vR b11, vR b30, vI (own_min (3 : Int32) v5)] [(.int p3), (.int v3), (.int p2), (.int v2), (.int p1), (.int v1), (.int v5), (.int (3 : Int32)), (.int v6), (.int (0 : Int32)), (.int (own_expect (0 : Int32) v6 (3 : Int32) v5 v1 p1 v2 p2 v3 p3))]) := fun t k => pre146 t (by
      refine X145.iaload hx (j := (0 : Int32)) (v := (.int (own_expect (0 : Int32) v6 (3 : Int32) v5 v1 p1 v2 p2 v3 p3))) (by rw [eq145]; exact Ar147.1) (State.isArrayOf_alike hZ.alike Ar147.2.1) Ar147.2.2 in147 at147 (g := (mkF m 171 #[vI p0, vI p1, vI p2, vI p3, vJ q4, .second, vJ q5, .second, vI v1, vI v2, vI v3, vI (3 : Int32), vI v5, vI v6, vI v7, vI v8, vI v9, vR b11, vR b30, vI (own_min (3 : Int32) v5)] [(.int (0 : Int32)), (.ref b11)])) rfl rfl (hb hby at_171) _ ?_
      show Steps p.tables e below (T145.setTop (mkF m 172 #[vI p0, vI p1, vI p2, vI p3, vJ q4, .second, vJ q5, .second, vI v1, vI v2, vI v3, vI (3 : Int32), vI v5, vI v6, vI v7, vI v8, vI v9, vR b11, vR b30, vI (own_min (3 : Int32) v5)] [(.int (own_expect (0 : Int32) v6 (3 : Int32) v5 v1 p1 v2 p2 v3 p3))])) _
      refine XS.iconst X145.here hx rfl (hb hby at_172) ?_
      show Steps p.tables e below (T145.setTop (mkF m 173 #[vI p0, vI p1, vI p2, vI p3, vJ q4, .second, vJ q5, .second, vI v1, vI v2, vI v3, vI (3 : Int32), vI v5, vI v6, vI v7, vI v8, vI v9, vR b11, vR b30, vI (own_min (3 : Int32) v5)] [(.int (0 : Int32)), (.int (own_expect (0 : Int32) v6 (3 : Int32) v5 v1 p1 v2 p2 v3 p3))])) _
      refine XS.iload X145.here hx rfl (hb hby at_173) rfl ?_
      show Steps p.tables e below (T145.setTop (mkF m 175 #[vI p0, vI p1, vI p2, vI p3, vJ q4, .second, vJ q5, .second, vI v1, vI v2, vI v3, vI (3 : Int32), vI v5, vI v6, vI v7, vI v8, vI v9, vR b11, vR b30, vI (own_min (3 : Int32) v5)] [(.int v6), (.int (0 : Int32)), (.int (own_expect (0 : Int32) v6 (3 : Int32) v5 v1 p1 v2 p2 v3 p3))])) _
      refine XS.iload X145.here hx rfl (hb hby at_175) rfl ?_
      show Steps p.tables e below (T145.setTop (mkF m 177 #[vI p0, vI p1, vI p2, vI p3, vJ q4, .second, vJ q5, .second, vI v1, vI v2, vI v3, vI (3 : Int32), vI v5, vI v6, vI v7, vI v8, vI v9, vR b11, vR b30, vI (own_min (3 : Int32) v5)] [(.int (3 : Int32)), (.int v6), (.int (0 : Int32)), (.int (own_expect (0 : Int32) v6 (3 : Int32) v5 v1 p1 v2 p2 v3 p3))])) _
      refine XS.iload X145.here hx rfl (hb hby at_177) rfl ?_
      show Steps p.tables e below (T145.setTop (mkF m 179 #[vI p0, vI p1, vI p2, vI p3, vJ q4, .second, vJ q5, .second, vI v1, vI v2, vI v3, vI (3 : Int32), vI v5, vI v6, vI v7, vI v8, vI v9, vR b11, vR b30, vI (own_min (3 : Int32) v5)] [(.int v5), (.int (3 : Int32)), (.int v6), (.int (0 : Int32)), (.int (own_expect (0 : Int32) v6 (3 : Int32) v5 v1 p1 v2 p2 v3 p3))])) _
      refine XS.iload X145.here hx rfl (hb hby at_179) rfl ?_
      show Steps p.tables e below (T145.setTop (mkF m 181 #[vI p0, vI p1, vI p2, vI p3, vJ q4, .second, vJ q5, .second, vI v1, vI v2, vI v3, vI (3 : Int32), vI v5, vI v6, vI v7, vI v8, vI v9, vR b11, vR b30, vI (own_min (3 : Int32) v5)] [(.int v1), (.int v5), (.int (3 : Int32)), (.int v6), (.int (0 : Int32)), (.int (own_expect (0 : Int32) v6 (3 : Int32) v5 v1 p1 v2 p2 v3 p3))])) _
      refine XS.iloadN X145.here hx rfl (hb hby at_181) rfl ?_
      show Steps p.tables e below (T145.setTop (mkF m 182 #[vI p0, vI p1, vI p2, vI p3, vJ q4, .second, vJ q5, .second, vI v1, vI v2, vI v3, vI (3 : Int32), vI v5, vI v6, vI v7, vI v8, vI v9, vR b11, vR b30, vI (own_min (3 : Int32) v5)] [(.int p1), (.int v1), (.int v5), (.int (3 : Int32)), (.int v6), (.int (0 : Int32)), (.int (own_expect (0 : Int32) v6 (3 : Int32) v5 v1 p1 v2 p2 v3 p3))])) _
      refine XS.iload X145.here hx rfl (hb hby at_182) rfl ?_
      show Steps p.tables e below (T145.setTop (mkF m 184 #[vI p0, vI p1, vI p2, vI p3, vJ q4, .second, vJ q5, .second, vI v1, vI v2, vI v3, vI (3 : Int32), vI v5, vI v6, vI v7, vI v8, vI v9, vR b11, vR b30, vI (own_min (3 : Int32) v5)] [(.int v2), (.int p1), (.int v1), (.int v5), (.int (3 : Int32)), (.int v6), (.int (0 : Int32)), (.int (own_expect (0 : Int32) v6 (3 : Int32) v5 v1 p1 v2 p2 v3 p3))])) _
      refine XS.iloadN X145.here hx rfl (hb hby at_184) rfl ?_
      show Steps p.tables e below (T145.setTop (mkF m 185 #[vI p0, vI p1, vI p2, vI p3, vJ q4, .second, vJ q5, .second, vI v1, vI v2, vI v3, vI (3 : Int32), vI v5, vI v6, vI v7, vI v8, vI v9, vR b11, vR b30, vI (own_min (3 : Int32) v5)] [(.int p2), (.int v2), (.int p1), (.int v1), (.int v5), (.int (3 : Int32)), (.int v6), (.int (0 : Int32)), (.int (own_expect (0 : Int32) v6 (3 : Int32) v5 v1 p1 v2 p2 v3 p3))])) _
      refine XS.iload X145.here hx rfl (hb hby at_185) rfl ?_
      show Steps p.tables e below (T145.setTop (mkF m 187 #[vI p0, vI p1, vI p2, vI p3, vJ q4, .second, vJ q5, .second, vI v1, vI v2, vI v3, vI (3 : Int32), vI v5, vI v6, vI v7, vI v8, vI v9, vR b11, vR b30, vI (own_min (3 : Int32) v5)] [(.int v3), (.int p2), (.int v2), (.int p1), (.int v1), (.int v5), (.int (3 : Int32)), (.int v6), (.int (0 : Int32)), (.int (own_expect (0 : Int32) v6 (3 : Int32) v5 v1 p1 v2 p2 v3 p3))])) _
      refine XS.iloadN X145.here hx rfl (hb hby at_187) rfl ?_
      show Steps p.tables e below (T145.setTop (mkF m 188 #[vI p0, vI p1, vI p2, vI p3, vJ q4, .second, vJ q5, .second, vI v1, vI v2, vI v3, vI (3 : Int32), vI v5, vI v6, vI v7, vI v8, vI v9, vR b11, vR b30, vI (own_min (3 : Int32) v5)] [(.int p3), (.int v3), (.int p2), (.int v2), (.int p1), (.int v1), (.int v5), (.int (3 : Int32)), (.int v6), (.int (0 : Int32)), (.int (own_expect (0 : Int32) v6 (3 : Int32) v5 v1 p1 v2 p2 v3 p3))])) _
      exact k)
    obtain ⟨_, _, ⟨T149, qL149, qk149, qn149⟩, -, X149, ⟨Lc149, hQ149, ql149, qy149, qz149⟩, st149⟩ := Jvm.LawKit.callS X145 hx (y := (⟨"com/example/motiflow/motiflow/UndoLogTakeBackPinLaw", "expect", "(IIIIIIIIII)I"⟩ : MethodName)) hown (mvT hZ (hw _ (List.mem_of_getElem? (i := 30) rfl))) (mvT hZ (hw _ (List.mem_of_getElem? (i := 31) rfl))) (mvT hZ (hw _ (List.mem_of_getElem? (i := 32) rfl))) (mvT hZ (hw _ (List.mem_of_getElem? (i := 33) rfl))) (by decide) (backOf (W := 1) (rm6 l Z A0 hw [] (0 : Int32) v6 (3 : Int32) v5 v1 p1 v2 p2 v3 p3 T139.heap n0 zz141) hZ (hw _ (List.mem_of_getElem? (i := 33) rfl)) (hw _ (List.mem_of_getElem? (i := 32) rfl)) (by decide) (by decide)) (g := (mkF m 188 #[vI p0, vI p1, vI p2, vI p3, vJ q4, .second, vJ q5, .second, vI v1, vI v2, vI v3, vI (3 : Int32), vI v5, vI v6, vI v7, vI v8, vI v9, vR b11, vR b30, vI (own_min (3 : Int32) v5)] [(.int p3), (.int v3), (.int p2), (.int v2), (.int p1), (.int v1), (.int v5), (.int (3 : Int32)), (.int v6), (.int (0 : Int32)), (.int (own_expect (0 : Int32) v6 (3 : Int32) v5 v1 p1 v2 p2 v3 p3))])) rfl (by rw [hml]; rfl) (argsL := [(.int (0 : Int32)), (.int v6), (.int (3 : Int32)), (.int v5), (.int v1), (.int p1), (.int v2), (.int p2), (.int v3), (.int p3)]) (rest := [(.int (own_expect (0 : Int32) v6 (3 : Int32) v5 v1 p1 v2 p2 v3 p3))]) (lenOf pd_5 rfl) rfl (by show 2 * 0 + _ ≤ _; exact Nat.le_of_eq rfl) (hb hby at_188) (fun _ _ => ⟨rfl, eq145, (by decide : 4 + 0 ≤ _), (by decide : 39 + 0 ≤ _)⟩)
    dsimp only [Pt.U, Pt.locs, Pt.cells, Pt.slots] at X149 ql149 qy149 qz149 st149 hQ149
    subst ql149 qy149 qz149
    obtain ⟨rfl, Nq149, eq149⟩ := hQ149
    have N149 := Fr.app N145 Nq149
    have pre149 : Go p.tables e below S0 T149 (mkF m 191 #[vI p0, vI p1, vI p2, vI p3, vJ q4, .second, vJ q5, .second, vI v1, vI v2, vI v3, vI (3 : Int32), vI v5, vI v6, vI v7, vI v8, vI v9, vR b11, vR b30, vI (own_min (3 : Int32) v5)] [(.int (own_expect (0 : Int32) v6 (3 : Int32) v5 v1 p1 v2 p2 v3 p3)), (.int (own_expect (0 : Int32) v6 (3 : Int32) v5 v1 p1 v2 p2 v3 p3))]) := fun t k => pre148 t (st149 t k)
    have pre150 : Go p.tables e below S0 T149 (mkF m 197 #[vI p0, vI p1, vI p2, vI p3, vJ q4, .second, vJ q5, .second, vI v1, vI v2, vI v3, vI (3 : Int32), vI v5, vI v6, vI v7, vI v8, vI v9, vR b11, vR b30, vI (own_min (3 : Int32) v5)] [(.int (1 : Int32)), (.ref b11)]) := fun t k => pre149 t (by
      refine XS.icmpNo X149.here hx rfl (hb hby at_191) rfl (teq (rfl : (own_expect (0 : Int32) v6 (3 : Int32) v5 v1 p1 v2 p2 v3 p3) = (own_expect (0 : Int32) v6 (3 : Int32) v5 v1 p1 v2 p2 v3 p3))).2 ?_
      show Steps p.tables e below (T149.setTop (mkF m 194 #[vI p0, vI p1, vI p2, vI p3, vJ q4, .second, vJ q5, .second, vI v1, vI v2, vI v3, vI (3 : Int32), vI v5, vI v6, vI v7, vI v8, vI v9, vR b11, vR b30, vI (own_min (3 : Int32) v5)] [])) _
      refine XS.aload X149.here hx rfl (hb hby at_194) rfl rfl ?_
      show Steps p.tables e below (T149.setTop (mkF m 196 #[vI p0, vI p1, vI p2, vI p3, vJ q4, .second, vJ q5, .second, vI v1, vI v2, vI v3, vI (3 : Int32), vI v5, vI v6, vI v7, vI v8, vI v9, vR b11, vR b30, vI (own_min (3 : Int32) v5)] [(.ref b11)])) _
      refine XS.iconst X149.here hx rfl (hb hby at_196) ?_
      show Steps p.tables e below (T149.setTop (mkF m 197 #[vI p0, vI p1, vI p2, vI p3, vJ q4, .second, vJ q5, .second, vI v1, vI v2, vI v3, vI (3 : Int32), vI v5, vI v6, vI v7, vI v8, vI v9, vR b11, vR b30, vI (own_min (3 : Int32) v5)] [(.int (1 : Int32)), (.ref b11)])) _
      exact k)
    obtain ⟨cl151, Ar151, q151, S151, M151, H151, G151⟩ := id nf139_4
    have in151 : ¬ ((1 : Int32) < 0 ∨ cl151.slots.size ≤ ((1 : Int32)).toNatClampNeg) := inb_of S151 ⟨by decide, by decide⟩
    have at151 : cl151.slots[((1 : Int32)).toNatClampNeg]? = some (.int (own_expect (1 : Int32) v7 (3 : Int32) v5 v1 p1 v2 p2 v3 p3)) := H151.at in151 rfl
    have pre152 : Go p.tables e below S0 T149 (mkF m 214 #[vI p0, vI p1, vI p2, vI p3, vJ q4, .second, vJ q5, .second, vI v1, vI v2, vI v3, vI (3 : Int32), vI v5, vI v6, vI v7, vI v8, vI v9, vR b11, vR b30, vI (own_min (3 : Int32) v5)] [(.int p3), (.int v3), (.int p2), (.int v2), (.int p1), (.int v1), (.int v5), (.int (3 : Int32)), (.int v7), (.int (1 : Int32)), (.int (own_expect (1 : Int32) v7 (3 : Int32) v5 v1 p1 v2 p2 v3 p3))]) := fun t k => pre150 t (by
      refine X149.iaload hx (j := (1 : Int32)) (v := (.int (own_expect (1 : Int32) v7 (3 : Int32) v5 v1 p1 v2 p2 v3 p3))) (by rw [eq149]; exact Ar151.1) (State.isArrayOf_alike hZ.alike Ar151.2.1) Ar151.2.2 in151 at151 (g := (mkF m 197 #[vI p0, vI p1, vI p2, vI p3, vJ q4, .second, vJ q5, .second, vI v1, vI v2, vI v3, vI (3 : Int32), vI v5, vI v6, vI v7, vI v8, vI v9, vR b11, vR b30, vI (own_min (3 : Int32) v5)] [(.int (1 : Int32)), (.ref b11)])) rfl rfl (hb hby at_197) _ ?_
      show Steps p.tables e below (T149.setTop (mkF m 198 #[vI p0, vI p1, vI p2, vI p3, vJ q4, .second, vJ q5, .second, vI v1, vI v2, vI v3, vI (3 : Int32), vI v5, vI v6, vI v7, vI v8, vI v9, vR b11, vR b30, vI (own_min (3 : Int32) v5)] [(.int (own_expect (1 : Int32) v7 (3 : Int32) v5 v1 p1 v2 p2 v3 p3))])) _
      refine XS.iconst X149.here hx rfl (hb hby at_198) ?_
      show Steps p.tables e below (T149.setTop (mkF m 199 #[vI p0, vI p1, vI p2, vI p3, vJ q4, .second, vJ q5, .second, vI v1, vI v2, vI v3, vI (3 : Int32), vI v5, vI v6, vI v7, vI v8, vI v9, vR b11, vR b30, vI (own_min (3 : Int32) v5)] [(.int (1 : Int32)), (.int (own_expect (1 : Int32) v7 (3 : Int32) v5 v1 p1 v2 p2 v3 p3))])) _
      refine XS.iload X149.here hx rfl (hb hby at_199) rfl ?_
      show Steps p.tables e below (T149.setTop (mkF m 201 #[vI p0, vI p1, vI p2, vI p3, vJ q4, .second, vJ q5, .second, vI v1, vI v2, vI v3, vI (3 : Int32), vI v5, vI v6, vI v7, vI v8, vI v9, vR b11, vR b30, vI (own_min (3 : Int32) v5)] [(.int v7), (.int (1 : Int32)), (.int (own_expect (1 : Int32) v7 (3 : Int32) v5 v1 p1 v2 p2 v3 p3))])) _
      refine XS.iload X149.here hx rfl (hb hby at_201) rfl ?_
      show Steps p.tables e below (T149.setTop (mkF m 203 #[vI p0, vI p1, vI p2, vI p3, vJ q4, .second, vJ q5, .second, vI v1, vI v2, vI v3, vI (3 : Int32), vI v5, vI v6, vI v7, vI v8, vI v9, vR b11, vR b30, vI (own_min (3 : Int32) v5)] [(.int (3 : Int32)), (.int v7), (.int (1 : Int32)), (.int (own_expect (1 : Int32) v7 (3 : Int32) v5 v1 p1 v2 p2 v3 p3))])) _
      refine XS.iload X149.here hx rfl (hb hby at_203) rfl ?_
      show Steps p.tables e below (T149.setTop (mkF m 205 #[vI p0, vI p1, vI p2, vI p3, vJ q4, .second, vJ q5, .second, vI v1, vI v2, vI v3, vI (3 : Int32), vI v5, vI v6, vI v7, vI v8, vI v9, vR b11, vR b30, vI (own_min (3 : Int32) v5)] [(.int v5), (.int (3 : Int32)), (.int v7), (.int (1 : Int32)), (.int (own_expect (1 : Int32) v7 (3 : Int32) v5 v1 p1 v2 p2 v3 p3))])) _
      refine XS.iload X149.here hx rfl (hb hby at_205) rfl ?_
      show Steps p.tables e below (T149.setTop (mkF m 207 #[vI p0, vI p1, vI p2, vI p3, vJ q4, .second, vJ q5, .second, vI v1, vI v2, vI v3, vI (3 : Int32), vI v5, vI v6, vI v7, vI v8, vI v9, vR b11, vR b30, vI (own_min (3 : Int32) v5)] [(.int v1), (.int v5), (.int (3 : Int32)), (.int v7), (.int (1 : Int32)), (.int (own_expect (1 : Int32) v7 (3 : Int32) v5 v1 p1 v2 p2 v3 p3))])) _
      refine XS.iloadN X149.here hx rfl (hb hby at_207) rfl ?_
      show Steps p.tables e below (T149.setTop (mkF m 208 #[vI p0, vI p1, vI p2, vI p3, vJ q4, .second, vJ q5, .second, vI v1, vI v2, vI v3, vI (3 : Int32), vI v5, vI v6, vI v7, vI v8, vI v9, vR b11, vR b30, vI (own_min (3 : Int32) v5)] [(.int p1), (.int v1), (.int v5), (.int (3 : Int32)), (.int v7), (.int (1 : Int32)), (.int (own_expect (1 : Int32) v7 (3 : Int32) v5 v1 p1 v2 p2 v3 p3))])) _
      refine XS.iload X149.here hx rfl (hb hby at_208) rfl ?_
      show Steps p.tables e below (T149.setTop (mkF m 210 #[vI p0, vI p1, vI p2, vI p3, vJ q4, .second, vJ q5, .second, vI v1, vI v2, vI v3, vI (3 : Int32), vI v5, vI v6, vI v7, vI v8, vI v9, vR b11, vR b30, vI (own_min (3 : Int32) v5)] [(.int v2), (.int p1), (.int v1), (.int v5), (.int (3 : Int32)), (.int v7), (.int (1 : Int32)), (.int (own_expect (1 : Int32) v7 (3 : Int32) v5 v1 p1 v2 p2 v3 p3))])) _
      refine XS.iloadN X149.here hx rfl (hb hby at_210) rfl ?_
      show Steps p.tables e below (T149.setTop (mkF m 211 #[vI p0, vI p1, vI p2, vI p3, vJ q4, .second, vJ q5, .second, vI v1, vI v2, vI v3, vI (3 : Int32), vI v5, vI v6, vI v7, vI v8, vI v9, vR b11, vR b30, vI (own_min (3 : Int32) v5)] [(.int p2), (.int v2), (.int p1), (.int v1), (.int v5), (.int (3 : Int32)), (.int v7), (.int (1 : Int32)), (.int (own_expect (1 : Int32) v7 (3 : Int32) v5 v1 p1 v2 p2 v3 p3))])) _
      refine XS.iload X149.here hx rfl (hb hby at_211) rfl ?_
      show Steps p.tables e below (T149.setTop (mkF m 213 #[vI p0, vI p1, vI p2, vI p3, vJ q4, .second, vJ q5, .second, vI v1, vI v2, vI v3, vI (3 : Int32), vI v5, vI v6, vI v7, vI v8, vI v9, vR b11, vR b30, vI (own_min (3 : Int32) v5)] [(.int v3), (.int p2), (.int v2), (.int p1), (.int v1), (.int v5), (.int (3 : Int32)), (.int v7), (.int (1 : Int32)), (.int (own_expect (1 : Int32) v7 (3 : Int32) v5 v1 p1 v2 p2 v3 p3))])) _
      refine XS.iloadN X149.here hx rfl (hb hby at_213) rfl ?_
      show Steps p.tables e below (T149.setTop (mkF m 214 #[vI p0, vI p1, vI p2, vI p3, vJ q4, .second, vJ q5, .second, vI v1, vI v2, vI v3, vI (3 : Int32), vI v5, vI v6, vI v7, vI v8, vI v9, vR b11, vR b30, vI (own_min (3 : Int32) v5)] [(.int p3), (.int v3), (.int p2), (.int v2), (.int p1), (.int v1), (.int v5), (.int (3 : Int32)), (.int v7), (.int (1 : Int32)), (.int (own_expect (1 : Int32) v7 (3 : Int32) v5 v1 p1 v2 p2 v3 p3))])) _
      exact k)
    obtain ⟨_, _, ⟨T153, qL153, qk153, qn153⟩, -, X153, ⟨Lc153, hQ153, ql153, qy153, qz153⟩, st153⟩ := Jvm.LawKit.callS X149 hx (y := (⟨"com/example/motiflow/motiflow/UndoLogTakeBackPinLaw", "expect", "(IIIIIIIIII)I"⟩ : MethodName)) hown (mvT hZ (hw _ (List.mem_of_getElem? (i := 30) rfl))) (mvT hZ (hw _ (List.mem_of_getElem? (i := 31) rfl))) (mvT hZ (hw _ (List.mem_of_getElem? (i := 32) rfl))) (mvT hZ (hw _ (List.mem_of_getElem? (i := 33) rfl))) (by decide) (backOf (W := 1) (rm6 l Z A0 hw [] (1 : Int32) v7 (3 : Int32) v5 v1 p1 v2 p2 v3 p3 T139.heap n0 zz141) hZ (hw _ (List.mem_of_getElem? (i := 33) rfl)) (hw _ (List.mem_of_getElem? (i := 32) rfl)) (by decide) (by decide)) (g := (mkF m 214 #[vI p0, vI p1, vI p2, vI p3, vJ q4, .second, vJ q5, .second, vI v1, vI v2, vI v3, vI (3 : Int32), vI v5, vI v6, vI v7, vI v8, vI v9, vR b11, vR b30, vI (own_min (3 : Int32) v5)] [(.int p3), (.int v3), (.int p2), (.int v2), (.int p1), (.int v1), (.int v5), (.int (3 : Int32)), (.int v7), (.int (1 : Int32)), (.int (own_expect (1 : Int32) v7 (3 : Int32) v5 v1 p1 v2 p2 v3 p3))])) rfl (by rw [hml]; rfl) (argsL := [(.int (1 : Int32)), (.int v7), (.int (3 : Int32)), (.int v5), (.int v1), (.int p1), (.int v2), (.int p2), (.int v3), (.int p3)]) (rest := [(.int (own_expect (1 : Int32) v7 (3 : Int32) v5 v1 p1 v2 p2 v3 p3))]) (lenOf pd_5 rfl) rfl (by show 2 * 0 + _ ≤ _; exact Nat.le_of_eq rfl) (hb hby at_214) (fun _ _ => ⟨rfl, eq149, (by decide : 4 + 0 ≤ _), (by decide : 39 + 0 ≤ _)⟩)
    dsimp only [Pt.U, Pt.locs, Pt.cells, Pt.slots] at X153 ql153 qy153 qz153 st153 hQ153
    subst ql153 qy153 qz153
    obtain ⟨rfl, Nq153, eq153⟩ := hQ153
    have N153 := Fr.app N149 Nq153
    have pre153 : Go p.tables e below S0 T153 (mkF m 217 #[vI p0, vI p1, vI p2, vI p3, vJ q4, .second, vJ q5, .second, vI v1, vI v2, vI v3, vI (3 : Int32), vI v5, vI v6, vI v7, vI v8, vI v9, vR b11, vR b30, vI (own_min (3 : Int32) v5)] [(.int (own_expect (1 : Int32) v7 (3 : Int32) v5 v1 p1 v2 p2 v3 p3)), (.int (own_expect (1 : Int32) v7 (3 : Int32) v5 v1 p1 v2 p2 v3 p3))]) := fun t k => pre152 t (st153 t k)
    have pre154 : Go p.tables e below S0 T153 (mkF m 223 #[vI p0, vI p1, vI p2, vI p3, vJ q4, .second, vJ q5, .second, vI v1, vI v2, vI v3, vI (3 : Int32), vI v5, vI v6, vI v7, vI v8, vI v9, vR b11, vR b30, vI (own_min (3 : Int32) v5)] [(.int (2 : Int32)), (.ref b11)]) := fun t k => pre153 t (by
      refine XS.icmpNo X153.here hx rfl (hb hby at_217) rfl (teq (rfl : (own_expect (1 : Int32) v7 (3 : Int32) v5 v1 p1 v2 p2 v3 p3) = (own_expect (1 : Int32) v7 (3 : Int32) v5 v1 p1 v2 p2 v3 p3))).2 ?_
      show Steps p.tables e below (T153.setTop (mkF m 220 #[vI p0, vI p1, vI p2, vI p3, vJ q4, .second, vJ q5, .second, vI v1, vI v2, vI v3, vI (3 : Int32), vI v5, vI v6, vI v7, vI v8, vI v9, vR b11, vR b30, vI (own_min (3 : Int32) v5)] [])) _
      refine XS.aload X153.here hx rfl (hb hby at_220) rfl rfl ?_
      show Steps p.tables e below (T153.setTop (mkF m 222 #[vI p0, vI p1, vI p2, vI p3, vJ q4, .second, vJ q5, .second, vI v1, vI v2, vI v3, vI (3 : Int32), vI v5, vI v6, vI v7, vI v8, vI v9, vR b11, vR b30, vI (own_min (3 : Int32) v5)] [(.ref b11)])) _
      refine XS.iconst X153.here hx rfl (hb hby at_222) ?_
      show Steps p.tables e below (T153.setTop (mkF m 223 #[vI p0, vI p1, vI p2, vI p3, vJ q4, .second, vJ q5, .second, vI v1, vI v2, vI v3, vI (3 : Int32), vI v5, vI v6, vI v7, vI v8, vI v9, vR b11, vR b30, vI (own_min (3 : Int32) v5)] [(.int (2 : Int32)), (.ref b11)])) _
      exact k)
    obtain ⟨cl155, Ar155, q155, S155, M155, H155, G155⟩ := id nf139_4
    have in155 : ¬ ((2 : Int32) < 0 ∨ cl155.slots.size ≤ ((2 : Int32)).toNatClampNeg) := inb_of S155 ⟨by decide, by decide⟩
    have at155 : cl155.slots[((2 : Int32)).toNatClampNeg]? = some (.int (own_expect (2 : Int32) v8 (3 : Int32) v5 v1 p1 v2 p2 v3 p3)) := H155.at in155 rfl
    have pre156 : Go p.tables e below S0 T153 (mkF m 240 #[vI p0, vI p1, vI p2, vI p3, vJ q4, .second, vJ q5, .second, vI v1, vI v2, vI v3, vI (3 : Int32), vI v5, vI v6, vI v7, vI v8, vI v9, vR b11, vR b30, vI (own_min (3 : Int32) v5)] [(.int p3), (.int v3), (.int p2), (.int v2), (.int p1), (.int v1), (.int v5), (.int (3 : Int32)), (.int v8), (.int (2 : Int32)), (.int (own_expect (2 : Int32) v8 (3 : Int32) v5 v1 p1 v2 p2 v3 p3))]) := fun t k => pre154 t (by
      refine X153.iaload hx (j := (2 : Int32)) (v := (.int (own_expect (2 : Int32) v8 (3 : Int32) v5 v1 p1 v2 p2 v3 p3))) (by rw [eq153]; exact Ar155.1) (State.isArrayOf_alike hZ.alike Ar155.2.1) Ar155.2.2 in155 at155 (g := (mkF m 223 #[vI p0, vI p1, vI p2, vI p3, vJ q4, .second, vJ q5, .second, vI v1, vI v2, vI v3, vI (3 : Int32), vI v5, vI v6, vI v7, vI v8, vI v9, vR b11, vR b30, vI (own_min (3 : Int32) v5)] [(.int (2 : Int32)), (.ref b11)])) rfl rfl (hb hby at_223) _ ?_
      show Steps p.tables e below (T153.setTop (mkF m 224 #[vI p0, vI p1, vI p2, vI p3, vJ q4, .second, vJ q5, .second, vI v1, vI v2, vI v3, vI (3 : Int32), vI v5, vI v6, vI v7, vI v8, vI v9, vR b11, vR b30, vI (own_min (3 : Int32) v5)] [(.int (own_expect (2 : Int32) v8 (3 : Int32) v5 v1 p1 v2 p2 v3 p3))])) _
      refine XS.iconst X153.here hx rfl (hb hby at_224) ?_
      show Steps p.tables e below (T153.setTop (mkF m 225 #[vI p0, vI p1, vI p2, vI p3, vJ q4, .second, vJ q5, .second, vI v1, vI v2, vI v3, vI (3 : Int32), vI v5, vI v6, vI v7, vI v8, vI v9, vR b11, vR b30, vI (own_min (3 : Int32) v5)] [(.int (2 : Int32)), (.int (own_expect (2 : Int32) v8 (3 : Int32) v5 v1 p1 v2 p2 v3 p3))])) _
      refine XS.iload X153.here hx rfl (hb hby at_225) rfl ?_
      show Steps p.tables e below (T153.setTop (mkF m 227 #[vI p0, vI p1, vI p2, vI p3, vJ q4, .second, vJ q5, .second, vI v1, vI v2, vI v3, vI (3 : Int32), vI v5, vI v6, vI v7, vI v8, vI v9, vR b11, vR b30, vI (own_min (3 : Int32) v5)] [(.int v8), (.int (2 : Int32)), (.int (own_expect (2 : Int32) v8 (3 : Int32) v5 v1 p1 v2 p2 v3 p3))])) _
      refine XS.iload X153.here hx rfl (hb hby at_227) rfl ?_
      show Steps p.tables e below (T153.setTop (mkF m 229 #[vI p0, vI p1, vI p2, vI p3, vJ q4, .second, vJ q5, .second, vI v1, vI v2, vI v3, vI (3 : Int32), vI v5, vI v6, vI v7, vI v8, vI v9, vR b11, vR b30, vI (own_min (3 : Int32) v5)] [(.int (3 : Int32)), (.int v8), (.int (2 : Int32)), (.int (own_expect (2 : Int32) v8 (3 : Int32) v5 v1 p1 v2 p2 v3 p3))])) _
      refine XS.iload X153.here hx rfl (hb hby at_229) rfl ?_
      show Steps p.tables e below (T153.setTop (mkF m 231 #[vI p0, vI p1, vI p2, vI p3, vJ q4, .second, vJ q5, .second, vI v1, vI v2, vI v3, vI (3 : Int32), vI v5, vI v6, vI v7, vI v8, vI v9, vR b11, vR b30, vI (own_min (3 : Int32) v5)] [(.int v5), (.int (3 : Int32)), (.int v8), (.int (2 : Int32)), (.int (own_expect (2 : Int32) v8 (3 : Int32) v5 v1 p1 v2 p2 v3 p3))])) _
      refine XS.iload X153.here hx rfl (hb hby at_231) rfl ?_
      show Steps p.tables e below (T153.setTop (mkF m 233 #[vI p0, vI p1, vI p2, vI p3, vJ q4, .second, vJ q5, .second, vI v1, vI v2, vI v3, vI (3 : Int32), vI v5, vI v6, vI v7, vI v8, vI v9, vR b11, vR b30, vI (own_min (3 : Int32) v5)] [(.int v1), (.int v5), (.int (3 : Int32)), (.int v8), (.int (2 : Int32)), (.int (own_expect (2 : Int32) v8 (3 : Int32) v5 v1 p1 v2 p2 v3 p3))])) _
      refine XS.iloadN X153.here hx rfl (hb hby at_233) rfl ?_
      show Steps p.tables e below (T153.setTop (mkF m 234 #[vI p0, vI p1, vI p2, vI p3, vJ q4, .second, vJ q5, .second, vI v1, vI v2, vI v3, vI (3 : Int32), vI v5, vI v6, vI v7, vI v8, vI v9, vR b11, vR b30, vI (own_min (3 : Int32) v5)] [(.int p1), (.int v1), (.int v5), (.int (3 : Int32)), (.int v8), (.int (2 : Int32)), (.int (own_expect (2 : Int32) v8 (3 : Int32) v5 v1 p1 v2 p2 v3 p3))])) _
      refine XS.iload X153.here hx rfl (hb hby at_234) rfl ?_
      show Steps p.tables e below (T153.setTop (mkF m 236 #[vI p0, vI p1, vI p2, vI p3, vJ q4, .second, vJ q5, .second, vI v1, vI v2, vI v3, vI (3 : Int32), vI v5, vI v6, vI v7, vI v8, vI v9, vR b11, vR b30, vI (own_min (3 : Int32) v5)] [(.int v2), (.int p1), (.int v1), (.int v5), (.int (3 : Int32)), (.int v8), (.int (2 : Int32)), (.int (own_expect (2 : Int32) v8 (3 : Int32) v5 v1 p1 v2 p2 v3 p3))])) _
      refine XS.iloadN X153.here hx rfl (hb hby at_236) rfl ?_
      show Steps p.tables e below (T153.setTop (mkF m 237 #[vI p0, vI p1, vI p2, vI p3, vJ q4, .second, vJ q5, .second, vI v1, vI v2, vI v3, vI (3 : Int32), vI v5, vI v6, vI v7, vI v8, vI v9, vR b11, vR b30, vI (own_min (3 : Int32) v5)] [(.int p2), (.int v2), (.int p1), (.int v1), (.int v5), (.int (3 : Int32)), (.int v8), (.int (2 : Int32)), (.int (own_expect (2 : Int32) v8 (3 : Int32) v5 v1 p1 v2 p2 v3 p3))])) _
      refine XS.iload X153.here hx rfl (hb hby at_237) rfl ?_
      show Steps p.tables e below (T153.setTop (mkF m 239 #[vI p0, vI p1, vI p2, vI p3, vJ q4, .second, vJ q5, .second, vI v1, vI v2, vI v3, vI (3 : Int32), vI v5, vI v6, vI v7, vI v8, vI v9, vR b11, vR b30, vI (own_min (3 : Int32) v5)] [(.int v3), (.int p2), (.int v2), (.int p1), (.int v1), (.int v5), (.int (3 : Int32)), (.int v8), (.int (2 : Int32)), (.int (own_expect (2 : Int32) v8 (3 : Int32) v5 v1 p1 v2 p2 v3 p3))])) _
      refine XS.iloadN X153.here hx rfl (hb hby at_239) rfl ?_
      show Steps p.tables e below (T153.setTop (mkF m 240 #[vI p0, vI p1, vI p2, vI p3, vJ q4, .second, vJ q5, .second, vI v1, vI v2, vI v3, vI (3 : Int32), vI v5, vI v6, vI v7, vI v8, vI v9, vR b11, vR b30, vI (own_min (3 : Int32) v5)] [(.int p3), (.int v3), (.int p2), (.int v2), (.int p1), (.int v1), (.int v5), (.int (3 : Int32)), (.int v8), (.int (2 : Int32)), (.int (own_expect (2 : Int32) v8 (3 : Int32) v5 v1 p1 v2 p2 v3 p3))])) _
      exact k)
    obtain ⟨_, _, ⟨T157, qL157, qk157, qn157⟩, -, X157, ⟨Lc157, hQ157, ql157, qy157, qz157⟩, st157⟩ := Jvm.LawKit.callS X153 hx (y := (⟨"com/example/motiflow/motiflow/UndoLogTakeBackPinLaw", "expect", "(IIIIIIIIII)I"⟩ : MethodName)) hown (mvT hZ (hw _ (List.mem_of_getElem? (i := 30) rfl))) (mvT hZ (hw _ (List.mem_of_getElem? (i := 31) rfl))) (mvT hZ (hw _ (List.mem_of_getElem? (i := 32) rfl))) (mvT hZ (hw _ (List.mem_of_getElem? (i := 33) rfl))) (by decide) (backOf (W := 1) (rm6 l Z A0 hw [] (2 : Int32) v8 (3 : Int32) v5 v1 p1 v2 p2 v3 p3 T139.heap n0 zz141) hZ (hw _ (List.mem_of_getElem? (i := 33) rfl)) (hw _ (List.mem_of_getElem? (i := 32) rfl)) (by decide) (by decide)) (g := (mkF m 240 #[vI p0, vI p1, vI p2, vI p3, vJ q4, .second, vJ q5, .second, vI v1, vI v2, vI v3, vI (3 : Int32), vI v5, vI v6, vI v7, vI v8, vI v9, vR b11, vR b30, vI (own_min (3 : Int32) v5)] [(.int p3), (.int v3), (.int p2), (.int v2), (.int p1), (.int v1), (.int v5), (.int (3 : Int32)), (.int v8), (.int (2 : Int32)), (.int (own_expect (2 : Int32) v8 (3 : Int32) v5 v1 p1 v2 p2 v3 p3))])) rfl (by rw [hml]; rfl) (argsL := [(.int (2 : Int32)), (.int v8), (.int (3 : Int32)), (.int v5), (.int v1), (.int p1), (.int v2), (.int p2), (.int v3), (.int p3)]) (rest := [(.int (own_expect (2 : Int32) v8 (3 : Int32) v5 v1 p1 v2 p2 v3 p3))]) (lenOf pd_5 rfl) rfl (by show 2 * 0 + _ ≤ _; exact Nat.le_of_eq rfl) (hb hby at_240) (fun _ _ => ⟨rfl, eq153, (by decide : 4 + 0 ≤ _), (by decide : 39 + 0 ≤ _)⟩)
    dsimp only [Pt.U, Pt.locs, Pt.cells, Pt.slots] at X157 ql157 qy157 qz157 st157 hQ157
    subst ql157 qy157 qz157
    obtain ⟨rfl, Nq157, eq157⟩ := hQ157
    have N157 := Fr.app N153 Nq157
    have pre157 : Go p.tables e below S0 T157 (mkF m 243 #[vI p0, vI p1, vI p2, vI p3, vJ q4, .second, vJ q5, .second, vI v1, vI v2, vI v3, vI (3 : Int32), vI v5, vI v6, vI v7, vI v8, vI v9, vR b11, vR b30, vI (own_min (3 : Int32) v5)] [(.int (own_expect (2 : Int32) v8 (3 : Int32) v5 v1 p1 v2 p2 v3 p3)), (.int (own_expect (2 : Int32) v8 (3 : Int32) v5 v1 p1 v2 p2 v3 p3))]) := fun t k => pre156 t (st157 t k)
    have pre158 : Go p.tables e below S0 T157 (mkF m 249 #[vI p0, vI p1, vI p2, vI p3, vJ q4, .second, vJ q5, .second, vI v1, vI v2, vI v3, vI (3 : Int32), vI v5, vI v6, vI v7, vI v8, vI v9, vR b11, vR b30, vI (own_min (3 : Int32) v5)] [(.int (3 : Int32)), (.ref b11)]) := fun t k => pre157 t (by
      refine XS.icmpNo X157.here hx rfl (hb hby at_243) rfl (teq (rfl : (own_expect (2 : Int32) v8 (3 : Int32) v5 v1 p1 v2 p2 v3 p3) = (own_expect (2 : Int32) v8 (3 : Int32) v5 v1 p1 v2 p2 v3 p3))).2 ?_
      show Steps p.tables e below (T157.setTop (mkF m 246 #[vI p0, vI p1, vI p2, vI p3, vJ q4, .second, vJ q5, .second, vI v1, vI v2, vI v3, vI (3 : Int32), vI v5, vI v6, vI v7, vI v8, vI v9, vR b11, vR b30, vI (own_min (3 : Int32) v5)] [])) _
      refine XS.aload X157.here hx rfl (hb hby at_246) rfl rfl ?_
      show Steps p.tables e below (T157.setTop (mkF m 248 #[vI p0, vI p1, vI p2, vI p3, vJ q4, .second, vJ q5, .second, vI v1, vI v2, vI v3, vI (3 : Int32), vI v5, vI v6, vI v7, vI v8, vI v9, vR b11, vR b30, vI (own_min (3 : Int32) v5)] [(.ref b11)])) _
      refine XS.iconst X157.here hx rfl (hb hby at_248) ?_
      show Steps p.tables e below (T157.setTop (mkF m 249 #[vI p0, vI p1, vI p2, vI p3, vJ q4, .second, vJ q5, .second, vI v1, vI v2, vI v3, vI (3 : Int32), vI v5, vI v6, vI v7, vI v8, vI v9, vR b11, vR b30, vI (own_min (3 : Int32) v5)] [(.int (3 : Int32)), (.ref b11)])) _
      exact k)
    obtain ⟨cl159, Ar159, q159, S159, M159, H159, G159⟩ := id nf139_4
    have in159 : ¬ ((3 : Int32) < 0 ∨ cl159.slots.size ≤ ((3 : Int32)).toNatClampNeg) := inb_of S159 ⟨by decide, by decide⟩
    have at159 : cl159.slots[((3 : Int32)).toNatClampNeg]? = some (.int (own_expect (3 : Int32) v9 (3 : Int32) v5 v1 p1 v2 p2 v3 p3)) := H159.at in159 rfl
    have pre160 : Go p.tables e below S0 T157 (mkF m 266 #[vI p0, vI p1, vI p2, vI p3, vJ q4, .second, vJ q5, .second, vI v1, vI v2, vI v3, vI (3 : Int32), vI v5, vI v6, vI v7, vI v8, vI v9, vR b11, vR b30, vI (own_min (3 : Int32) v5)] [(.int p3), (.int v3), (.int p2), (.int v2), (.int p1), (.int v1), (.int v5), (.int (3 : Int32)), (.int v9), (.int (3 : Int32)), (.int (own_expect (3 : Int32) v9 (3 : Int32) v5 v1 p1 v2 p2 v3 p3))]) := fun t k => pre158 t (by
      refine X157.iaload hx (j := (3 : Int32)) (v := (.int (own_expect (3 : Int32) v9 (3 : Int32) v5 v1 p1 v2 p2 v3 p3))) (by rw [eq157]; exact Ar159.1) (State.isArrayOf_alike hZ.alike Ar159.2.1) Ar159.2.2 in159 at159 (g := (mkF m 249 #[vI p0, vI p1, vI p2, vI p3, vJ q4, .second, vJ q5, .second, vI v1, vI v2, vI v3, vI (3 : Int32), vI v5, vI v6, vI v7, vI v8, vI v9, vR b11, vR b30, vI (own_min (3 : Int32) v5)] [(.int (3 : Int32)), (.ref b11)])) rfl rfl (hb hby at_249) _ ?_
      show Steps p.tables e below (T157.setTop (mkF m 250 #[vI p0, vI p1, vI p2, vI p3, vJ q4, .second, vJ q5, .second, vI v1, vI v2, vI v3, vI (3 : Int32), vI v5, vI v6, vI v7, vI v8, vI v9, vR b11, vR b30, vI (own_min (3 : Int32) v5)] [(.int (own_expect (3 : Int32) v9 (3 : Int32) v5 v1 p1 v2 p2 v3 p3))])) _
      refine XS.iconst X157.here hx rfl (hb hby at_250) ?_
      show Steps p.tables e below (T157.setTop (mkF m 251 #[vI p0, vI p1, vI p2, vI p3, vJ q4, .second, vJ q5, .second, vI v1, vI v2, vI v3, vI (3 : Int32), vI v5, vI v6, vI v7, vI v8, vI v9, vR b11, vR b30, vI (own_min (3 : Int32) v5)] [(.int (3 : Int32)), (.int (own_expect (3 : Int32) v9 (3 : Int32) v5 v1 p1 v2 p2 v3 p3))])) _
      refine XS.iload X157.here hx rfl (hb hby at_251) rfl ?_
      show Steps p.tables e below (T157.setTop (mkF m 253 #[vI p0, vI p1, vI p2, vI p3, vJ q4, .second, vJ q5, .second, vI v1, vI v2, vI v3, vI (3 : Int32), vI v5, vI v6, vI v7, vI v8, vI v9, vR b11, vR b30, vI (own_min (3 : Int32) v5)] [(.int v9), (.int (3 : Int32)), (.int (own_expect (3 : Int32) v9 (3 : Int32) v5 v1 p1 v2 p2 v3 p3))])) _
      refine XS.iload X157.here hx rfl (hb hby at_253) rfl ?_
      show Steps p.tables e below (T157.setTop (mkF m 255 #[vI p0, vI p1, vI p2, vI p3, vJ q4, .second, vJ q5, .second, vI v1, vI v2, vI v3, vI (3 : Int32), vI v5, vI v6, vI v7, vI v8, vI v9, vR b11, vR b30, vI (own_min (3 : Int32) v5)] [(.int (3 : Int32)), (.int v9), (.int (3 : Int32)), (.int (own_expect (3 : Int32) v9 (3 : Int32) v5 v1 p1 v2 p2 v3 p3))])) _
      refine XS.iload X157.here hx rfl (hb hby at_255) rfl ?_
      show Steps p.tables e below (T157.setTop (mkF m 257 #[vI p0, vI p1, vI p2, vI p3, vJ q4, .second, vJ q5, .second, vI v1, vI v2, vI v3, vI (3 : Int32), vI v5, vI v6, vI v7, vI v8, vI v9, vR b11, vR b30, vI (own_min (3 : Int32) v5)] [(.int v5), (.int (3 : Int32)), (.int v9), (.int (3 : Int32)), (.int (own_expect (3 : Int32) v9 (3 : Int32) v5 v1 p1 v2 p2 v3 p3))])) _
      refine XS.iload X157.here hx rfl (hb hby at_257) rfl ?_
      show Steps p.tables e below (T157.setTop (mkF m 259 #[vI p0, vI p1, vI p2, vI p3, vJ q4, .second, vJ q5, .second, vI v1, vI v2, vI v3, vI (3 : Int32), vI v5, vI v6, vI v7, vI v8, vI v9, vR b11, vR b30, vI (own_min (3 : Int32) v5)] [(.int v1), (.int v5), (.int (3 : Int32)), (.int v9), (.int (3 : Int32)), (.int (own_expect (3 : Int32) v9 (3 : Int32) v5 v1 p1 v2 p2 v3 p3))])) _
      refine XS.iloadN X157.here hx rfl (hb hby at_259) rfl ?_
      show Steps p.tables e below (T157.setTop (mkF m 260 #[vI p0, vI p1, vI p2, vI p3, vJ q4, .second, vJ q5, .second, vI v1, vI v2, vI v3, vI (3 : Int32), vI v5, vI v6, vI v7, vI v8, vI v9, vR b11, vR b30, vI (own_min (3 : Int32) v5)] [(.int p1), (.int v1), (.int v5), (.int (3 : Int32)), (.int v9), (.int (3 : Int32)), (.int (own_expect (3 : Int32) v9 (3 : Int32) v5 v1 p1 v2 p2 v3 p3))])) _
      refine XS.iload X157.here hx rfl (hb hby at_260) rfl ?_
      show Steps p.tables e below (T157.setTop (mkF m 262 #[vI p0, vI p1, vI p2, vI p3, vJ q4, .second, vJ q5, .second, vI v1, vI v2, vI v3, vI (3 : Int32), vI v5, vI v6, vI v7, vI v8, vI v9, vR b11, vR b30, vI (own_min (3 : Int32) v5)] [(.int v2), (.int p1), (.int v1), (.int v5), (.int (3 : Int32)), (.int v9), (.int (3 : Int32)), (.int (own_expect (3 : Int32) v9 (3 : Int32) v5 v1 p1 v2 p2 v3 p3))])) _
      refine XS.iloadN X157.here hx rfl (hb hby at_262) rfl ?_
      show Steps p.tables e below (T157.setTop (mkF m 263 #[vI p0, vI p1, vI p2, vI p3, vJ q4, .second, vJ q5, .second, vI v1, vI v2, vI v3, vI (3 : Int32), vI v5, vI v6, vI v7, vI v8, vI v9, vR b11, vR b30, vI (own_min (3 : Int32) v5)] [(.int p2), (.int v2), (.int p1), (.int v1), (.int v5), (.int (3 : Int32)), (.int v9), (.int (3 : Int32)), (.int (own_expect (3 : Int32) v9 (3 : Int32) v5 v1 p1 v2 p2 v3 p3))])) _
      refine XS.iload X157.here hx rfl (hb hby at_263) rfl ?_
      show Steps p.tables e below (T157.setTop (mkF m 265 #[vI p0, vI p1, vI p2, vI p3, vJ q4, .second, vJ q5, .second, vI v1, vI v2, vI v3, vI (3 : Int32), vI v5, vI v6, vI v7, vI v8, vI v9, vR b11, vR b30, vI (own_min (3 : Int32) v5)] [(.int v3), (.int p2), (.int v2), (.int p1), (.int v1), (.int v5), (.int (3 : Int32)), (.int v9), (.int (3 : Int32)), (.int (own_expect (3 : Int32) v9 (3 : Int32) v5 v1 p1 v2 p2 v3 p3))])) _
      refine XS.iloadN X157.here hx rfl (hb hby at_265) rfl ?_
      show Steps p.tables e below (T157.setTop (mkF m 266 #[vI p0, vI p1, vI p2, vI p3, vJ q4, .second, vJ q5, .second, vI v1, vI v2, vI v3, vI (3 : Int32), vI v5, vI v6, vI v7, vI v8, vI v9, vR b11, vR b30, vI (own_min (3 : Int32) v5)] [(.int p3), (.int v3), (.int p2), (.int v2), (.int p1), (.int v1), (.int v5), (.int (3 : Int32)), (.int v9), (.int (3 : Int32)), (.int (own_expect (3 : Int32) v9 (3 : Int32) v5 v1 p1 v2 p2 v3 p3))])) _
      exact k)
    obtain ⟨_, _, ⟨T161, qL161, qk161, qn161⟩, -, X161, ⟨Lc161, hQ161, ql161, qy161, qz161⟩, st161⟩ := Jvm.LawKit.callS X157 hx (y := (⟨"com/example/motiflow/motiflow/UndoLogTakeBackPinLaw", "expect", "(IIIIIIIIII)I"⟩ : MethodName)) hown (mvT hZ (hw _ (List.mem_of_getElem? (i := 30) rfl))) (mvT hZ (hw _ (List.mem_of_getElem? (i := 31) rfl))) (mvT hZ (hw _ (List.mem_of_getElem? (i := 32) rfl))) (mvT hZ (hw _ (List.mem_of_getElem? (i := 33) rfl))) (by decide) (backOf (W := 1) (rm6 l Z A0 hw [] (3 : Int32) v9 (3 : Int32) v5 v1 p1 v2 p2 v3 p3 T139.heap n0 zz141) hZ (hw _ (List.mem_of_getElem? (i := 33) rfl)) (hw _ (List.mem_of_getElem? (i := 32) rfl)) (by decide) (by decide)) (g := (mkF m 266 #[vI p0, vI p1, vI p2, vI p3, vJ q4, .second, vJ q5, .second, vI v1, vI v2, vI v3, vI (3 : Int32), vI v5, vI v6, vI v7, vI v8, vI v9, vR b11, vR b30, vI (own_min (3 : Int32) v5)] [(.int p3), (.int v3), (.int p2), (.int v2), (.int p1), (.int v1), (.int v5), (.int (3 : Int32)), (.int v9), (.int (3 : Int32)), (.int (own_expect (3 : Int32) v9 (3 : Int32) v5 v1 p1 v2 p2 v3 p3))])) rfl (by rw [hml]; rfl) (argsL := [(.int (3 : Int32)), (.int v9), (.int (3 : Int32)), (.int v5), (.int v1), (.int p1), (.int v2), (.int p2), (.int v3), (.int p3)]) (rest := [(.int (own_expect (3 : Int32) v9 (3 : Int32) v5 v1 p1 v2 p2 v3 p3))]) (lenOf pd_5 rfl) rfl (by show 2 * 0 + _ ≤ _; exact Nat.le_of_eq rfl) (hb hby at_266) (fun _ _ => ⟨rfl, eq157, (by decide : 4 + 0 ≤ _), (by decide : 39 + 0 ≤ _)⟩)
    dsimp only [Pt.U, Pt.locs, Pt.cells, Pt.slots] at X161 ql161 qy161 qz161 st161 hQ161
    subst ql161 qy161 qz161
    obtain ⟨rfl, Nq161, eq161⟩ := hQ161
    have N161 := Fr.app N157 Nq161
    have pre161 : Go p.tables e below S0 T161 (mkF m 269 #[vI p0, vI p1, vI p2, vI p3, vJ q4, .second, vJ q5, .second, vI v1, vI v2, vI v3, vI (3 : Int32), vI v5, vI v6, vI v7, vI v8, vI v9, vR b11, vR b30, vI (own_min (3 : Int32) v5)] [(.int (own_expect (3 : Int32) v9 (3 : Int32) v5 v1 p1 v2 p2 v3 p3)), (.int (own_expect (3 : Int32) v9 (3 : Int32) v5 v1 p1 v2 p2 v3 p3))]) := fun t k => pre160 t (st161 t k)
    have pre162 : Go p.tables e below S0 T161 (mkF m 277 #[vI p0, vI p1, vI p2, vI p3, vJ q4, .second, vJ q5, .second, vI v1, vI v2, vI v3, vI (3 : Int32), vI v5, vI v6, vI v7, vI v8, vI v9, vR b11, vR b30, vI (own_min (3 : Int32) v5)] [(.int (1 : Int32))]) := fun t k => pre161 t (by
      refine XS.icmpNo X161.here hx rfl (hb hby at_269) rfl (teq (rfl : (own_expect (3 : Int32) v9 (3 : Int32) v5 v1 p1 v2 p2 v3 p3) = (own_expect (3 : Int32) v9 (3 : Int32) v5 v1 p1 v2 p2 v3 p3))).2 ?_
      show Steps p.tables e below (T161.setTop (mkF m 272 #[vI p0, vI p1, vI p2, vI p3, vJ q4, .second, vJ q5, .second, vI v1, vI v2, vI v3, vI (3 : Int32), vI v5, vI v6, vI v7, vI v8, vI v9, vR b11, vR b30, vI (own_min (3 : Int32) v5)] [])) _
      refine XS.iconst X161.here hx rfl (hb hby at_272) ?_
      show Steps p.tables e below (T161.setTop (mkF m 273 #[vI p0, vI p1, vI p2, vI p3, vJ q4, .second, vJ q5, .second, vI v1, vI v2, vI v3, vI (3 : Int32), vI v5, vI v6, vI v7, vI v8, vI v9, vR b11, vR b30, vI (own_min (3 : Int32) v5)] [(.int (1 : Int32))])) _
      refine XS.goto X161.here hx rfl (pc0 := 273) (pc' := 277) rfl (hb hby at_273) (by decide) (by decide) ?_
      show Steps p.tables e below (T161.setTop (mkF m 277 #[vI p0, vI p1, vI p2, vI p3, vJ q4, .second, vJ q5, .second, vI v1, vI v2, vI v3, vI (3 : Int32), vI v5, vI v6, vI v7, vI v8, vI v9, vR b11, vR b30, vI (own_min (3 : Int32) v5)] [(.int (1 : Int32))])) _
      exact k)
    obtain ⟨fs, hr, hrun, hended, hW, hsame⟩ := X161.leave (v := some (.int (1 : Int32))) (fun h => by rw [Bd.returns] at h; cases h)
    exact ⟨_, _, pre162.fin hS0 (retN X161 hx (t := .boolean) Bd.returns (by simp) (hb hby at_277) hr), hrun, hended, _, _, rfl, (by
      show Q0 Z p0 p1 p2 p3 q4 q5 h0 n0 _ T161.heap _
      rw [eq161]
      exact ⟨rfl, N161⟩), ⟨_, rfl⟩, hW, hsame.mono (by decide) (by decide)⟩
set_option maxRecDepth 65536 in
set_option maxHeartbeats 40000000 in
theorem comes_1 {Post : Tables → Env → Array Value → State → Outcome → State → Prop} (hpost : ∀ tb e args s v u, (limb_1_1.after args s (.returned v) u = true ∧ limb_1_2.after args s (.returned v) u = true ∧ True) → FrameEnd s (.returned v) u (Jvm.fieldLocs frame_1_writes args s ++ Jvm.arrayLocs frame_1_arrays args s ++ Jvm.staticLocs frame_1_statics s) 16 192 → Post tb e args s (.returned v) u) :
    ArmFor flags0 classFile x code maxLocals ret World_1 tables_1 room_1 Calls_1 rest_1 Pre_1 Post := by
  intro l hfl _ _ p e ha hc hk s m args below hf hA hF happ hP
  obtain ⟨hcalls, hrest, hpre⟩ := hP
  obtain ⟨-, -, -, hnamed, -, -, -, hat⟩ := (Spec.applies_iff hf).mp happ
  obtain ⟨hg, hn⟩ := and_e (Cond.before_iff.mp (show (Jvm.Cond.and given_1 narrow_1).before args s = true from hpre))
  obtain ⟨g0, r0⟩ := and_e hg
  obtain ⟨g1, r1⟩ := and_e r0
  obtain ⟨g2, r2⟩ := and_e r1
  obtain ⟨g3, r3⟩ := and_e r2
  obtain ⟨g4, r4⟩ := and_e r3
  obtain ⟨g5, r5⟩ := and_e r4
  obtain ⟨w0, w1, w2, w3, w4, w5, rfl⟩ : ∃ w0 w1 w2 w3 w4 w5 : Value, args = #[w0, w1, w2, w3, w4, w5] := by
    have hs : args.size = 6 := by simpa [Cond.value, given_1] using g0
    obtain ⟨L⟩ := args
    match L, hs with
    | [w0, w1, w2, w3, w4, w5], _ => exact ⟨w0, w1, w2, w3, w4, w5, rfl⟩
  have hw := fun d (hd : d ∈ tables_1) => atoms_spec (ws := Jvm.Cond.code x code maxLocals ret :: tables_1) hat d (List.mem_cons_of_mem _ hd)
  obtain ⟨i0, ei0⟩ := is_v g1
  obtain rfl : w0 = (.int i0) := Option.some.inj ei0
  obtain ⟨i1, ei1⟩ := is_v g2
  obtain rfl : w1 = (.int i1) := Option.some.inj ei1
  obtain ⟨i2, ei2⟩ := is_v g3
  obtain rfl : w2 = (.int i2) := Option.some.inj ei2
  obtain ⟨i3, ei3⟩ := is_v g4
  obtain rfl : w3 = (.int i3) := Option.some.inj ei3
  obtain ⟨i4, ei4⟩ := isL_v g5
  obtain rfl : w4 = (.long i4) := Option.some.inj ei4
  obtain ⟨i5, ei5⟩ := isL_v r5
  obtain rfl : w5 = (.long i5) := Option.some.inj ei5
  obtain ⟨n, o, h1, h2, h3, _, L, rfl, ⟨rfl, N⟩, hq⟩ := rm0 l s _ hw tables_1 i0 i1 i2 i3 i4 i5  s.heap s.heap.size (Nat.le_refl _) p e ha hc hk s m _ below hf ((Spec.applies_iff_loose hf).mp happ).1 ⟨rfl, State.Warmed39.refl s, rfl⟩ trivial
  refine ⟨n, _, h1, h2, h3, hpost _ _ _ _ _ _ ⟨Cond.after_iff.mpr rfl, Cond.after_iff.mpr (eq_i res_at (Term.int_eval (1)) rfl), trivial⟩ ⟨hq.1, hq.2.1, (hq.2.2.sift fun y hy => Or.inr (N y hy)).mono (by decide) (by decide)⟩⟩
theorem main_1_1 : Claimed_1_1 := comes_1 fun _ _ _ _ _ _ h hF => ⟨h.1, hF⟩
theorem main_1_2 : Claimed_1_2 := comes_1 fun _ _ _ _ _ _ h hF => ⟨h.2.1, hF⟩
end Jvm.Pilot.@@N@@
namespace Jvm.Pilot.@@N@@
open Jvm Jvm.ClassFile Sem Op Lib Jvm.Free Jvm.Stand Jvm.Pilot.@@N@@.Jvm.D
/-! MADE BY PROGRAM (witnessworld.py) out of the Statement's table words and the real class files: 11 classes; the members and pool entries that the words name. The judged class is class 1, her method 1. -/
namespace start1
open Jvm.ClassFile
def u (s : String) : CpInfo := .utf8 (stringToUtf16 s)
/-- a pool by its gaps: so many unusable entries, then the entry; so many at the end -/
def gap : Nat → List CpInfo → List CpInfo
  | 0, r => r
  | n + 1, r => .unusable :: gap n r
def poolList (es : List (Nat × CpInfo)) (last : Nat) : List CpInfo := es.foldr (fun e r => gap e.1 (e.2 :: r)) (gap last [])
def pool (es : List (Nat × CpInfo)) (last : Nat) : Array CpInfo := ⟨poolList es last⟩
def fileOf (pool : Array CpInfo) (this : Nat) (attrs : Array Attribute := #[]) (ms : Array MethodInfo := #[]) (fl : Nat := 33) (sup : Nat := 0) (ifs : Array Nat := #[]) (fds : Array FieldInfo := #[]) : ClassFile where
  minorVersion := 0
  majorVersion := 65
  constantPool := pool
  accessFlags := fl
  thisClass := this
  superClass := sup
  interfaces := ifs
  fields := fds
  methods := ms
  attributes := attrs
def plain (name : String) (sup : Option ClassId) : Class where
  name := name
  kind := .ordinary
  loader := none
  accessFlags := 33
  super := sup
  interfaces := #[]
  cf := none
  fields := #[]
  methods := #[]
  instanceTypes := #[]
  staticTypes := #[]
  resolved := #[]
  callSites := []
  init := .initialized
  statics := none
  mirror := none

def pool0 : Array CpInfo := pool [(5, u "<init>"), (0, u "()V"), (1, .class_ 10), (1, u "java/lang/Object")] 113

def k0c0 : Code := { maxStack := 0, maxLocals := 1, code := object_method_1_code, exceptionTable := #[], attributes := #[] }
def k0m0 : Method := { name := "<init>", desc := "()V", sig := { parameters := [], returnType := none }, accessFlags := 1, code := some k0c0 }
/-- java/lang/Object -/
def k0 : Class := { plain "java/lang/Object" none with
  accessFlags := 33
  interfaces := #[]
  cf := some (fileOf pool0 8 #[] #[{ accessFlags := 1, nameIndex := 5, descriptorIndex := 6, attributes := #[] }] 33 0 #[] #[])
  fields := #[]
  methods := #[k0m0]
  instanceTypes := #[]
  staticTypes := #[]
  resolved := Array.replicate 124 none
  statics := none }

def pool1 : Array CpInfo := pool [(2, .class_ 4), (0, .nameAndType 5 6), (0, u "java/lang/Object"), (0, u "<init>"), (0, u "()V"), (0, .class_ 8), (0, u "com/example/motiflow/motiflow/UndoLog"), (0, .methodref 7 3), (0, .methodref 7 11), (0, .nameAndType 12 13), (0, u "record"), (0, u "(II)V"), (0, .methodref 7 15), (0, .nameAndType 16 17), (0, u "takeBack"), (0, u "([II)V"), (0, .methodref 19 20), (0, .class_ 21), (0, .nameAndType 22 23), (0, u "java/lang/Math"), (0, u "min"), (0, u "(II)I"), (0, .methodref 7 25), (0, .nameAndType 26 27), (0, u "size"), (0, u "()I"), (0, .methodref 29 30), (0, .class_ 31), (0, .nameAndType 32 33), (0, u "com/example/motiflow/motiflow/UndoLogTakeBackPinLaw"), (0, u "expect"), (0, u "(IIIIIIIIII)I"), (2, u "law"), (0, u "(IIIIJJ)Z")] 5

def k1m0 : Method := { name := "<init>", desc := "()V", sig := { parameters := [], returnType := none }, accessFlags := 1, code := none }
def k1c1 : Code := { maxStack := 11, maxLocals := 20, code := code, exceptionTable := #[], attributes := #[] }
def k1m1 : Method := { name := "law", desc := "(IIIIJJ)Z", sig := { parameters := [.int, .int, .int, .int, .long, .long], returnType := some .boolean }, accessFlags := 9, code := some k1c1 }
def k1c2 : Code := { maxStack := 2, maxLocals := 10, code := method_3_code, exceptionTable := #[], attributes := #[] }
def k1m2 : Method := { name := "expect", desc := "(IIIIIIIIII)I", sig := { parameters := [.int, .int, .int, .int, .int, .int, .int, .int, .int, .int], returnType := some .int }, accessFlags := 10, code := some k1c2 }
/-- com/example/motiflow/motiflow/UndoLogTakeBackPinLaw -/
def k1 : Class := { plain "com/example/motiflow/motiflow/UndoLogTakeBackPinLaw" (some 0) with
  accessFlags := 49
  interfaces := #[]
  cf := some (fileOf pool1 29 #[] #[{ accessFlags := 1, nameIndex := 5, descriptorIndex := 6, attributes := #[] }, { accessFlags := 9, nameIndex := 36, descriptorIndex := 37, attributes := #[] }, { accessFlags := 10, nameIndex := 32, descriptorIndex := 33, attributes := #[] }] 49 2 #[] #[])
  fields := #[]
  methods := #[k1m0, k1m1, k1m2]
  instanceTypes := #[]
  staticTypes := #[]
  resolved := Array.replicate 43 none
  statics := none }

def pool2 : Array CpInfo := pool [(1, .methodref 2 3), (0, .class_ 4), (0, .nameAndType 5 6), (0, u "java/lang/Object"), (0, u "<init>"), (0, u "()V"), (0, .fieldref 8 9), (0, .class_ 10), (0, .nameAndType 11 12), (0, u "com/example/motiflow/motiflow/UndoLog"), (0, u "places"), (0, u "[I"), (0, .fieldref 8 14), (0, .nameAndType 15 12), (0, u "values"), (0, .fieldref 8 17), (0, .nameAndType 18 19), (0, u "size"), (0, u "I"), (0, .methodref 21 22), (0, .class_ 23), (0, .nameAndType 24 25), (0, u "com/example/motiflow/motiflow/IntArrays"), (0, u "room"), (0, u "([II)[I"), (3, u "()I"), (0, u "record"), (0, u "(II)V"), (0, u "takeBack"), (0, u "([II)V")] 3

def k2c0 : Code := { maxStack := 2, maxLocals := 1, code := prog_138_method_1_code, exceptionTable := #[], attributes := #[] }
def k2m0 : Method := { name := "<init>", desc := "()V", sig := { parameters := [], returnType := none }, accessFlags := 0, code := some k2c0 }
def k2c1 : Code := { maxStack := 1, maxLocals := 1, code := prog_138_method_3_code, exceptionTable := #[], attributes := #[] }
def k2m1 : Method := { name := "size", desc := "()I", sig := { parameters := [], returnType := some .int }, accessFlags := 0, code := some k2c1 }
def k2c2 : Code := { maxStack := 4, maxLocals := 3, code := prog_138_method_4_code, exceptionTable := #[], attributes := #[] }
def k2m2 : Method := { name := "record", desc := "(II)V", sig := { parameters := [.int, .int], returnType := none }, accessFlags := 0, code := some k2c2 }
def k2c3 : Code := { maxStack := 4, maxLocals := 3, code := prog_138_method_5_code, exceptionTable := #[], attributes := #[] }
def k2m3 : Method := { name := "takeBack", desc := "([II)V", sig := { parameters := [(.array .int), .int], returnType := none }, accessFlags := 0, code := some k2c3 }
/-- com/example/motiflow/motiflow/UndoLog -/
def k2 : Class := { plain "com/example/motiflow/motiflow/UndoLog" (some 0) with
  accessFlags := 48
  interfaces := #[]
  cf := some (fileOf pool2 8 #[] #[{ accessFlags := 0, nameIndex := 5, descriptorIndex := 6, attributes := #[] }, { accessFlags := 0, nameIndex := 18, descriptorIndex := 29, attributes := #[] }, { accessFlags := 0, nameIndex := 30, descriptorIndex := 31, attributes := #[] }, { accessFlags := 0, nameIndex := 32, descriptorIndex := 33, attributes := #[] }] 48 2 #[] #[{ accessFlags := 2, nameIndex := 11, descriptorIndex := 12, attributes := #[] }, { accessFlags := 2, nameIndex := 15, descriptorIndex := 12, attributes := #[] }, { accessFlags := 2, nameIndex := 18, descriptorIndex := 19, attributes := #[] }])
  fields := #[{ name := "places", type := (.array .int), accessFlags := 2, slot := 0, constantValue := 0 }, { name := "values", type := (.array .int), accessFlags := 2, slot := 1, constantValue := 0 }, { name := "size", type := .int, accessFlags := 2, slot := 2, constantValue := 0 }]
  methods := #[k2m0, k2m1, k2m2, k2m3]
  instanceTypes := #[(.array .int), (.array .int), .int]
  staticTypes := #[]
  resolved := Array.replicate 37 none
  statics := none }

def pool3 : Array CpInfo := pool [(1, .class_ 2), (0, u "java/lang/Math"), (1, .class_ 6), (1, u "java/lang/Object"), (0, u "<init>"), (0, u "()V"), (89, .class_ 100), (1, u "java/lang/Math$RandomNumberGeneratorHolder"), (71, u "negativeZeroFloatBits"), (0, u "J"), (2, u "negativeZeroDoubleBits"), (24, u "min"), (43, u "$assertionsDisabled"), (0, u "Z"), (88, u "(II)I"), (2, u "twoToTheDoubleScaleDown"), (0, u "D"), (4, u "twoToTheDoubleScaleUp"), (9, u "E"), (3, u "PI"), (2, u "TAU"), (2, u "DEGREES_TO_RADIANS"), (0, u "RADIANS_TO_DEGREES")] 94

def k3m0 : Method := { name := "<init>", desc := "()V", sig := { parameters := [], returnType := none }, accessFlags := 2, code := none }
def k3c1 : Code := { maxStack := 2, maxLocals := 2, code := jdk_29_method_69_code, exceptionTable := #[], attributes := #[] }
def k3m1 : Method := { name := "min", desc := "(II)I", sig := { parameters := [.int, .int], returnType := some .int }, accessFlags := 9, code := some k3c1 }
/-- java/lang/Math -/
def k3 : Class := { plain "java/lang/Math" (some 0) with
  accessFlags := 49
  interfaces := #[]
  cf := some (fileOf pool3 1 #[.nestMembers #[98]] #[{ accessFlags := 2, nameIndex := 7, descriptorIndex := 8, attributes := #[] }, { accessFlags := 9, nameIndex := 201, descriptorIndex := 335, attributes := #[] }] 49 4 #[] #[{ accessFlags := 25, nameIndex := 354, descriptorIndex := 339, attributes := #[] }, { accessFlags := 25, nameIndex := 358, descriptorIndex := 339, attributes := #[] }, { accessFlags := 25, nameIndex := 361, descriptorIndex := 339, attributes := #[] }, { accessFlags := 26, nameIndex := 364, descriptorIndex := 339, attributes := #[] }, { accessFlags := 26, nameIndex := 365, descriptorIndex := 339, attributes := #[] }, { accessFlags := 26, nameIndex := 172, descriptorIndex := 173, attributes := #[] }, { accessFlags := 26, nameIndex := 176, descriptorIndex := 173, attributes := #[] }, { accessFlags := 8, nameIndex := 344, descriptorIndex := 339, attributes := #[] }, { accessFlags := 8, nameIndex := 338, descriptorIndex := 339, attributes := #[] }, { accessFlags := 4120, nameIndex := 245, descriptorIndex := 246, attributes := #[] }])
  fields := #[{ name := "E", type := .double, accessFlags := 25, slot := 0, constantValue := 0 }, { name := "PI", type := .double, accessFlags := 25, slot := 1, constantValue := 0 }, { name := "TAU", type := .double, accessFlags := 25, slot := 2, constantValue := 0 }, { name := "DEGREES_TO_RADIANS", type := .double, accessFlags := 26, slot := 3, constantValue := 0 }, { name := "RADIANS_TO_DEGREES", type := .double, accessFlags := 26, slot := 4, constantValue := 0 }, { name := "negativeZeroFloatBits", type := .long, accessFlags := 26, slot := 5, constantValue := 0 }, { name := "negativeZeroDoubleBits", type := .long, accessFlags := 26, slot := 6, constantValue := 0 }, { name := "twoToTheDoubleScaleUp", type := .double, accessFlags := 8, slot := 7, constantValue := 0 }, { name := "twoToTheDoubleScaleDown", type := .double, accessFlags := 8, slot := 8, constantValue := 0 }, { name := "$assertionsDisabled", type := .boolean, accessFlags := 4120, slot := 9, constantValue := 0 }]
  methods := #[k3m0, k3m1]
  instanceTypes := #[]
  staticTypes := #[.double, .double, .double, .double, .double, .long, .long, .double, .double, .boolean]
  resolved := Array.replicate 460 none
  statics := none }

def pool4 : Array CpInfo := pool [(2, .class_ 4), (1, u "java/lang/Object"), (0, u "<init>"), (0, u "()V"), (11, u "([II)[I"), (0, .class_ 20), (0, u "com/example/motiflow/motiflow/IntArrays"), (2, u "room")] 5

def k4m0 : Method := { name := "<init>", desc := "()V", sig := { parameters := [], returnType := none }, accessFlags := 2, code := none }
def k4c1 : Code := { maxStack := 4, maxLocals := 2, code := prog_64_method_2_code, exceptionTable := #[], attributes := #[] }
def k4m1 : Method := { name := "room", desc := "([II)[I", sig := { parameters := [(.array .int), .int], returnType := some (.array .int) }, accessFlags := 8, code := some k4c1 }
/-- com/example/motiflow/motiflow/IntArrays -/
def k4 : Class := { plain "com/example/motiflow/motiflow/IntArrays" (some 0) with
  accessFlags := 48
  interfaces := #[]
  cf := some (fileOf pool4 19 #[] #[{ accessFlags := 2, nameIndex := 5, descriptorIndex := 6, attributes := #[] }, { accessFlags := 8, nameIndex := 23, descriptorIndex := 18, attributes := #[] }] 48 2 #[] #[])
  fields := #[]
  methods := #[k4m0, k4m1]
  instanceTypes := #[]
  staticTypes := #[]
  resolved := Array.replicate 29 none
  statics := none }

def pool5 : Array CpInfo := pool [(1, u "java/lang/Cloneable"), (0, .class_ 1), (0, u "java/lang/Object"), (0, .class_ 3)] 3

/-- java/lang/Cloneable -/
def k5 : Class := { plain "java/lang/Cloneable" (some 0) with
  accessFlags := 1537
  interfaces := #[]
  cf := some (fileOf pool5 2 #[] #[] 1537 4 #[] #[])
  fields := #[]
  methods := #[]
  instanceTypes := #[]
  staticTypes := #[]
  resolved := Array.replicate 8 none
  statics := none }

def pool6 : Array CpInfo := pool [(1, u "java/io/Serializable"), (0, .class_ 1), (0, u "java/lang/Object"), (0, .class_ 3)] 3

/-- java/io/Serializable -/
def k6 : Class := { plain "java/io/Serializable" (some 0) with
  accessFlags := 1537
  interfaces := #[]
  cf := some (fileOf pool6 2 #[] #[] 1537 4 #[] #[])
  fields := #[]
  methods := #[]
  instanceTypes := #[]
  staticTypes := #[]
  resolved := Array.replicate 8 none
  statics := none }

/-- the primitive byte -/
def k7 : Class := { plain "byte" none with kind := .primitive 'B', accessFlags := 0x411 }
/-- [B -/
def k8 : Class := { plain "[B" (some 0) with kind := .array 7 .byte, interfaces := #[5, 6], accessFlags := 1041 }

/-- the primitive int -/
def k9 : Class := { plain "int" none with kind := .primitive 'I', accessFlags := 0x411 }
/-- [I -/
def k10 : Class := { plain "[I" (some 0) with kind := .array 9 .int, interfaces := #[5, 6], accessFlags := 1041 }

def heap : Heap := #[]
def classes : Array Class := #[k0, k1, k2, k3, k4, k5, k6, k7, k8, k9, k10]
def interned : List (Array UInt16 × Addr) := []
def slotsUsed : Nat := 0
def theMethod : MethodId := ⟨1, 1⟩
def args0 : Array Value := #[.int 5, .int 6, .int 7, .int 8, .long 9, .long 10]
def aboutOver (below : List Frame) : State where
  vm := { classes := classes, interned := interned.toArray }
  heap := heap
  slotsUsed := slotsUsed
  threads := #[{ frames := .invoking theMethod args0 :: below }]
def below0 : List Frame := [.native { method := ⟨0, 0⟩, args := #[] }]
def about1 : State := aboutOver below0
def p0 : Program := .bare "" "" ""
def e0 : Env := launch0.env 0 0 0
theorem w_frames : about1.frames = Frame.invoking theMethod args0 :: below0 := rfl
set_option maxRecDepth 65536 in
theorem w_args : argsFit about1.vm theMethod args0 = true := by decide +kernel
set_option maxRecDepth 65536 in
theorem w_heap : heapFits about1 = true := by decide +kernel
set_option maxRecDepth 65536 in
theorem w_runnable : about1.curStatus? = some .runnable := by decide +kernel
set_option maxRecDepth 65536 in
theorem w_alone : about1.alone = true := by decide +kernel
set_option maxRecDepth 65536 in
theorem w_named : about1.methodNamed? x = some theMethod := by decide +kernel
set_option maxRecDepth 65536 in
theorem w_hears : about1.hears theMethod below0 = true := by decide +kernel
set_option maxRecDepth 65536 in
theorem w_ripe : about1.ripe theMethod args0 below0 = true := by decide +kernel
theorem w_running : about1.status = .running := rfl
set_option maxRecDepth 65536 in
theorem w_room : about1.hasRoom e0.platform room_1 = true :=
  launch0.hasRoom_least _ room_1 (by decide +kernel) (by decide +kernel) (by decide +kernel) (by decide +kernel) (by decide +kernel) (by decide +kernel)
theorem allAtoms_all (ts : List Jvm.Cond) (a : Array Jvm.Value) (st : Jvm.State) : (allAtoms ts).before a st = ts.all (fun c => c.before a st) := by
  induction ts with
  | nil => rfl
  | cons c t ih =>
    show (Jvm.Cond.and c (allAtoms t)).before a st = _
    rw [Jvm.Cond.before_and, ih, List.all_cons]
def words1 : List Jvm.Cond := Jvm.Cond.code x code maxLocals ret :: tables_1
/-- a 'code' word, met by the world's own term for the bytes: nothing is compared byte by byte -/
theorem code_word {y : MethodName} {bytes : ByteArray} {mx : Nat} {rt : Option FieldType} {a : Array Value} {s : State} {m : MethodId} {meth : Method} {c : Code} (h1 : s.methodNamed? y = some m) (h2 : s.vm.method? m = some meth) (h3 : meth.code = some c) (h4 : c.code = bytes)
    (h5 : (c.maxLocals == mx && c.exceptionTable.isEmpty && decide (c.maxStack ≤ mostOperands) && decide (meth.sig.returnType = rt) && !meth.locks && decide (parseMethodDescriptor y.desc = some meth.sig)) = true) : (Jvm.Cond.code y bytes mx rt).before a s = true := by
  simp only [Bool.and_eq_true, beq_iff_eq, Bool.not_eq_true', decide_eq_true_eq] at h5
  obtain ⟨⟨⟨⟨⟨g1, g2⟩, g3⟩, g4⟩, g5⟩, g6⟩ := h5
  simp [Cond.before, Cond.holds, Cond.value, h1, h2, h3, h4, g1, g2, g3, g4, g5, g6]
def isCode : Jvm.Cond → Bool
  | .code _ _ _ _ => true
  | _ => false
theorem all_split {L : List Jvm.Cond} {P : Jvm.Cond → Bool} (h1 : L.all (fun c => isCode c || P c) = true) (h2 : ∀ c ∈ L.filter isCode, P c = true) : L.all P = true := by
  refine List.all_eq_true.mpr fun c hc => ?_
  have h := List.all_eq_true.mp h1 c hc
  rcases Bool.eq_false_or_eq_true (isCode c) with hi | hi
  · exact h2 c (List.mem_filter.mpr ⟨hc, hi⟩)
  · simpa [hi] using h
set_option maxRecDepth 65536 in
theorem w_c0 : (Jvm.Cond.code x code maxLocals ret).before args0 about1 = true := code_word (m := ⟨1, 1⟩) (meth := k1m1) (c := k1c1) (by decide +kernel) rfl rfl rfl (by decide +kernel)
set_option maxRecDepth 65536 in
theorem w_c1 : (Jvm.Cond.code ({ cls := "com/example/motiflow/motiflow/UndoLog", name := "<init>", desc := "()V" } : Jvm.MethodName) prog_138_method_1_code (1 : Nat) (Option.none : Option Jvm.ClassFile.FieldType)).before args0 about1 = true := code_word (m := ⟨2, 0⟩) (meth := k2m0) (c := k2c0) (by decide +kernel) rfl rfl rfl (by decide +kernel)
set_option maxRecDepth 65536 in
theorem w_c2 : (Jvm.Cond.code ({ cls := "java/lang/Object", name := "<init>", desc := "()V" } : Jvm.MethodName) object_method_1_code (1 : Nat) (Option.none : Option Jvm.ClassFile.FieldType)).before args0 about1 = true := code_word (m := ⟨0, 0⟩) (meth := k0m0) (c := k0c0) (by decide +kernel) rfl rfl rfl (by decide +kernel)
set_option maxRecDepth 65536 in
theorem w_c3 : (Jvm.Cond.code ({ cls := "com/example/motiflow/motiflow/UndoLog", name := "takeBack", desc := "([II)V" } : Jvm.MethodName) prog_138_method_5_code (3 : Nat) (Option.none : Option Jvm.ClassFile.FieldType)).before args0 about1 = true := code_word (m := ⟨2, 3⟩) (meth := k2m3) (c := k2c3) (by decide +kernel) rfl rfl rfl (by decide +kernel)
set_option maxRecDepth 65536 in
theorem w_c4 : (Jvm.Cond.code ({ cls := "java/lang/Math", name := "min", desc := "(II)I" } : Jvm.MethodName) jdk_29_method_69_code (2 : Nat) (Option.some Jvm.ClassFile.FieldType.int)).before args0 about1 = true := code_word (m := ⟨3, 1⟩) (meth := k3m1) (c := k3c1) (by decide +kernel) rfl rfl rfl (by decide +kernel)
set_option maxRecDepth 65536 in
theorem w_c5 : (Jvm.Cond.code ({ cls := "com/example/motiflow/motiflow/UndoLog", name := "size", desc := "()I" } : Jvm.MethodName) prog_138_method_3_code (1 : Nat) (Option.some Jvm.ClassFile.FieldType.int)).before args0 about1 = true := code_word (m := ⟨2, 1⟩) (meth := k2m1) (c := k2c1) (by decide +kernel) rfl rfl rfl (by decide +kernel)
set_option maxRecDepth 65536 in
theorem w_c6 : (Jvm.Cond.code ({ cls := "com/example/motiflow/motiflow/UndoLogTakeBackPinLaw", name := "expect", desc := "(IIIIIIIIII)I" } : Jvm.MethodName) method_3_code (10 : Nat) (Option.some Jvm.ClassFile.FieldType.int)).before args0 about1 = true := code_word (m := ⟨1, 2⟩) (meth := k1m2) (c := k1c2) (by decide +kernel) rfl rfl rfl (by decide +kernel)
set_option maxRecDepth 65536 in
theorem w_c7 : (Jvm.Cond.code ({ cls := "com/example/motiflow/motiflow/UndoLog", name := "record", desc := "(II)V" } : Jvm.MethodName) prog_138_method_4_code (3 : Nat) (Option.none : Option Jvm.ClassFile.FieldType)).before args0 about1 = true := code_word (m := ⟨2, 2⟩) (meth := k2m2) (c := k2c2) (by decide +kernel) rfl rfl rfl (by decide +kernel)
set_option maxRecDepth 65536 in
theorem w_c8 : (Jvm.Cond.code ({ cls := "com/example/motiflow/motiflow/IntArrays", name := "room", desc := "([II)[I" } : Jvm.MethodName) prog_64_method_2_code (2 : Nat) (Option.some (Jvm.ClassFile.FieldType.array Jvm.ClassFile.FieldType.int))).before args0 about1 = true := code_word (m := ⟨4, 1⟩) (meth := k4m1) (c := k4c1) (by decide +kernel) rfl rfl rfl (by decide +kernel)
def codes1 : List Jvm.Cond := [Jvm.Cond.code x code maxLocals ret, Jvm.Cond.code ({ cls := "com/example/motiflow/motiflow/UndoLog", name := "<init>", desc := "()V" } : Jvm.MethodName) prog_138_method_1_code (1 : Nat) (Option.none : Option Jvm.ClassFile.FieldType), Jvm.Cond.code ({ cls := "java/lang/Object", name := "<init>", desc := "()V" } : Jvm.MethodName) object_method_1_code (1 : Nat) (Option.none : Option Jvm.ClassFile.FieldType), Jvm.Cond.code ({ cls := "com/example/motiflow/motiflow/UndoLog", name := "takeBack", desc := "([II)V" } : Jvm.MethodName) prog_138_method_5_code (3 : Nat) (Option.none : Option Jvm.ClassFile.FieldType), Jvm.Cond.code ({ cls := "java/lang/Math", name := "min", desc := "(II)I" } : Jvm.MethodName) jdk_29_method_69_code (2 : Nat) (Option.some Jvm.ClassFile.FieldType.int), Jvm.Cond.code ({ cls := "com/example/motiflow/motiflow/UndoLog", name := "size", desc := "()I" } : Jvm.MethodName) prog_138_method_3_code (1 : Nat) (Option.some Jvm.ClassFile.FieldType.int), Jvm.Cond.code ({ cls := "com/example/motiflow/motiflow/UndoLogTakeBackPinLaw", name := "expect", desc := "(IIIIIIIIII)I" } : Jvm.MethodName) method_3_code (10 : Nat) (Option.some Jvm.ClassFile.FieldType.int), Jvm.Cond.code ({ cls := "com/example/motiflow/motiflow/UndoLog", name := "record", desc := "(II)V" } : Jvm.MethodName) prog_138_method_4_code (3 : Nat) (Option.none : Option Jvm.ClassFile.FieldType), Jvm.Cond.code ({ cls := "com/example/motiflow/motiflow/IntArrays", name := "room", desc := "([II)[I" } : Jvm.MethodName) prog_64_method_2_code (2 : Nat) (Option.some (Jvm.ClassFile.FieldType.array Jvm.ClassFile.FieldType.int))]
set_option maxRecDepth 65536 in
theorem codes_eq : words1.filter isCode = codes1 := rfl
theorem w_codes : ∀ c ∈ words1.filter isCode, c.before args0 about1 = true := by
  rw [codes_eq]
  intro c hc
  simp only [codes1, List.mem_cons, List.not_mem_nil, or_false] at hc
  rcases hc with rfl | rfl | rfl | rfl | rfl | rfl | rfl | rfl | rfl
  · exact w_c0
  · exact w_c1
  · exact w_c2
  · exact w_c3
  · exact w_c4
  · exact w_c5
  · exact w_c6
  · exact w_c7
  · exact w_c8
set_option maxRecDepth 65536 in
theorem w_t1 : (words1.take 24).all (fun c => isCode c || c.before args0 about1) = true := by decide +kernel
set_option maxRecDepth 65536 in
theorem w_t2 : (words1.drop 24).all (fun c => isCode c || c.before args0 about1) = true := by decide +kernel
theorem w_tables : (allAtoms (Jvm.Cond.code x code maxLocals ret :: tables_1)).before args0 about1 = true := by
  rw [allAtoms_all]
  show words1.all (fun c => c.before args0 about1) = true
  refine all_split ?_ w_codes
  rw [← List.take_append_drop 24 words1, List.all_append, w_t1, w_t2]
  rfl
set_option maxRecDepth 65536 in
theorem w_case : (Jvm.Cond.and given_1 narrow_1).before args0 about1 = true := by decide +kernel
theorem w_applies : (headSpec (Jvm.Cond.code x code maxLocals ret :: tables_1) room_1).applies x e0.platform about1 = true :=
  (Spec.applies_iff w_frames).mpr ⟨w_running, w_runnable, w_alone, w_named, w_hears, w_ripe, w_room, w_tables⟩
theorem atStart : AtStart classFile x code maxLocals ret World_1 tables_1 room_1 Calls_1 rest_1 Pre_1 launch0 p0 e0 about1 theMethod args0 below0 :=
  ⟨lists_1, trivial, launch0.admits_env _ _ _, launch0.least_env, fairChoices_fair.cas, fairChoices_fair.clock, w_frames, w_args, w_heap, w_applies, trivial, trivial, w_case⟩
end start1
theorem witness_1 : WitnessClaimed_1 := ⟨start1.p0, start1.e0, start1.about1, start1.theMethod, start1.args0, start1.below0, start1.atStart⟩
end Jvm.Pilot.@@N@@
