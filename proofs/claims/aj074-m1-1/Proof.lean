import JvmDerived
import JvmDerived.Pilot.@@N@@Statement
import JvmDerived.Pilot.@@N@@Code
set_option linter.unusedVariables false
set_option linter.unusedSimpArgs false
namespace Jvm.RoadKit
open Sem ClassFile Op Lib Jvm.Stand Jvm.Free Jvm.LawKit
abbrev vI (x : Int32) : Slot := .val (.int x)
abbrev vJ (x : Int64) : Slot := .val (.long x)
abbrev vR (a : Addr) : Slot := .val (.ref a)
/-- from S0 the run comes to T with g on top -/
def Go (tb : Tables) (e : Env) (below : List Frame) (S0 T : State) (g : JFrame) : Prop := ∀ t, Steps tb e below (T.setTop g) t → Steps tb e below S0 t
theorem Go.fin {tb : Tables} {e : Env} {below : List Frame} {S0 S T t : State} {g : JFrame} (h : Go tb e below S0 T g) (q : S0 = S) (k : Steps tb e below (T.setTop g) t) : Steps tb e below S t := q ▸ h t k
section New
variable {p : Program} {l : Launch} {e : Env} {R : Room} {s : State} {m : MethodId} {args : Array Value} {below : List Frame} {meth : Method} {c : Code} {T : State} {locs : List Loc} {cells slots : Nat}
theorem retI (X : Stand p l e R s m args below meth c T locs cells slots) (hx : p.tables.exec = Jvm.exec) {pc : Nat} {Ls : Array Slot} {z : Int32} {rest : List Value} (hret : meth.sig.returnType = some .int) (hd : decode c.code pc = .ok (.ireturn, 1)) {fs : List Frame}
    (hl : ∀ (f : JFrame) (acts : List Action), f.method = m → f.locked = none → f.entered = [] → (doReturn e (T.setTop f) acts (some (.int z))).1 = T.setFrames fs) : Steps p.tables e below (T.setTop (mkF m pc Ls (.int z :: rest))) (T.setFrames fs) := by
  have hm' : T.vm.method? m = some meth := X.method'
  have hn : narrow .int (.int z) = .int z := rfl
  show Steps p.tables e below (T.setTop { method := m, pc := pc, locals := Ls, stack := _ :: rest, locked := none }) _
  jvm_step X.here [X.here.top, hx, hd, hm', hret, hn]
  first | (intro acts; rw [hl _ acts rfl rfl rfl]) | rw [hl _ _ rfl rfl rfl]
  exact Steps.refl _
end New
end Jvm.RoadKit
namespace Jvm.Pilot.@@N@@
open Jvm Jvm.ClassFile Sem Op Lib Jvm.Free Jvm.Stand Jvm.LawKit Jvm.RoadKit Bundle Jvm.Pilot.@@N@@.Jvm.D
def own_min (p0 : Int32) (p1 : Int32) : Int32 := if p1 < p0 then (p1) else (p0)
theorem ef_1 (m : MethodId) (x0 : Int32) (x1 : Int32) : entryFrame m #[(.int x0), (.int x1)] 2 = mkF m 0 #[.val (.int x0), .val (.int x1)] [] := by first | (simp [entryFrame, mkF, argsToLocals, Value.category]; done) | rfl
theorem d1_0 : decode jdk_29_method_69_code 0 = .ok (.iload_n 0, 1) := by decide +kernel
theorem d1_1 : decode jdk_29_method_69_code 1 = .ok (.iload_n 1, 1) := by decide +kernel
theorem d1_2 : decode jdk_29_method_69_code 2 = .ok (.if_icmp .gt 7, 3) := by decide +kernel
theorem d1_5 : decode jdk_29_method_69_code 5 = .ok (.iload_n 0, 1) := by decide +kernel
theorem d1_6 : decode jdk_29_method_69_code 6 = .ok (.goto 4, 3) := by decide +kernel
theorem d1_9 : decode jdk_29_method_69_code 9 = .ok (.iload_n 1, 1) := by decide +kernel
theorem d1_10 : decode jdk_29_method_69_code 10 = .ok (.ireturn, 1) := by decide +kernel
def Q1 (Z : State) (p0 : Int32) (p1 : Int32) (h0 : Heap) (n0 : Nat) (v : Option Value) (h : Heap) (L : List Loc) : Prop := v = some (.int (own_min p0 p1)) ∧ Fr n0 L ∧ h = h0
set_option maxRecDepth 65536 in
set_option maxHeartbeats 40000000 in
theorem rm1 (l : Launch) (Z : State) (A0 : Array Value) (hw : ∀ d ∈ tables_1, d.before A0 Z = true) (ws : List Jvm.Cond) (p0 : Int32) (p1 : Int32)  (h0 : Heap) (n0 : Nat) (Z0 : n0 ≤ h0.size)  :
    MetFree l (⟨"java/lang/Math", "min", "(II)I"⟩ : MethodName) (head1 (Jvm.Cond.code (⟨"java/lang/Math", "min", "(II)I"⟩ : MethodName) jdk_29_method_69_code 2 (some .int) :: ws) ({ frames := 0, cells := 0, slots := 0, locals := 0 } : Room)) (fun a U => a = #[(.int p0), (.int p1)] ∧ Z.Warmed39 U.vm ∧ U.heap = h0) (fun _ _ _ _ _ => True) (fun _ U o U' => ∃ v L, o = .returned v ∧ Q1 Z p0 p1 h0 n0 v U'.heap L ∧ FrameEnd U o U' L ({ frames := 0, cells := 0, slots := 0, locals := 0 } : Room).cells ({ frames := 0, cells := 0, slots := 0, locals := 0 } : Room).slots) := by
  refine MetFree.of_bodySF (Jvm.Free.JP.mathPlain rfl (by decide +kernel)) hisR ?_
  intro p e s m args below meth c s₁ Bd hml0 hP hK
  obtain ⟨rfl, hZ, hh⟩ := hP
  have hx := Bd.exec
  have hby := Bd.bytes
  have hml : c.maxLocals = 2 := hml0
  have hown : s.vm.findClass "java/lang/Math" = some m.cls := findClass_of_methodNamed Bd.named
  have hnm := (name_of_methodNamed Bd.named Bd.method).1
  have X0 : Stand p l e ({ frames := 0, cells := 0, slots := 0, locals := 0 } : Room) s m #[(.int p0), (.int p1)] below meth c s₁ [] 0 0 := Stand.of_body Bd
  have e0 : s₁.heap = h0 := by rw [← hh, Bd.state]; rfl
  have N0 := Fr.nil n0
  obtain ⟨S0, hS0⟩ : ∃ z, z = s₁.setTop (entryFrame m #[(.int p0), (.int p1)] 2) := ⟨_, rfl⟩
  have pre0 : Go p.tables e below S0 s₁ (mkF m 0 #[vI p0, vI p1] []) := fun t k => by rw [hS0]; exact castTop (ef_1 m p0 p1) k
  have pre1 : Go p.tables e below S0 s₁ (mkF m 2 #[vI p0, vI p1] [(.int p1), (.int p0)]) := fun t k => pre0 t (by
    refine XS.iloadN X0.here hx rfl (hb hby d1_0) rfl ?_
    show Steps p.tables e below (s₁.setTop (mkF m 1 #[vI p0, vI p1] [(.int p0)])) _
    refine XS.iloadN X0.here hx rfl (hb hby d1_1) rfl ?_
    show Steps p.tables e below (s₁.setTop (mkF m 2 #[vI p0, vI p1] [(.int p1), (.int p0)])) _
    exact k)
  by_cases c2_2 : p1 < p0
  · skip
    have pre3 : Go p.tables e below S0 s₁ (mkF m 10 #[vI p0, vI p1] [(.int p1)]) := fun t k => pre1 t (by
      refine XS.icmpYes X0.here hx rfl (pc0 := 2) (pc' := 9) rfl (hb hby d1_2) rfl (tlt c2_2).2.2.1 (by decide) (by decide) ?_
      show Steps p.tables e below (s₁.setTop (mkF m 9 #[vI p0, vI p1] [])) _
      refine XS.iloadN X0.here hx rfl (hb hby d1_9) rfl ?_
      show Steps p.tables e below (s₁.setTop (mkF m 10 #[vI p0, vI p1] [(.int p1)])) _
      exact k)
    obtain ⟨fs, hr, hrun, hended, hW, hsame⟩ := X0.leave (v := some (.int p1)) (fun h => by rw [Bd.returns] at h; cases h)
    exact ⟨_, _, pre3.fin hS0 (retI X0 hx Bd.returns (hb hby d1_10) hr), hrun, hended, _, _, rfl, (by
      show Q1 Z p0 p1 h0 n0 _ s₁.heap _
      rw [e0]
      exact ⟨congrArg (fun z => some (Value.int z)) (by simp [own_min, c2_2]), N0, rfl⟩), ⟨_, rfl⟩, hW, hsame.mono (by decide) (by decide)⟩
  · skip
    have pre4 : Go p.tables e below S0 s₁ (mkF m 10 #[vI p0, vI p1] [(.int p0)]) := fun t k => pre1 t (by
      refine XS.icmpNo X0.here hx rfl (hb hby d1_2) rfl (flt c2_2).2.2.1 ?_
      show Steps p.tables e below (s₁.setTop (mkF m 5 #[vI p0, vI p1] [])) _
      refine XS.iloadN X0.here hx rfl (hb hby d1_5) rfl ?_
      show Steps p.tables e below (s₁.setTop (mkF m 6 #[vI p0, vI p1] [(.int p0)])) _
      refine XS.goto X0.here hx rfl (pc0 := 6) (pc' := 10) rfl (hb hby d1_6) (by decide) (by decide) ?_
      show Steps p.tables e below (s₁.setTop (mkF m 10 #[vI p0, vI p1] [(.int p0)])) _
      exact k)
    obtain ⟨fs, hr, hrun, hended, hW, hsame⟩ := X0.leave (v := some (.int p0)) (fun h => by rw [Bd.returns] at h; cases h)
    exact ⟨_, _, pre4.fin hS0 (retI X0 hx Bd.returns (hb hby d1_10) hr), hrun, hended, _, _, rfl, (by
      show Q1 Z p0 p1 h0 n0 _ s₁.heap _
      rw [e0]
      exact ⟨congrArg (fun z => some (Value.int z)) (by simp [own_min, c2_2]), N0, rfl⟩), ⟨_, rfl⟩, hW, hsame.mono (by decide) (by decide)⟩
def own_max (p0 : Int32) (p1 : Int32) : Int32 := if p0 < p1 then (p1) else (p0)
theorem ef_2 (m : MethodId) (x0 : Int32) (x1 : Int32) : entryFrame m #[(.int x0), (.int x1)] 2 = mkF m 0 #[.val (.int x0), .val (.int x1)] [] := by first | (simp [entryFrame, mkF, argsToLocals, Value.category]; done) | rfl
theorem d2_0 : decode jdk_29_method_65_code 0 = .ok (.iload_n 0, 1) := by decide +kernel
theorem d2_1 : decode jdk_29_method_65_code 1 = .ok (.iload_n 1, 1) := by decide +kernel
theorem d2_2 : decode jdk_29_method_65_code 2 = .ok (.if_icmp .lt 7, 3) := by decide +kernel
theorem d2_5 : decode jdk_29_method_65_code 5 = .ok (.iload_n 0, 1) := by decide +kernel
theorem d2_6 : decode jdk_29_method_65_code 6 = .ok (.goto 4, 3) := by decide +kernel
theorem d2_9 : decode jdk_29_method_65_code 9 = .ok (.iload_n 1, 1) := by decide +kernel
theorem d2_10 : decode jdk_29_method_65_code 10 = .ok (.ireturn, 1) := by decide +kernel
def Q2 (Z : State) (p0 : Int32) (p1 : Int32) (h0 : Heap) (n0 : Nat) (v : Option Value) (h : Heap) (L : List Loc) : Prop := v = some (.int (own_max p0 p1)) ∧ Fr n0 L ∧ h = h0
set_option maxRecDepth 65536 in
set_option maxHeartbeats 40000000 in
theorem rm2 (l : Launch) (Z : State) (A0 : Array Value) (hw : ∀ d ∈ tables_1, d.before A0 Z = true) (ws : List Jvm.Cond) (p0 : Int32) (p1 : Int32)  (h0 : Heap) (n0 : Nat) (Z0 : n0 ≤ h0.size)  :
    MetFree l (⟨"java/lang/Math", "max", "(II)I"⟩ : MethodName) (head1 (Jvm.Cond.code (⟨"java/lang/Math", "max", "(II)I"⟩ : MethodName) jdk_29_method_65_code 2 (some .int) :: ws) ({ frames := 0, cells := 0, slots := 0, locals := 0 } : Room)) (fun a U => a = #[(.int p0), (.int p1)] ∧ Z.Warmed39 U.vm ∧ U.heap = h0) (fun _ _ _ _ _ => True) (fun _ U o U' => ∃ v L, o = .returned v ∧ Q2 Z p0 p1 h0 n0 v U'.heap L ∧ FrameEnd U o U' L ({ frames := 0, cells := 0, slots := 0, locals := 0 } : Room).cells ({ frames := 0, cells := 0, slots := 0, locals := 0 } : Room).slots) := by
  refine MetFree.of_bodySF (Jvm.Free.JP.mathPlain rfl (by decide +kernel)) hisR ?_
  intro p e s m args below meth c s₁ Bd hml0 hP hK
  obtain ⟨rfl, hZ, hh⟩ := hP
  have hx := Bd.exec
  have hby := Bd.bytes
  have hml : c.maxLocals = 2 := hml0
  have hown : s.vm.findClass "java/lang/Math" = some m.cls := findClass_of_methodNamed Bd.named
  have hnm := (name_of_methodNamed Bd.named Bd.method).1
  have X0 : Stand p l e ({ frames := 0, cells := 0, slots := 0, locals := 0 } : Room) s m #[(.int p0), (.int p1)] below meth c s₁ [] 0 0 := Stand.of_body Bd
  have e0 : s₁.heap = h0 := by rw [← hh, Bd.state]; rfl
  have N0 := Fr.nil n0
  obtain ⟨S0, hS0⟩ : ∃ z, z = s₁.setTop (entryFrame m #[(.int p0), (.int p1)] 2) := ⟨_, rfl⟩
  have pre0 : Go p.tables e below S0 s₁ (mkF m 0 #[vI p0, vI p1] []) := fun t k => by rw [hS0]; exact castTop (ef_2 m p0 p1) k
  have pre1 : Go p.tables e below S0 s₁ (mkF m 2 #[vI p0, vI p1] [(.int p1), (.int p0)]) := fun t k => pre0 t (by
    refine XS.iloadN X0.here hx rfl (hb hby d2_0) rfl ?_
    show Steps p.tables e below (s₁.setTop (mkF m 1 #[vI p0, vI p1] [(.int p0)])) _
    refine XS.iloadN X0.here hx rfl (hb hby d2_1) rfl ?_
    show Steps p.tables e below (s₁.setTop (mkF m 2 #[vI p0, vI p1] [(.int p1), (.int p0)])) _
    exact k)
  by_cases c2_2 : p0 < p1
  · skip
    have pre3 : Go p.tables e below S0 s₁ (mkF m 10 #[vI p0, vI p1] [(.int p1)]) := fun t k => pre1 t (by
      refine XS.icmpYes X0.here hx rfl (pc0 := 2) (pc' := 9) rfl (hb hby d2_2) rfl (tlt c2_2).1 (by decide) (by decide) ?_
      show Steps p.tables e below (s₁.setTop (mkF m 9 #[vI p0, vI p1] [])) _
      refine XS.iloadN X0.here hx rfl (hb hby d2_9) rfl ?_
      show Steps p.tables e below (s₁.setTop (mkF m 10 #[vI p0, vI p1] [(.int p1)])) _
      exact k)
    obtain ⟨fs, hr, hrun, hended, hW, hsame⟩ := X0.leave (v := some (.int p1)) (fun h => by rw [Bd.returns] at h; cases h)
    exact ⟨_, _, pre3.fin hS0 (retI X0 hx Bd.returns (hb hby d2_10) hr), hrun, hended, _, _, rfl, (by
      show Q2 Z p0 p1 h0 n0 _ s₁.heap _
      rw [e0]
      exact ⟨congrArg (fun z => some (Value.int z)) (by simp [own_max, c2_2]), N0, rfl⟩), ⟨_, rfl⟩, hW, hsame.mono (by decide) (by decide)⟩
  · skip
    have pre4 : Go p.tables e below S0 s₁ (mkF m 10 #[vI p0, vI p1] [(.int p0)]) := fun t k => pre1 t (by
      refine XS.icmpNo X0.here hx rfl (hb hby d2_2) rfl (flt c2_2).1 ?_
      show Steps p.tables e below (s₁.setTop (mkF m 5 #[vI p0, vI p1] [])) _
      refine XS.iloadN X0.here hx rfl (hb hby d2_5) rfl ?_
      show Steps p.tables e below (s₁.setTop (mkF m 6 #[vI p0, vI p1] [(.int p0)])) _
      refine XS.goto X0.here hx rfl (pc0 := 6) (pc' := 10) rfl (hb hby d2_6) (by decide) (by decide) ?_
      show Steps p.tables e below (s₁.setTop (mkF m 10 #[vI p0, vI p1] [(.int p0)])) _
      exact k)
    obtain ⟨fs, hr, hrun, hended, hW, hsame⟩ := X0.leave (v := some (.int p0)) (fun h => by rw [Bd.returns] at h; cases h)
    exact ⟨_, _, pre4.fin hS0 (retI X0 hx Bd.returns (hb hby d2_10) hr), hrun, hended, _, _, rfl, (by
      show Q2 Z p0 p1 h0 n0 _ s₁.heap _
      rw [e0]
      exact ⟨congrArg (fun z => some (Value.int z)) (by simp [own_max, c2_2]), N0, rfl⟩), ⟨_, rfl⟩, hW, hsame.mono (by decide) (by decide)⟩
theorem ef_4 (m : MethodId) (x0 : Addr) : entryFrame m #[(.ref x0)] 1 = mkF m 0 #[.val (.ref x0)] [] := by first | (simp [entryFrame, mkF, argsToLocals, Value.category]; done) | rfl
theorem pn_0 : plainName "java/lang/Record" = true := by first | (simp [plainName, overriddenIn]; done) | decide +kernel
theorem d4_0 : decode jdk_30_method_1_code 0 = .ok (.aload_n 0, 1) := by decide +kernel
theorem d4_1 : decode jdk_30_method_1_code 1 = .ok (.invokespecial 1, 3) := by decide +kernel
theorem d4_4 : decode jdk_30_method_1_code 4 = .ok (.return_, 1) := by decide +kernel
def Q4 (Z : State) (a0 : Addr) (h0 : Heap) (n0 : Nat) (v : Option Value) (h : Heap) (L : List Loc) : Prop := v = none ∧ Fr n0 L ∧ h = h0
set_option maxRecDepth 65536 in
set_option maxHeartbeats 40000000 in
theorem rm4 (l : Launch) (Z : State) (A0 : Array Value) (hw : ∀ d ∈ tables_1, d.before A0 Z = true) (ws : List Jvm.Cond) (a0 : Addr)  (h0 : Heap) (n0 : Nat) (Z0 : n0 ≤ h0.size)  :
    MetFree l (⟨"java/lang/Record", "<init>", "()V"⟩ : MethodName) (head1 (Jvm.Cond.code (⟨"java/lang/Record", "<init>", "()V"⟩ : MethodName) jdk_30_method_1_code 1 none :: ws) ({ frames := 1, cells := 0, slots := 0, locals := 12 } : Room)) (fun a U => a = #[(.ref a0)] ∧ Z.Warmed39 U.vm ∧ U.heap = h0) (fun _ _ _ _ _ => True) (fun _ U o U' => ∃ v L, o = .returned v ∧ Q4 Z a0 h0 n0 v U'.heap L ∧ FrameEnd U o U' L ({ frames := 1, cells := 0, slots := 0, locals := 12 } : Room).cells ({ frames := 1, cells := 0, slots := 0, locals := 12 } : Room).slots) := by
  refine MetFree.of_bodySF (plainFor_of_name pn_0) hisR ?_
  intro p e s m args below meth c s₁ Bd hml0 hP hK
  obtain ⟨rfl, hZ, hh⟩ := hP
  have hx := Bd.exec
  have hby := Bd.bytes
  have hml : c.maxLocals = 1 := hml0
  have hown : s.vm.findClass "java/lang/Record" = some m.cls := findClass_of_methodNamed Bd.named
  have hnm := (name_of_methodNamed Bd.named Bd.method).1
  have X0 : Stand p l e ({ frames := 1, cells := 0, slots := 0, locals := 12 } : Room) s m #[(.ref a0)] below meth c s₁ [] 0 0 := Stand.of_body Bd
  have e0 : s₁.heap = h0 := by rw [← hh, Bd.state]; rfl
  have N0 := Fr.nil n0
  obtain ⟨S0, hS0⟩ : ∃ z, z = s₁.setTop (entryFrame m #[(.ref a0)] 1) := ⟨_, rfl⟩
  have pre0 : Go p.tables e below S0 s₁ (mkF m 0 #[vR a0] []) := fun t k => by rw [hS0]; exact castTop (ef_4 m a0) k
  have pre1 : Go p.tables e below S0 s₁ (mkF m 1 #[vR a0] [(.ref a0)]) := fun t k => pre0 t (by
    refine XS.aloadN X0.here hx rfl (hb hby d4_0) rfl rfl ?_
    show Steps p.tables e below (s₁.setTop (mkF m 1 #[vR a0] [(.ref a0)])) _
    exact k)
  obtain ⟨T2, X2, e2, st2⟩ := initO X0 hx hZ hown (hw _ (List.mem_of_getElem? (i := 21) rfl)) (hw _ (List.mem_of_getElem? (i := 22) rfl)) (hw _ (List.mem_of_getElem? (i := 23) rfl)) e0 (g := (mkF m 1 #[vR a0] [(.ref a0)])) rfl (by rw [hml]; rfl) rfl (hb hby d4_1) (by decide) (W := 0) (by show 2 * 0 + _ ≤ _; exact Nat.le_of_eq rfl) (by decide)
  have pre2 : Go p.tables e below S0 T2 (mkF m 4 #[vR a0] []) := fun t k => pre1 t (st2 t k)
  obtain ⟨fs, hr, hrun, hended, hW, hsame⟩ := X2.leave (v := none) (fun _ => rfl)
  exact ⟨_, _, pre2.fin hS0 (X2.returnOut hx Bd.returns (hb hby d4_4) hr), hrun, hended, _, _, rfl, (by
    show Q4 Z a0 h0 n0 _ T2.heap _
    rw [e2]
    exact ⟨rfl, N0, rfl⟩), ⟨_, rfl⟩, hW, hsame.mono (by decide) (by decide)⟩
theorem ef_3 (m : MethodId) (x0 : Addr) (x1 : Addr) : entryFrame m #[(.ref x0), (.ref x1)] 2 = mkF m 0 #[.val (.ref x0), .val (.ref x1)] [] := by first | (simp [entryFrame, mkF, argsToLocals, Value.category]; done) | rfl
theorem pn_1 : plainName "com/example/attest/attest/metadata/ScopeSyntax$Chars" = true := by first | (simp [plainName, overriddenIn]; done) | decide +kernel
theorem pd_0 : parseMethodDescriptor "()V" = some ⟨[], none⟩ := by decide +kernel
theorem d3_0 : decode prog_52_method_1_code 0 = .ok (.aload_n 0, 1) := by decide +kernel
theorem d3_1 : decode prog_52_method_1_code 1 = .ok (.invokespecial 1, 3) := by decide +kernel
theorem d3_4 : decode prog_52_method_1_code 4 = .ok (.aload_n 0, 1) := by decide +kernel
theorem d3_5 : decode prog_52_method_1_code 5 = .ok (.aload_n 1, 1) := by decide +kernel
theorem d3_6 : decode prog_52_method_1_code 6 = .ok (.putfield 7, 3) := by decide +kernel
theorem d3_9 : decode prog_52_method_1_code 9 = .ok (.return_, 1) := by decide +kernel
def Q3 (Z : State) (a0 : Addr) (r1 : Addr) (h0 : Heap) (n0 : Nat) (v : Option Value) (h : Heap) (L : List Loc) : Prop := v = none ∧ Fr n0 L ∧ Keep h0 h [a0] ∧ (Exa Z h a0 "com/example/attest/attest/metadata/ScopeSyntax$Chars") ∧ (Fld Z h a0 "com/example/attest/attest/metadata/ScopeSyntax$Chars" "ranges" "[I" (.ref r1))
set_option maxRecDepth 65536 in
set_option maxHeartbeats 40000000 in
theorem rm3 (l : Launch) (Z : State) (A0 : Array Value) (hw : ∀ d ∈ tables_1, d.before A0 Z = true) (ws : List Jvm.Cond) (a0 : Addr) (r1 : Addr)  (h0 : Heap) (n0 : Nat) (Z0 : n0 ≤ h0.size) (E0 : Exa Z h0 a0 "com/example/attest/attest/metadata/ScopeSyntax$Chars") (F_ranges : Fld Z h0 a0 "com/example/attest/attest/metadata/ScopeSyntax$Chars" "ranges" "[I" .null) (g0 : n0 ≤ a0) :
    MetFree l (⟨"com/example/attest/attest/metadata/ScopeSyntax$Chars", "<init>", "([I)V"⟩ : MethodName) (head1 (Jvm.Cond.code (⟨"com/example/attest/attest/metadata/ScopeSyntax$Chars", "<init>", "([I)V"⟩ : MethodName) prog_52_method_1_code 2 none :: ws) ({ frames := 2, cells := 0, slots := 0, locals := 24 } : Room)) (fun a U => a = #[(.ref a0), (.ref r1)] ∧ Z.Warmed39 U.vm ∧ U.heap = h0) (fun _ _ _ _ _ => True) (fun _ U o U' => ∃ v L, o = .returned v ∧ Q3 Z a0 r1 h0 n0 v U'.heap L ∧ FrameEnd U o U' L ({ frames := 2, cells := 0, slots := 0, locals := 24 } : Room).cells ({ frames := 2, cells := 0, slots := 0, locals := 24 } : Room).slots) := by
  refine MetFree.of_bodySF (plainFor_of_name pn_1) hisR ?_
  intro p e s m args below meth c s₁ Bd hml0 hP hK
  obtain ⟨rfl, hZ, hh⟩ := hP
  have hx := Bd.exec
  have hby := Bd.bytes
  have hml : c.maxLocals = 2 := hml0
  have hown : s.vm.findClass "com/example/attest/attest/metadata/ScopeSyntax$Chars" = some m.cls := findClass_of_methodNamed Bd.named
  have hnm := (name_of_methodNamed Bd.named Bd.method).1
  have X0 : Stand p l e ({ frames := 2, cells := 0, slots := 0, locals := 24 } : Room) s m #[(.ref a0), (.ref r1)] below meth c s₁ [] 0 0 := Stand.of_body Bd
  have e0 : s₁.heap = h0 := by rw [← hh, Bd.state]; rfl
  have N0 := Fr.nil n0
  have kp0 : Keep h0 h0 [a0] := Keep.refl _ _
  obtain ⟨S0, hS0⟩ : ∃ z, z = s₁.setTop (entryFrame m #[(.ref a0), (.ref r1)] 2) := ⟨_, rfl⟩
  have pre0 : Go p.tables e below S0 s₁ (mkF m 0 #[vR a0, vR r1] []) := fun t k => by rw [hS0]; exact castTop (ef_3 m a0 r1) k
  have pre1 : Go p.tables e below S0 s₁ (mkF m 1 #[vR a0, vR r1] [(.ref a0)]) := fun t k => pre0 t (by
    refine XS.aloadN X0.here hx rfl (hb hby d3_0) rfl rfl ?_
    show Steps p.tables e below (s₁.setTop (mkF m 1 #[vR a0, vR r1] [(.ref a0)])) _
    exact k)
  obtain ⟨_, _, ⟨T2, qL2, qk2, qn2⟩, -, X2, ⟨Lc2, hQ2, ql2, qy2, qz2⟩, st2⟩ := X0.specialBack hx (y := (⟨"java/lang/Record", "<init>", "()V"⟩ : MethodName)) rfl hown (mvT hZ (hw _ (List.mem_of_getElem? (i := 16) rfl))) (mvT hZ (hw _ (List.mem_of_getElem? (i := 17) rfl))) (mvT hZ (hw _ (List.mem_of_getElem? (i := 20) rfl))) (by decide) (backOf (W := 0) (rm4 l Z A0 hw [] a0 h0 n0 Z0) hZ (hw _ (List.mem_of_getElem? (i := 20) rfl)) (hw _ (List.mem_of_getElem? (i := 19) rfl)) (by decide) (by decide)) (g := (mkF m 1 #[vR a0, vR r1] [(.ref a0)])) rfl (by rw [hml]; rfl) (Steps.refl _) (a := a0) (argsL := []) (rest := []) (lenOf pd_0 rfl) rfl (by show 2 * 0 + _ ≤ _; exact Nat.le_of_eq rfl) (hb hby d3_1) (fun _ _ => ⟨rfl, e0, (by decide : 0 + 0 ≤ _), (by decide : 0 + 0 ≤ _)⟩)
  dsimp only [Pt.U, Pt.locs, Pt.cells, Pt.slots] at X2 ql2 qy2 qz2 st2 hQ2
  subst ql2 qy2 qz2
  obtain ⟨rfl, Nq2, eq2⟩ := hQ2
  have N2 := Fr.app N0 Nq2
  have pre2 : Go p.tables e below S0 T2 (mkF m 4 #[vR a0, vR r1] []) := fun t k => pre1 t (st2.trans k)
  have pre3 : Go p.tables e below S0 T2 (mkF m 6 #[vR a0, vR r1] [(.ref r1), (.ref a0)]) := fun t k => pre2 t (by
    refine XS.aloadN X2.here hx rfl (hb hby d3_4) rfl rfl ?_
    show Steps p.tables e below (T2.setTop (mkF m 5 #[vR a0, vR r1] [(.ref a0)])) _
    refine XS.aloadN X2.here hx rfl (hb hby d3_5) rfl rfl ?_
    show Steps p.tables e below (T2.setTop (mkF m 6 #[vR a0, vR r1] [(.ref r1), (.ref a0)])) _
    exact k)
  obtain ⟨T4, h4, X4, e4, W4, st4⟩ := putF X2 hx hZ hown (host := "") (Or.inl (hw _ (List.mem_of_getElem? (i := 24) rfl))) Via.refl eq2 F_ranges E0 (Or.inr ⟨(hw _ (List.mem_of_getElem? (i := 25) rfl)), rfl, hnm⟩) (hw _ (List.mem_of_getElem? (i := 11) rfl)) (ty := (.array .int)) (by decide) rfl rfl (g := (mkF m 6 #[vR a0, vR r1] [(.ref r1), (.ref a0)])) rfl rfl (hb hby d3_6)
  have pre4 : Go p.tables e below S0 T4 (mkF m 9 #[vR a0, vR r1] []) := fun t k => pre3 t (st4 t k)
  have N4 := Fr.snoc X4 N2 g0
  have fw4 : Fld Z h4 a0 "com/example/attest/attest/metadata/ScopeSyntax$Chars" "ranges" "[I" (.ref r1) := Fld.same W4 F_ranges
  have f5_1 := Exa.wr W4 E0
  have zz6 : n0 ≤ h4.size := Nat.le_trans Z0 (Keep.of_wr W4).1
  have kp7 : Keep h0 h4 [a0] := kp0.wr W4 (Or.inl (List.mem_of_getElem? (i := 0) rfl))
  obtain ⟨fs, hr, hrun, hended, hW, hsame⟩ := X4.leave (v := none) (fun _ => rfl)
  exact ⟨_, _, pre4.fin hS0 (X4.returnOut hx Bd.returns (hb hby d3_9) hr), hrun, hended, _, _, rfl, (by
    show Q3 Z a0 r1 h0 n0 _ T4.heap _
    rw [e4]
    exact ⟨rfl, N4, kp7, f5_1, fw4⟩), ⟨_, rfl⟩, hW, hsame.mono (by decide) (by decide)⟩
def own_in0 (c  : Int32) : Int32 := 0
def own_in1 (c x0 x1 : Int32) : Int32 := if (¬ c < x0 ∧ ¬ x1 < c) then 1 else 0
def own_in2 (c x0 x1 x2 x3 : Int32) : Int32 := if (¬ c < x0 ∧ ¬ x1 < c) ∨ (¬ c < x2 ∧ ¬ x3 < c) then 1 else 0
def own_in3 (c x0 x1 x2 x3 x4 x5 : Int32) : Int32 := if (¬ c < x0 ∧ ¬ x1 < c) ∨ (¬ c < x2 ∧ ¬ x3 < c) ∨ (¬ c < x4 ∧ ¬ x5 < c) then 1 else 0
def own_in4 (c x0 x1 x2 x3 x4 x5 x6 x7 : Int32) : Int32 := if (¬ c < x0 ∧ ¬ x1 < c) ∨ (¬ c < x2 ∧ ¬ x3 < c) ∨ (¬ c < x4 ∧ ¬ x5 < c) ∨ (¬ c < x6 ∧ ¬ x7 < c) then 1 else 0
theorem ef_6_0 (m : MethodId) (x0 : Addr) (x1 : Int32) : entryFrame m #[(.ref x0), (.int x1)] 6 = mkF m 0 #[.val (.ref x0), .val (.int x1), .unset, .unset, .unset, .unset] [] := by first | (simp [entryFrame, mkF, argsToLocals, Value.category]; done) | rfl
theorem d6_0 : decode prog_52_method_3_code 0 = .ok (.iconst 0, 1) := by decide +kernel
theorem d6_1 : decode prog_52_method_3_code 1 = .ok (.istore_n 2, 1) := by decide +kernel
theorem d6_2 : decode prog_52_method_3_code 2 = .ok (.aload_n 0, 1) := by decide +kernel
theorem d6_3 : decode prog_52_method_3_code 3 = .ok (.getfield 7, 3) := by decide +kernel
theorem d6_6 : decode prog_52_method_3_code 6 = .ok (.arraylength, 1) := by decide +kernel
theorem d6_7 : decode prog_52_method_3_code 7 = .ok (.iconst 2, 1) := by decide +kernel
theorem d6_8 : decode prog_52_method_3_code 8 = .ok (.idiv, 1) := by decide +kernel
theorem d6_9 : decode prog_52_method_3_code 9 = .ok (.iconst 1, 1) := by decide +kernel
theorem d6_10 : decode prog_52_method_3_code 10 = .ok (.isub, 1) := by decide +kernel
theorem d6_11 : decode prog_52_method_3_code 11 = .ok (.istore_n 3, 1) := by decide +kernel
theorem d6_12 : decode prog_52_method_3_code 12 = .ok (.iconst 0, 1) := by decide +kernel
theorem d6_13 : decode prog_52_method_3_code 13 = .ok (.istore 4, 2) := by decide +kernel
theorem d6_15 : decode prog_52_method_3_code 15 = .ok (.iload 4, 2) := by decide +kernel
theorem d6_17 : decode prog_52_method_3_code 17 = .ok (.ifCond .ne 65, 3) := by decide +kernel
theorem d6_20 : decode prog_52_method_3_code 20 = .ok (.iload_n 2, 1) := by decide +kernel
theorem d6_21 : decode prog_52_method_3_code 21 = .ok (.iload_n 3, 1) := by decide +kernel
theorem d6_22 : decode prog_52_method_3_code 22 = .ok (.if_icmp .gt 60, 3) := by decide +kernel
theorem d6_82 : decode prog_52_method_3_code 82 = .ok (.iload 4, 2) := by decide +kernel
theorem d6_84 : decode prog_52_method_3_code 84 = .ok (.ireturn, 1) := by decide +kernel
def Q6_0 (Z : State) (a0 : Addr) (p1 : Int32) (r : Addr) (k0 : ClassId)  (h0 : Heap) (n0 : Nat) (v : Option Value) (h : Heap) (L : List Loc) : Prop := v = some (.int (own_in0 p1 )) ∧ Fr n0 L ∧ h = h0
set_option maxRecDepth 65536 in
set_option maxHeartbeats 40000000 in
theorem rm6_0 (l : Launch) (Z : State) (A0 : Array Value) (hw : ∀ d ∈ tables_1, d.before A0 Z = true) (ws : List Jvm.Cond) (a0 : Addr) (p1 : Int32) (r : Addr) (k0 : ClassId)  (h0 : Heap) (n0 : Nat) (Z0 : n0 ≤ h0.size) (F0 : Fld Z h0 a0 "com/example/attest/attest/metadata/ScopeSyntax$Chars" "ranges" "[I" (.ref r)) (V0 : Arv Z h0 r k0 .int (0 : Int32) [] (.int (0 : Int32))) :
    MetFree l (⟨"com/example/attest/attest/metadata/ScopeSyntax$Chars", "contains", "(I)Z"⟩ : MethodName) (head1 (Jvm.Cond.code (⟨"com/example/attest/attest/metadata/ScopeSyntax$Chars", "contains", "(I)Z"⟩ : MethodName) prog_52_method_3_code 6 (some .boolean) :: ws) ({ frames := 0, cells := 0, slots := 0, locals := 0 } : Room)) (fun a U => a = #[(.ref a0), (.int p1)] ∧ Z.Warmed39 U.vm ∧ U.heap = h0) (fun _ _ _ _ _ => True) (fun _ U o U' => ∃ v L, o = .returned v ∧ Q6_0 Z a0 p1 r k0 h0 n0 v U'.heap L ∧ FrameEnd U o U' L ({ frames := 0, cells := 0, slots := 0, locals := 0 } : Room).cells ({ frames := 0, cells := 0, slots := 0, locals := 0 } : Room).slots) := by
  refine MetFree.of_bodySF (plainFor_of_name pn_1) hisR ?_
  intro p e s m args below meth c s₁ Bd hml0 hP hK
  obtain ⟨rfl, hZ, hh⟩ := hP
  have hx := Bd.exec
  have hby := Bd.bytes
  have hml : c.maxLocals = 6 := hml0
  have hown : s.vm.findClass "com/example/attest/attest/metadata/ScopeSyntax$Chars" = some m.cls := findClass_of_methodNamed Bd.named
  have hnm := (name_of_methodNamed Bd.named Bd.method).1
  have X0 : Stand p l e ({ frames := 0, cells := 0, slots := 0, locals := 0 } : Room) s m #[(.ref a0), (.int p1)] below meth c s₁ [] 0 0 := Stand.of_body Bd
  have e0 : s₁.heap = h0 := by rw [← hh, Bd.state]; rfl
  have N0 := Fr.nil n0
  obtain ⟨S0, hS0⟩ : ∃ z, z = s₁.setTop (entryFrame m #[(.ref a0), (.int p1)] 6) := ⟨_, rfl⟩
  have pre0 : Go p.tables e below S0 s₁ (mkF m 0 #[vR a0, vI p1, .unset, .unset, .unset, .unset] []) := fun t k => by rw [hS0]; exact castTop (ef_6_0 m a0 p1) k
  have pre1 : Go p.tables e below S0 s₁ (mkF m 3 #[vR a0, vI p1, vI (0 : Int32), .unset, .unset, .unset] [(.ref a0)]) := fun t k => pre0 t (by
    refine XS.iconst X0.here hx rfl (hb hby d6_0) ?_
    show Steps p.tables e below (s₁.setTop (mkF m 1 #[vR a0, vI p1, .unset, .unset, .unset, .unset] [(.int (0 : Int32))])) _
    refine XS.istoreN X0.here hx rfl (hb hby d6_1) rfl (l' := #[vR a0, vI p1, vI (0 : Int32), .unset, .unset, .unset]) rfl ?_
    show Steps p.tables e below (s₁.setTop (mkF m 2 #[vR a0, vI p1, vI (0 : Int32), .unset, .unset, .unset] [])) _
    refine XS.aloadN X0.here hx rfl (hb hby d6_2) rfl rfl ?_
    show Steps p.tables e below (s₁.setTop (mkF m 3 #[vR a0, vI p1, vI (0 : Int32), .unset, .unset, .unset] [(.ref a0)])) _
    exact k)
  obtain ⟨T2, X2, e2, st2⟩ := getF X0 hx hZ hown (host := "") (Or.inl (hw _ (List.mem_of_getElem? (i := 24) rfl))) Via.refl e0 F0 (g := (mkF m 3 #[vR a0, vI p1, vI (0 : Int32), .unset, .unset, .unset] [(.ref a0)])) rfl rfl (hb hby d6_3)
  have pre2 : Go p.tables e below S0 T2 (mkF m 6 #[vR a0, vI p1, vI (0 : Int32), .unset, .unset, .unset] [(.ref r)]) := fun t k => pre1 t (st2 t k)
  obtain ⟨cl3, Ar3, q3, S3, M3, H3, G3⟩ := id V0
  have pre4 : Go p.tables e below S0 T2 (mkF m 84 #[vR a0, vI p1, vI (0 : Int32), vI (-1 : Int32), vI (0 : Int32), .unset] [(.int (0 : Int32))]) := fun t k => pre2 t (by
    refine X2.arraylength hx (by rw [e2]; exact Ar3.1) (State.isArrayOf_alike hZ.alike Ar3.2.1) (g := (mkF m 6 #[vR a0, vI p1, vI (0 : Int32), .unset, .unset, .unset] [(.ref r)])) rfl rfl (hb hby d6_6) _ ?_
    rw [len_of S3 M3]
    show Steps p.tables e below (T2.setTop (mkF m 7 #[vR a0, vI p1, vI (0 : Int32), .unset, .unset, .unset] [(.int (0 : Int32))])) _
    refine XS.iconst X2.here hx rfl (hb hby d6_7) ?_
    show Steps p.tables e below (T2.setTop (mkF m 8 #[vR a0, vI p1, vI (0 : Int32), .unset, .unset, .unset] [(.int (2 : Int32)), (.int (0 : Int32))])) _
    refine XS.idiv X2.here hx rfl (hb hby d6_8) rfl (by decide) ?_
    show Steps p.tables e below (T2.setTop (mkF m 9 #[vR a0, vI p1, vI (0 : Int32), .unset, .unset, .unset] [(.int (0 : Int32))])) _
    refine XS.iconst X2.here hx rfl (hb hby d6_9) ?_
    show Steps p.tables e below (T2.setTop (mkF m 10 #[vR a0, vI p1, vI (0 : Int32), .unset, .unset, .unset] [(.int (1 : Int32)), (.int (0 : Int32))])) _
    refine XS.isub X2.here hx rfl (hb hby d6_10) rfl ?_
    show Steps p.tables e below (T2.setTop (mkF m 11 #[vR a0, vI p1, vI (0 : Int32), .unset, .unset, .unset] [(.int (-1 : Int32))])) _
    refine XS.istoreN X2.here hx rfl (hb hby d6_11) rfl (l' := #[vR a0, vI p1, vI (0 : Int32), vI (-1 : Int32), .unset, .unset]) rfl ?_
    show Steps p.tables e below (T2.setTop (mkF m 12 #[vR a0, vI p1, vI (0 : Int32), vI (-1 : Int32), .unset, .unset] [])) _
    refine XS.iconst X2.here hx rfl (hb hby d6_12) ?_
    show Steps p.tables e below (T2.setTop (mkF m 13 #[vR a0, vI p1, vI (0 : Int32), vI (-1 : Int32), .unset, .unset] [(.int (0 : Int32))])) _
    refine XS.istore X2.here hx rfl (hb hby d6_13) rfl (l' := #[vR a0, vI p1, vI (0 : Int32), vI (-1 : Int32), vI (0 : Int32), .unset]) rfl ?_
    show Steps p.tables e below (T2.setTop (mkF m 15 #[vR a0, vI p1, vI (0 : Int32), vI (-1 : Int32), vI (0 : Int32), .unset] [])) _
    refine XS.iload X2.here hx rfl (hb hby d6_15) rfl ?_
    show Steps p.tables e below (T2.setTop (mkF m 17 #[vR a0, vI p1, vI (0 : Int32), vI (-1 : Int32), vI (0 : Int32), .unset] [(.int (0 : Int32))])) _
    refine XS.ifNo X2.here hx rfl (hb hby d6_17) rfl ((if0 _ _).trans (teq (rfl : (0 : Int32) = (0 : Int32))).2) ?_
    show Steps p.tables e below (T2.setTop (mkF m 20 #[vR a0, vI p1, vI (0 : Int32), vI (-1 : Int32), vI (0 : Int32), .unset] [])) _
    refine XS.iloadN X2.here hx rfl (hb hby d6_20) rfl ?_
    show Steps p.tables e below (T2.setTop (mkF m 21 #[vR a0, vI p1, vI (0 : Int32), vI (-1 : Int32), vI (0 : Int32), .unset] [(.int (0 : Int32))])) _
    refine XS.iloadN X2.here hx rfl (hb hby d6_21) rfl ?_
    show Steps p.tables e below (T2.setTop (mkF m 22 #[vR a0, vI p1, vI (0 : Int32), vI (-1 : Int32), vI (0 : Int32), .unset] [(.int (-1 : Int32)), (.int (0 : Int32))])) _
    refine XS.icmpYes X2.here hx rfl (pc0 := 22) (pc' := 82) rfl (hb hby d6_22) rfl (tlt (by decide : (-1 : Int32) < (0 : Int32))).2.2.1 (by decide) (by decide) ?_
    show Steps p.tables e below (T2.setTop (mkF m 82 #[vR a0, vI p1, vI (0 : Int32), vI (-1 : Int32), vI (0 : Int32), .unset] [])) _
    refine XS.iload X2.here hx rfl (hb hby d6_82) rfl ?_
    show Steps p.tables e below (T2.setTop (mkF m 84 #[vR a0, vI p1, vI (0 : Int32), vI (-1 : Int32), vI (0 : Int32), .unset] [(.int (0 : Int32))])) _
    exact k)
  obtain ⟨fs, hr, hrun, hended, hW, hsame⟩ := X2.leave (v := some (.int (0 : Int32))) (fun h => by rw [Bd.returns] at h; cases h)
  exact ⟨_, _, pre4.fin hS0 (retN X2 hx (t := .boolean) Bd.returns (by simp) (hb hby d6_84) hr), hrun, hended, _, _, rfl, (by
    show Q6_0 Z a0 p1 r k0 h0 n0 _ T2.heap _
    rw [e2]
    exact ⟨rfl, N0, rfl⟩), ⟨_, rfl⟩, hW, hsame.mono (by decide) (by decide)⟩
theorem ef_6_1 (m : MethodId) (x0 : Addr) (x1 : Int32) : entryFrame m #[(.ref x0), (.int x1)] 6 = mkF m 0 #[.val (.ref x0), .val (.int x1), .unset, .unset, .unset, .unset] [] := by first | (simp [entryFrame, mkF, argsToLocals, Value.category]; done) | rfl
theorem d6_25 : decode prog_52_method_3_code 25 = .ok (.iload_n 2, 1) := by decide +kernel
theorem d6_26 : decode prog_52_method_3_code 26 = .ok (.iload_n 3, 1) := by decide +kernel
theorem d6_27 : decode prog_52_method_3_code 27 = .ok (.iadd, 1) := by decide +kernel
theorem d6_28 : decode prog_52_method_3_code 28 = .ok (.iconst 1, 1) := by decide +kernel
theorem d6_29 : decode prog_52_method_3_code 29 = .ok (.iushr, 1) := by decide +kernel
theorem d6_30 : decode prog_52_method_3_code 30 = .ok (.istore 5, 2) := by decide +kernel
theorem d6_32 : decode prog_52_method_3_code 32 = .ok (.iload_n 1, 1) := by decide +kernel
theorem d6_33 : decode prog_52_method_3_code 33 = .ok (.aload_n 0, 1) := by decide +kernel
theorem d6_34 : decode prog_52_method_3_code 34 = .ok (.getfield 7, 3) := by decide +kernel
theorem d6_37 : decode prog_52_method_3_code 37 = .ok (.iconst 2, 1) := by decide +kernel
theorem d6_38 : decode prog_52_method_3_code 38 = .ok (.iload 5, 2) := by decide +kernel
theorem d6_40 : decode prog_52_method_3_code 40 = .ok (.imul, 1) := by decide +kernel
theorem d6_41 : decode prog_52_method_3_code 41 = .ok (.iaload, 1) := by decide +kernel
theorem d6_42 : decode prog_52_method_3_code 42 = .ok (.if_icmp .ge 11, 3) := by decide +kernel
theorem d6_45 : decode prog_52_method_3_code 45 = .ok (.iload 5, 2) := by decide +kernel
theorem d6_47 : decode prog_52_method_3_code 47 = .ok (.iconst 1, 1) := by decide +kernel
theorem d6_48 : decode prog_52_method_3_code 48 = .ok (.isub, 1) := by decide +kernel
theorem d6_49 : decode prog_52_method_3_code 49 = .ok (.istore_n 3, 1) := by decide +kernel
theorem d6_50 : decode prog_52_method_3_code 50 = .ok (.goto 29, 3) := by decide +kernel
theorem d6_53 : decode prog_52_method_3_code 53 = .ok (.iload_n 1, 1) := by decide +kernel
theorem d6_54 : decode prog_52_method_3_code 54 = .ok (.aload_n 0, 1) := by decide +kernel
theorem d6_55 : decode prog_52_method_3_code 55 = .ok (.getfield 7, 3) := by decide +kernel
theorem d6_58 : decode prog_52_method_3_code 58 = .ok (.iconst 2, 1) := by decide +kernel
theorem d6_59 : decode prog_52_method_3_code 59 = .ok (.iload 5, 2) := by decide +kernel
theorem d6_61 : decode prog_52_method_3_code 61 = .ok (.imul, 1) := by decide +kernel
theorem d6_62 : decode prog_52_method_3_code 62 = .ok (.iconst 1, 1) := by decide +kernel
theorem d6_63 : decode prog_52_method_3_code 63 = .ok (.iadd, 1) := by decide +kernel
theorem d6_64 : decode prog_52_method_3_code 64 = .ok (.iaload, 1) := by decide +kernel
theorem d6_65 : decode prog_52_method_3_code 65 = .ok (.if_icmp .le 11, 3) := by decide +kernel
theorem d6_68 : decode prog_52_method_3_code 68 = .ok (.iload 5, 2) := by decide +kernel
theorem d6_70 : decode prog_52_method_3_code 70 = .ok (.iconst 1, 1) := by decide +kernel
theorem d6_71 : decode prog_52_method_3_code 71 = .ok (.iadd, 1) := by decide +kernel
theorem d6_72 : decode prog_52_method_3_code 72 = .ok (.istore_n 2, 1) := by decide +kernel
theorem d6_73 : decode prog_52_method_3_code 73 = .ok (.goto 6, 3) := by decide +kernel
theorem d6_76 : decode prog_52_method_3_code 76 = .ok (.iconst 1, 1) := by decide +kernel
theorem d6_77 : decode prog_52_method_3_code 77 = .ok (.istore 4, 2) := by decide +kernel
theorem d6_79 : decode prog_52_method_3_code 79 = .ok (.goto (-64), 3) := by decide +kernel
def Q6_1 (Z : State) (a0 : Addr) (p1 : Int32) (r : Addr) (k0 : ClassId) (x0 : Int32) (x1 : Int32) (h0 : Heap) (n0 : Nat) (v : Option Value) (h : Heap) (L : List Loc) : Prop := v = some (.int (own_in1 p1 x0 x1)) ∧ Fr n0 L ∧ h = h0
set_option maxRecDepth 65536 in
set_option maxHeartbeats 40000000 in
theorem rm6_1 (l : Launch) (Z : State) (A0 : Array Value) (hw : ∀ d ∈ tables_1, d.before A0 Z = true) (ws : List Jvm.Cond) (a0 : Addr) (p1 : Int32) (r : Addr) (k0 : ClassId) (x0 : Int32) (x1 : Int32) (h0 : Heap) (n0 : Nat) (Z0 : n0 ≤ h0.size) (F0 : Fld Z h0 a0 "com/example/attest/attest/metadata/ScopeSyntax$Chars" "ranges" "[I" (.ref r)) (V0 : Arv Z h0 r k0 .int (2 : Int32) [(.int x0), (.int x1)] (.int (0 : Int32))) (hs : x0.toInt ≤ x1.toInt) :
    MetFree l (⟨"com/example/attest/attest/metadata/ScopeSyntax$Chars", "contains", "(I)Z"⟩ : MethodName) (head1 (Jvm.Cond.code (⟨"com/example/attest/attest/metadata/ScopeSyntax$Chars", "contains", "(I)Z"⟩ : MethodName) prog_52_method_3_code 6 (some .boolean) :: ws) ({ frames := 0, cells := 0, slots := 0, locals := 0 } : Room)) (fun a U => a = #[(.ref a0), (.int p1)] ∧ Z.Warmed39 U.vm ∧ U.heap = h0) (fun _ _ _ _ _ => True) (fun _ U o U' => ∃ v L, o = .returned v ∧ Q6_1 Z a0 p1 r k0 x0 x1 h0 n0 v U'.heap L ∧ FrameEnd U o U' L ({ frames := 0, cells := 0, slots := 0, locals := 0 } : Room).cells ({ frames := 0, cells := 0, slots := 0, locals := 0 } : Room).slots) := by
  refine MetFree.of_bodySF (plainFor_of_name pn_1) hisR ?_
  intro p e s m args below meth c s₁ Bd hml0 hP hK
  obtain ⟨rfl, hZ, hh⟩ := hP
  have hx := Bd.exec
  have hby := Bd.bytes
  have hml : c.maxLocals = 6 := hml0
  have hown : s.vm.findClass "com/example/attest/attest/metadata/ScopeSyntax$Chars" = some m.cls := findClass_of_methodNamed Bd.named
  have hnm := (name_of_methodNamed Bd.named Bd.method).1
  have X0 : Stand p l e ({ frames := 0, cells := 0, slots := 0, locals := 0 } : Room) s m #[(.ref a0), (.int p1)] below meth c s₁ [] 0 0 := Stand.of_body Bd
  have e0 : s₁.heap = h0 := by rw [← hh, Bd.state]; rfl
  have N0 := Fr.nil n0
  obtain ⟨S0, hS0⟩ : ∃ z, z = s₁.setTop (entryFrame m #[(.ref a0), (.int p1)] 6) := ⟨_, rfl⟩
  have pre0 : Go p.tables e below S0 s₁ (mkF m 0 #[vR a0, vI p1, .unset, .unset, .unset, .unset] []) := fun t k => by rw [hS0]; exact castTop (ef_6_1 m a0 p1) k
  have pre1 : Go p.tables e below S0 s₁ (mkF m 3 #[vR a0, vI p1, vI (0 : Int32), .unset, .unset, .unset] [(.ref a0)]) := fun t k => pre0 t (by
    refine XS.iconst X0.here hx rfl (hb hby d6_0) ?_
    show Steps p.tables e below (s₁.setTop (mkF m 1 #[vR a0, vI p1, .unset, .unset, .unset, .unset] [(.int (0 : Int32))])) _
    refine XS.istoreN X0.here hx rfl (hb hby d6_1) rfl (l' := #[vR a0, vI p1, vI (0 : Int32), .unset, .unset, .unset]) rfl ?_
    show Steps p.tables e below (s₁.setTop (mkF m 2 #[vR a0, vI p1, vI (0 : Int32), .unset, .unset, .unset] [])) _
    refine XS.aloadN X0.here hx rfl (hb hby d6_2) rfl rfl ?_
    show Steps p.tables e below (s₁.setTop (mkF m 3 #[vR a0, vI p1, vI (0 : Int32), .unset, .unset, .unset] [(.ref a0)])) _
    exact k)
  obtain ⟨T2, X2, e2, st2⟩ := getF X0 hx hZ hown (host := "") (Or.inl (hw _ (List.mem_of_getElem? (i := 24) rfl))) Via.refl e0 F0 (g := (mkF m 3 #[vR a0, vI p1, vI (0 : Int32), .unset, .unset, .unset] [(.ref a0)])) rfl rfl (hb hby d6_3)
  have pre2 : Go p.tables e below S0 T2 (mkF m 6 #[vR a0, vI p1, vI (0 : Int32), .unset, .unset, .unset] [(.ref r)]) := fun t k => pre1 t (st2 t k)
  obtain ⟨cl3, Ar3, q3, S3, M3, H3, G3⟩ := id V0
  have pre4 : Go p.tables e below S0 T2 (mkF m 34 #[vR a0, vI p1, vI (0 : Int32), vI (0 : Int32), vI (0 : Int32), vI (0 : Int32)] [(.ref a0), (.int p1)]) := fun t k => pre2 t (by
    refine X2.arraylength hx (by rw [e2]; exact Ar3.1) (State.isArrayOf_alike hZ.alike Ar3.2.1) (g := (mkF m 6 #[vR a0, vI p1, vI (0 : Int32), .unset, .unset, .unset] [(.ref r)])) rfl rfl (hb hby d6_6) _ ?_
    rw [len_of S3 M3]
    show Steps p.tables e below (T2.setTop (mkF m 7 #[vR a0, vI p1, vI (0 : Int32), .unset, .unset, .unset] [(.int (2 : Int32))])) _
    refine XS.iconst X2.here hx rfl (hb hby d6_7) ?_
    show Steps p.tables e below (T2.setTop (mkF m 8 #[vR a0, vI p1, vI (0 : Int32), .unset, .unset, .unset] [(.int (2 : Int32)), (.int (2 : Int32))])) _
    refine XS.idiv X2.here hx rfl (hb hby d6_8) rfl (by decide) ?_
    show Steps p.tables e below (T2.setTop (mkF m 9 #[vR a0, vI p1, vI (0 : Int32), .unset, .unset, .unset] [(.int (1 : Int32))])) _
    refine XS.iconst X2.here hx rfl (hb hby d6_9) ?_
    show Steps p.tables e below (T2.setTop (mkF m 10 #[vR a0, vI p1, vI (0 : Int32), .unset, .unset, .unset] [(.int (1 : Int32)), (.int (1 : Int32))])) _
    refine XS.isub X2.here hx rfl (hb hby d6_10) rfl ?_
    show Steps p.tables e below (T2.setTop (mkF m 11 #[vR a0, vI p1, vI (0 : Int32), .unset, .unset, .unset] [(.int (0 : Int32))])) _
    refine XS.istoreN X2.here hx rfl (hb hby d6_11) rfl (l' := #[vR a0, vI p1, vI (0 : Int32), vI (0 : Int32), .unset, .unset]) rfl ?_
    show Steps p.tables e below (T2.setTop (mkF m 12 #[vR a0, vI p1, vI (0 : Int32), vI (0 : Int32), .unset, .unset] [])) _
    refine XS.iconst X2.here hx rfl (hb hby d6_12) ?_
    show Steps p.tables e below (T2.setTop (mkF m 13 #[vR a0, vI p1, vI (0 : Int32), vI (0 : Int32), .unset, .unset] [(.int (0 : Int32))])) _
    refine XS.istore X2.here hx rfl (hb hby d6_13) rfl (l' := #[vR a0, vI p1, vI (0 : Int32), vI (0 : Int32), vI (0 : Int32), .unset]) rfl ?_
    show Steps p.tables e below (T2.setTop (mkF m 15 #[vR a0, vI p1, vI (0 : Int32), vI (0 : Int32), vI (0 : Int32), .unset] [])) _
    refine XS.iload X2.here hx rfl (hb hby d6_15) rfl ?_
    show Steps p.tables e below (T2.setTop (mkF m 17 #[vR a0, vI p1, vI (0 : Int32), vI (0 : Int32), vI (0 : Int32), .unset] [(.int (0 : Int32))])) _
    refine XS.ifNo X2.here hx rfl (hb hby d6_17) rfl ((if0 _ _).trans (teq (rfl : (0 : Int32) = (0 : Int32))).2) ?_
    show Steps p.tables e below (T2.setTop (mkF m 20 #[vR a0, vI p1, vI (0 : Int32), vI (0 : Int32), vI (0 : Int32), .unset] [])) _
    refine XS.iloadN X2.here hx rfl (hb hby d6_20) rfl ?_
    show Steps p.tables e below (T2.setTop (mkF m 21 #[vR a0, vI p1, vI (0 : Int32), vI (0 : Int32), vI (0 : Int32), .unset] [(.int (0 : Int32))])) _
    refine XS.iloadN X2.here hx rfl (hb hby d6_21) rfl ?_
    show Steps p.tables e below (T2.setTop (mkF m 22 #[vR a0, vI p1, vI (0 : Int32), vI (0 : Int32), vI (0 : Int32), .unset] [(.int (0 : Int32)), (.int (0 : Int32))])) _
    refine XS.icmpNo X2.here hx rfl (hb hby d6_22) rfl (flt (by decide : ¬ ((0 : Int32) < (0 : Int32)))).2.2.1 ?_
    show Steps p.tables e below (T2.setTop (mkF m 25 #[vR a0, vI p1, vI (0 : Int32), vI (0 : Int32), vI (0 : Int32), .unset] [])) _
    refine XS.iloadN X2.here hx rfl (hb hby d6_25) rfl ?_
    show Steps p.tables e below (T2.setTop (mkF m 26 #[vR a0, vI p1, vI (0 : Int32), vI (0 : Int32), vI (0 : Int32), .unset] [(.int (0 : Int32))])) _
    refine XS.iloadN X2.here hx rfl (hb hby d6_26) rfl ?_
    show Steps p.tables e below (T2.setTop (mkF m 27 #[vR a0, vI p1, vI (0 : Int32), vI (0 : Int32), vI (0 : Int32), .unset] [(.int (0 : Int32)), (.int (0 : Int32))])) _
    refine XS.iadd X2.here hx rfl (hb hby d6_27) rfl ?_
    show Steps p.tables e below (T2.setTop (mkF m 28 #[vR a0, vI p1, vI (0 : Int32), vI (0 : Int32), vI (0 : Int32), .unset] [(.int (0 : Int32))])) _
    refine XS.iconst X2.here hx rfl (hb hby d6_28) ?_
    show Steps p.tables e below (T2.setTop (mkF m 29 #[vR a0, vI p1, vI (0 : Int32), vI (0 : Int32), vI (0 : Int32), .unset] [(.int (1 : Int32)), (.int (0 : Int32))])) _
    refine XS.iushr X2.here hx rfl (hb hby d6_29) rfl ?_
    show Steps p.tables e below (T2.setTop (mkF m 30 #[vR a0, vI p1, vI (0 : Int32), vI (0 : Int32), vI (0 : Int32), .unset] [(.int (0 : Int32))])) _
    refine XS.istore X2.here hx rfl (hb hby d6_30) rfl (l' := #[vR a0, vI p1, vI (0 : Int32), vI (0 : Int32), vI (0 : Int32), vI (0 : Int32)]) rfl ?_
    show Steps p.tables e below (T2.setTop (mkF m 32 #[vR a0, vI p1, vI (0 : Int32), vI (0 : Int32), vI (0 : Int32), vI (0 : Int32)] [])) _
    refine XS.iloadN X2.here hx rfl (hb hby d6_32) rfl ?_
    show Steps p.tables e below (T2.setTop (mkF m 33 #[vR a0, vI p1, vI (0 : Int32), vI (0 : Int32), vI (0 : Int32), vI (0 : Int32)] [(.int p1)])) _
    refine XS.aloadN X2.here hx rfl (hb hby d6_33) rfl rfl ?_
    show Steps p.tables e below (T2.setTop (mkF m 34 #[vR a0, vI p1, vI (0 : Int32), vI (0 : Int32), vI (0 : Int32), vI (0 : Int32)] [(.ref a0), (.int p1)])) _
    exact k)
  obtain ⟨T5, X5, e5, st5⟩ := getF X2 hx hZ hown (host := "") (Or.inl (hw _ (List.mem_of_getElem? (i := 24) rfl))) Via.refl e2 F0 (g := (mkF m 34 #[vR a0, vI p1, vI (0 : Int32), vI (0 : Int32), vI (0 : Int32), vI (0 : Int32)] [(.ref a0), (.int p1)])) rfl rfl (hb hby d6_34)
  have pre5 : Go p.tables e below S0 T5 (mkF m 37 #[vR a0, vI p1, vI (0 : Int32), vI (0 : Int32), vI (0 : Int32), vI (0 : Int32)] [(.ref r), (.int p1)]) := fun t k => pre4 t (st5 t k)
  have pre6 : Go p.tables e below S0 T5 (mkF m 41 #[vR a0, vI p1, vI (0 : Int32), vI (0 : Int32), vI (0 : Int32), vI (0 : Int32)] [(.int (0 : Int32)), (.ref r), (.int p1)]) := fun t k => pre5 t (by
    refine XS.iconst X5.here hx rfl (hb hby d6_37) ?_
    show Steps p.tables e below (T5.setTop (mkF m 38 #[vR a0, vI p1, vI (0 : Int32), vI (0 : Int32), vI (0 : Int32), vI (0 : Int32)] [(.int (2 : Int32)), (.ref r), (.int p1)])) _
    refine XS.iload X5.here hx rfl (hb hby d6_38) rfl ?_
    show Steps p.tables e below (T5.setTop (mkF m 40 #[vR a0, vI p1, vI (0 : Int32), vI (0 : Int32), vI (0 : Int32), vI (0 : Int32)] [(.int (0 : Int32)), (.int (2 : Int32)), (.ref r), (.int p1)])) _
    refine XS.imul X5.here hx rfl (hb hby d6_40) rfl ?_
    show Steps p.tables e below (T5.setTop (mkF m 41 #[vR a0, vI p1, vI (0 : Int32), vI (0 : Int32), vI (0 : Int32), vI (0 : Int32)] [(.int (0 : Int32)), (.ref r), (.int p1)])) _
    exact k)
  obtain ⟨cl7, Ar7, q7, S7, M7, H7, G7⟩ := id V0
  have in7 : ¬ ((0 : Int32) < 0 ∨ cl7.slots.size ≤ ((0 : Int32)).toNatClampNeg) := inb_of S7 ⟨by decide, by decide⟩
  have at7 : cl7.slots[((0 : Int32)).toNatClampNeg]? = some (.int x0) := H7.at in7 rfl
  have pre8 : Go p.tables e below S0 T5 (mkF m 42 #[vR a0, vI p1, vI (0 : Int32), vI (0 : Int32), vI (0 : Int32), vI (0 : Int32)] [(.int x0), (.int p1)]) := fun t k => pre6 t (by
    refine X5.iaload hx (j := (0 : Int32)) (v := (.int x0)) (by rw [e5]; exact Ar7.1) (State.isArrayOf_alike hZ.alike Ar7.2.1) Ar7.2.2 in7 at7 (g := (mkF m 41 #[vR a0, vI p1, vI (0 : Int32), vI (0 : Int32), vI (0 : Int32), vI (0 : Int32)] [(.int (0 : Int32)), (.ref r), (.int p1)])) rfl rfl (hb hby d6_41) _ ?_
    show Steps p.tables e below (T5.setTop (mkF m 42 #[vR a0, vI p1, vI (0 : Int32), vI (0 : Int32), vI (0 : Int32), vI (0 : Int32)] [(.int x0), (.int p1)])) _
    exact k)
  by_cases c42_9 : p1 < x0
  · skip
    have pre10 : Go p.tables e below S0 T5 (mkF m 84 #[vR a0, vI p1, vI (0 : Int32), vI (-1 : Int32), vI (0 : Int32), vI (0 : Int32)] [(.int (0 : Int32))]) := fun t k => pre8 t (by
      refine XS.icmpNo X5.here hx rfl (hb hby d6_42) rfl (tlt c42_9).2.1 ?_
      show Steps p.tables e below (T5.setTop (mkF m 45 #[vR a0, vI p1, vI (0 : Int32), vI (0 : Int32), vI (0 : Int32), vI (0 : Int32)] [])) _
      refine XS.iload X5.here hx rfl (hb hby d6_45) rfl ?_
      show Steps p.tables e below (T5.setTop (mkF m 47 #[vR a0, vI p1, vI (0 : Int32), vI (0 : Int32), vI (0 : Int32), vI (0 : Int32)] [(.int (0 : Int32))])) _
      refine XS.iconst X5.here hx rfl (hb hby d6_47) ?_
      show Steps p.tables e below (T5.setTop (mkF m 48 #[vR a0, vI p1, vI (0 : Int32), vI (0 : Int32), vI (0 : Int32), vI (0 : Int32)] [(.int (1 : Int32)), (.int (0 : Int32))])) _
      refine XS.isub X5.here hx rfl (hb hby d6_48) rfl ?_
      show Steps p.tables e below (T5.setTop (mkF m 49 #[vR a0, vI p1, vI (0 : Int32), vI (0 : Int32), vI (0 : Int32), vI (0 : Int32)] [(.int (-1 : Int32))])) _
      refine XS.istoreN X5.here hx rfl (hb hby d6_49) rfl (l' := #[vR a0, vI p1, vI (0 : Int32), vI (-1 : Int32), vI (0 : Int32), vI (0 : Int32)]) rfl ?_
      show Steps p.tables e below (T5.setTop (mkF m 50 #[vR a0, vI p1, vI (0 : Int32), vI (-1 : Int32), vI (0 : Int32), vI (0 : Int32)] [])) _
      refine XS.goto X5.here hx rfl (pc0 := 50) (pc' := 79) rfl (hb hby d6_50) (by decide) (by decide) ?_
      show Steps p.tables e below (T5.setTop (mkF m 79 #[vR a0, vI p1, vI (0 : Int32), vI (-1 : Int32), vI (0 : Int32), vI (0 : Int32)] [])) _
      refine XS.goto X5.here hx rfl (pc0 := 79) (pc' := 15) rfl (hb hby d6_79) (by decide) (by decide) ?_
      show Steps p.tables e below (T5.setTop (mkF m 15 #[vR a0, vI p1, vI (0 : Int32), vI (-1 : Int32), vI (0 : Int32), vI (0 : Int32)] [])) _
      refine XS.iload X5.here hx rfl (hb hby d6_15) rfl ?_
      show Steps p.tables e below (T5.setTop (mkF m 17 #[vR a0, vI p1, vI (0 : Int32), vI (-1 : Int32), vI (0 : Int32), vI (0 : Int32)] [(.int (0 : Int32))])) _
      refine XS.ifNo X5.here hx rfl (hb hby d6_17) rfl ((if0 _ _).trans (teq (rfl : (0 : Int32) = (0 : Int32))).2) ?_
      show Steps p.tables e below (T5.setTop (mkF m 20 #[vR a0, vI p1, vI (0 : Int32), vI (-1 : Int32), vI (0 : Int32), vI (0 : Int32)] [])) _
      refine XS.iloadN X5.here hx rfl (hb hby d6_20) rfl ?_
      show Steps p.tables e below (T5.setTop (mkF m 21 #[vR a0, vI p1, vI (0 : Int32), vI (-1 : Int32), vI (0 : Int32), vI (0 : Int32)] [(.int (0 : Int32))])) _
      refine XS.iloadN X5.here hx rfl (hb hby d6_21) rfl ?_
      show Steps p.tables e below (T5.setTop (mkF m 22 #[vR a0, vI p1, vI (0 : Int32), vI (-1 : Int32), vI (0 : Int32), vI (0 : Int32)] [(.int (-1 : Int32)), (.int (0 : Int32))])) _
      refine XS.icmpYes X5.here hx rfl (pc0 := 22) (pc' := 82) rfl (hb hby d6_22) rfl (tlt (by decide : (-1 : Int32) < (0 : Int32))).2.2.1 (by decide) (by decide) ?_
      show Steps p.tables e below (T5.setTop (mkF m 82 #[vR a0, vI p1, vI (0 : Int32), vI (-1 : Int32), vI (0 : Int32), vI (0 : Int32)] [])) _
      refine XS.iload X5.here hx rfl (hb hby d6_82) rfl ?_
      show Steps p.tables e below (T5.setTop (mkF m 84 #[vR a0, vI p1, vI (0 : Int32), vI (-1 : Int32), vI (0 : Int32), vI (0 : Int32)] [(.int (0 : Int32))])) _
      exact k)
    obtain ⟨fs, hr, hrun, hended, hW, hsame⟩ := X5.leave (v := some (.int (0 : Int32))) (fun h => by rw [Bd.returns] at h; cases h)
    exact ⟨_, _, pre10.fin hS0 (retN X5 hx (t := .boolean) Bd.returns (by simp) (hb hby d6_84) hr), hrun, hended, _, _, rfl, (by
      show Q6_1 Z a0 p1 r k0 x0 x1 h0 n0 _ T5.heap _
      rw [e5]
      exact ⟨congrArg (fun z => some (Value.int z)) (by unfold own_in1; rw [if_neg (by simp only [Int32.lt_iff_toInt_lt] at c42_9 ⊢; omega)]), N0, rfl⟩), ⟨_, rfl⟩, hW, hsame.mono (by decide) (by decide)⟩
  · skip
    have pre11 : Go p.tables e below S0 T5 (mkF m 55 #[vR a0, vI p1, vI (0 : Int32), vI (0 : Int32), vI (0 : Int32), vI (0 : Int32)] [(.ref a0), (.int p1)]) := fun t k => pre8 t (by
      refine XS.icmpYes X5.here hx rfl (pc0 := 42) (pc' := 53) rfl (hb hby d6_42) rfl (flt c42_9).2.1 (by decide) (by decide) ?_
      show Steps p.tables e below (T5.setTop (mkF m 53 #[vR a0, vI p1, vI (0 : Int32), vI (0 : Int32), vI (0 : Int32), vI (0 : Int32)] [])) _
      refine XS.iloadN X5.here hx rfl (hb hby d6_53) rfl ?_
      show Steps p.tables e below (T5.setTop (mkF m 54 #[vR a0, vI p1, vI (0 : Int32), vI (0 : Int32), vI (0 : Int32), vI (0 : Int32)] [(.int p1)])) _
      refine XS.aloadN X5.here hx rfl (hb hby d6_54) rfl rfl ?_
      show Steps p.tables e below (T5.setTop (mkF m 55 #[vR a0, vI p1, vI (0 : Int32), vI (0 : Int32), vI (0 : Int32), vI (0 : Int32)] [(.ref a0), (.int p1)])) _
      exact k)
    obtain ⟨T12, X12, e12, st12⟩ := getF X5 hx hZ hown (host := "") (Or.inl (hw _ (List.mem_of_getElem? (i := 24) rfl))) Via.refl e5 F0 (g := (mkF m 55 #[vR a0, vI p1, vI (0 : Int32), vI (0 : Int32), vI (0 : Int32), vI (0 : Int32)] [(.ref a0), (.int p1)])) rfl rfl (hb hby d6_55)
    have pre12 : Go p.tables e below S0 T12 (mkF m 58 #[vR a0, vI p1, vI (0 : Int32), vI (0 : Int32), vI (0 : Int32), vI (0 : Int32)] [(.ref r), (.int p1)]) := fun t k => pre11 t (st12 t k)
    have pre13 : Go p.tables e below S0 T12 (mkF m 64 #[vR a0, vI p1, vI (0 : Int32), vI (0 : Int32), vI (0 : Int32), vI (0 : Int32)] [(.int (1 : Int32)), (.ref r), (.int p1)]) := fun t k => pre12 t (by
      refine XS.iconst X12.here hx rfl (hb hby d6_58) ?_
      show Steps p.tables e below (T12.setTop (mkF m 59 #[vR a0, vI p1, vI (0 : Int32), vI (0 : Int32), vI (0 : Int32), vI (0 : Int32)] [(.int (2 : Int32)), (.ref r), (.int p1)])) _
      refine XS.iload X12.here hx rfl (hb hby d6_59) rfl ?_
      show Steps p.tables e below (T12.setTop (mkF m 61 #[vR a0, vI p1, vI (0 : Int32), vI (0 : Int32), vI (0 : Int32), vI (0 : Int32)] [(.int (0 : Int32)), (.int (2 : Int32)), (.ref r), (.int p1)])) _
      refine XS.imul X12.here hx rfl (hb hby d6_61) rfl ?_
      show Steps p.tables e below (T12.setTop (mkF m 62 #[vR a0, vI p1, vI (0 : Int32), vI (0 : Int32), vI (0 : Int32), vI (0 : Int32)] [(.int (0 : Int32)), (.ref r), (.int p1)])) _
      refine XS.iconst X12.here hx rfl (hb hby d6_62) ?_
      show Steps p.tables e below (T12.setTop (mkF m 63 #[vR a0, vI p1, vI (0 : Int32), vI (0 : Int32), vI (0 : Int32), vI (0 : Int32)] [(.int (1 : Int32)), (.int (0 : Int32)), (.ref r), (.int p1)])) _
      refine XS.iadd X12.here hx rfl (hb hby d6_63) rfl ?_
      show Steps p.tables e below (T12.setTop (mkF m 64 #[vR a0, vI p1, vI (0 : Int32), vI (0 : Int32), vI (0 : Int32), vI (0 : Int32)] [(.int (1 : Int32)), (.ref r), (.int p1)])) _
      exact k)
    obtain ⟨cl14, Ar14, q14, S14, M14, H14, G14⟩ := id V0
    have in14 : ¬ ((1 : Int32) < 0 ∨ cl14.slots.size ≤ ((1 : Int32)).toNatClampNeg) := inb_of S14 ⟨by decide, by decide⟩
    have at14 : cl14.slots[((1 : Int32)).toNatClampNeg]? = some (.int x1) := H14.at in14 rfl
    have pre15 : Go p.tables e below S0 T12 (mkF m 65 #[vR a0, vI p1, vI (0 : Int32), vI (0 : Int32), vI (0 : Int32), vI (0 : Int32)] [(.int x1), (.int p1)]) := fun t k => pre13 t (by
      refine X12.iaload hx (j := (1 : Int32)) (v := (.int x1)) (by rw [e12]; exact Ar14.1) (State.isArrayOf_alike hZ.alike Ar14.2.1) Ar14.2.2 in14 at14 (g := (mkF m 64 #[vR a0, vI p1, vI (0 : Int32), vI (0 : Int32), vI (0 : Int32), vI (0 : Int32)] [(.int (1 : Int32)), (.ref r), (.int p1)])) rfl rfl (hb hby d6_64) _ ?_
      show Steps p.tables e below (T12.setTop (mkF m 65 #[vR a0, vI p1, vI (0 : Int32), vI (0 : Int32), vI (0 : Int32), vI (0 : Int32)] [(.int x1), (.int p1)])) _
      exact k)
    by_cases c65_16 : x1 < p1
    · skip
      have pre17 : Go p.tables e below S0 T12 (mkF m 84 #[vR a0, vI p1, vI (1 : Int32), vI (0 : Int32), vI (0 : Int32), vI (0 : Int32)] [(.int (0 : Int32))]) := fun t k => pre15 t (by
        refine XS.icmpNo X12.here hx rfl (hb hby d6_65) rfl (tlt c65_16).2.2.2 ?_
        show Steps p.tables e below (T12.setTop (mkF m 68 #[vR a0, vI p1, vI (0 : Int32), vI (0 : Int32), vI (0 : Int32), vI (0 : Int32)] [])) _
        refine XS.iload X12.here hx rfl (hb hby d6_68) rfl ?_
        show Steps p.tables e below (T12.setTop (mkF m 70 #[vR a0, vI p1, vI (0 : Int32), vI (0 : Int32), vI (0 : Int32), vI (0 : Int32)] [(.int (0 : Int32))])) _
        refine XS.iconst X12.here hx rfl (hb hby d6_70) ?_
        show Steps p.tables e below (T12.setTop (mkF m 71 #[vR a0, vI p1, vI (0 : Int32), vI (0 : Int32), vI (0 : Int32), vI (0 : Int32)] [(.int (1 : Int32)), (.int (0 : Int32))])) _
        refine XS.iadd X12.here hx rfl (hb hby d6_71) rfl ?_
        show Steps p.tables e below (T12.setTop (mkF m 72 #[vR a0, vI p1, vI (0 : Int32), vI (0 : Int32), vI (0 : Int32), vI (0 : Int32)] [(.int (1 : Int32))])) _
        refine XS.istoreN X12.here hx rfl (hb hby d6_72) rfl (l' := #[vR a0, vI p1, vI (1 : Int32), vI (0 : Int32), vI (0 : Int32), vI (0 : Int32)]) rfl ?_
        show Steps p.tables e below (T12.setTop (mkF m 73 #[vR a0, vI p1, vI (1 : Int32), vI (0 : Int32), vI (0 : Int32), vI (0 : Int32)] [])) _
        refine XS.goto X12.here hx rfl (pc0 := 73) (pc' := 79) rfl (hb hby d6_73) (by decide) (by decide) ?_
        show Steps p.tables e below (T12.setTop (mkF m 79 #[vR a0, vI p1, vI (1 : Int32), vI (0 : Int32), vI (0 : Int32), vI (0 : Int32)] [])) _
        refine XS.goto X12.here hx rfl (pc0 := 79) (pc' := 15) rfl (hb hby d6_79) (by decide) (by decide) ?_
        show Steps p.tables e below (T12.setTop (mkF m 15 #[vR a0, vI p1, vI (1 : Int32), vI (0 : Int32), vI (0 : Int32), vI (0 : Int32)] [])) _
        refine XS.iload X12.here hx rfl (hb hby d6_15) rfl ?_
        show Steps p.tables e below (T12.setTop (mkF m 17 #[vR a0, vI p1, vI (1 : Int32), vI (0 : Int32), vI (0 : Int32), vI (0 : Int32)] [(.int (0 : Int32))])) _
        refine XS.ifNo X12.here hx rfl (hb hby d6_17) rfl ((if0 _ _).trans (teq (rfl : (0 : Int32) = (0 : Int32))).2) ?_
        show Steps p.tables e below (T12.setTop (mkF m 20 #[vR a0, vI p1, vI (1 : Int32), vI (0 : Int32), vI (0 : Int32), vI (0 : Int32)] [])) _
        refine XS.iloadN X12.here hx rfl (hb hby d6_20) rfl ?_
        show Steps p.tables e below (T12.setTop (mkF m 21 #[vR a0, vI p1, vI (1 : Int32), vI (0 : Int32), vI (0 : Int32), vI (0 : Int32)] [(.int (1 : Int32))])) _
        refine XS.iloadN X12.here hx rfl (hb hby d6_21) rfl ?_
        show Steps p.tables e below (T12.setTop (mkF m 22 #[vR a0, vI p1, vI (1 : Int32), vI (0 : Int32), vI (0 : Int32), vI (0 : Int32)] [(.int (0 : Int32)), (.int (1 : Int32))])) _
        refine XS.icmpYes X12.here hx rfl (pc0 := 22) (pc' := 82) rfl (hb hby d6_22) rfl (tlt (by decide : (0 : Int32) < (1 : Int32))).2.2.1 (by decide) (by decide) ?_
        show Steps p.tables e below (T12.setTop (mkF m 82 #[vR a0, vI p1, vI (1 : Int32), vI (0 : Int32), vI (0 : Int32), vI (0 : Int32)] [])) _
        refine XS.iload X12.here hx rfl (hb hby d6_82) rfl ?_
        show Steps p.tables e below (T12.setTop (mkF m 84 #[vR a0, vI p1, vI (1 : Int32), vI (0 : Int32), vI (0 : Int32), vI (0 : Int32)] [(.int (0 : Int32))])) _
        exact k)
      obtain ⟨fs, hr, hrun, hended, hW, hsame⟩ := X12.leave (v := some (.int (0 : Int32))) (fun h => by rw [Bd.returns] at h; cases h)
      exact ⟨_, _, pre17.fin hS0 (retN X12 hx (t := .boolean) Bd.returns (by simp) (hb hby d6_84) hr), hrun, hended, _, _, rfl, (by
        show Q6_1 Z a0 p1 r k0 x0 x1 h0 n0 _ T12.heap _
        rw [e12]
        exact ⟨congrArg (fun z => some (Value.int z)) (by unfold own_in1; rw [if_neg (by simp only [Int32.lt_iff_toInt_lt] at c42_9 c65_16 ⊢; omega)]), N0, rfl⟩), ⟨_, rfl⟩, hW, hsame.mono (by decide) (by decide)⟩
    · skip
      have pre18 : Go p.tables e below S0 T12 (mkF m 84 #[vR a0, vI p1, vI (0 : Int32), vI (0 : Int32), vI (1 : Int32), vI (0 : Int32)] [(.int (1 : Int32))]) := fun t k => pre15 t (by
        refine XS.icmpYes X12.here hx rfl (pc0 := 65) (pc' := 76) rfl (hb hby d6_65) rfl (flt c65_16).2.2.2 (by decide) (by decide) ?_
        show Steps p.tables e below (T12.setTop (mkF m 76 #[vR a0, vI p1, vI (0 : Int32), vI (0 : Int32), vI (0 : Int32), vI (0 : Int32)] [])) _
        refine XS.iconst X12.here hx rfl (hb hby d6_76) ?_
        show Steps p.tables e below (T12.setTop (mkF m 77 #[vR a0, vI p1, vI (0 : Int32), vI (0 : Int32), vI (0 : Int32), vI (0 : Int32)] [(.int (1 : Int32))])) _
        refine XS.istore X12.here hx rfl (hb hby d6_77) rfl (l' := #[vR a0, vI p1, vI (0 : Int32), vI (0 : Int32), vI (1 : Int32), vI (0 : Int32)]) rfl ?_
        show Steps p.tables e below (T12.setTop (mkF m 79 #[vR a0, vI p1, vI (0 : Int32), vI (0 : Int32), vI (1 : Int32), vI (0 : Int32)] [])) _
        refine XS.goto X12.here hx rfl (pc0 := 79) (pc' := 15) rfl (hb hby d6_79) (by decide) (by decide) ?_
        show Steps p.tables e below (T12.setTop (mkF m 15 #[vR a0, vI p1, vI (0 : Int32), vI (0 : Int32), vI (1 : Int32), vI (0 : Int32)] [])) _
        refine XS.iload X12.here hx rfl (hb hby d6_15) rfl ?_
        show Steps p.tables e below (T12.setTop (mkF m 17 #[vR a0, vI p1, vI (0 : Int32), vI (0 : Int32), vI (1 : Int32), vI (0 : Int32)] [(.int (1 : Int32))])) _
        refine XS.ifYes X12.here hx rfl (pc0 := 17) (pc' := 82) rfl (hb hby d6_17) rfl ((if0 _ _).trans (feq (by decide : ¬ ((1 : Int32) = (0 : Int32)))).2) (by decide) (by decide) ?_
        show Steps p.tables e below (T12.setTop (mkF m 82 #[vR a0, vI p1, vI (0 : Int32), vI (0 : Int32), vI (1 : Int32), vI (0 : Int32)] [])) _
        refine XS.iload X12.here hx rfl (hb hby d6_82) rfl ?_
        show Steps p.tables e below (T12.setTop (mkF m 84 #[vR a0, vI p1, vI (0 : Int32), vI (0 : Int32), vI (1 : Int32), vI (0 : Int32)] [(.int (1 : Int32))])) _
        exact k)
      obtain ⟨fs, hr, hrun, hended, hW, hsame⟩ := X12.leave (v := some (.int (1 : Int32))) (fun h => by rw [Bd.returns] at h; cases h)
      exact ⟨_, _, pre18.fin hS0 (retN X12 hx (t := .boolean) Bd.returns (by simp) (hb hby d6_84) hr), hrun, hended, _, _, rfl, (by
        show Q6_1 Z a0 p1 r k0 x0 x1 h0 n0 _ T12.heap _
        rw [e12]
        exact ⟨congrArg (fun z => some (Value.int z)) (by unfold own_in1; rw [if_pos (by simp only [Int32.lt_iff_toInt_lt] at c42_9 c65_16 ⊢; omega)]), N0, rfl⟩), ⟨_, rfl⟩, hW, hsame.mono (by decide) (by decide)⟩
theorem ef_6_2 (m : MethodId) (x0 : Addr) (x1 : Int32) : entryFrame m #[(.ref x0), (.int x1)] 6 = mkF m 0 #[.val (.ref x0), .val (.int x1), .unset, .unset, .unset, .unset] [] := by first | (simp [entryFrame, mkF, argsToLocals, Value.category]; done) | rfl
def Q6_2 (Z : State) (a0 : Addr) (p1 : Int32) (r : Addr) (k0 : ClassId) (x0 : Int32) (x1 : Int32) (x2 : Int32) (x3 : Int32) (h0 : Heap) (n0 : Nat) (v : Option Value) (h : Heap) (L : List Loc) : Prop := v = some (.int (own_in2 p1 x0 x1 x2 x3)) ∧ Fr n0 L ∧ h = h0
set_option maxRecDepth 65536 in
set_option maxHeartbeats 40000000 in
theorem rm6_2 (l : Launch) (Z : State) (A0 : Array Value) (hw : ∀ d ∈ tables_1, d.before A0 Z = true) (ws : List Jvm.Cond) (a0 : Addr) (p1 : Int32) (r : Addr) (k0 : ClassId) (x0 : Int32) (x1 : Int32) (x2 : Int32) (x3 : Int32) (h0 : Heap) (n0 : Nat) (Z0 : n0 ≤ h0.size) (F0 : Fld Z h0 a0 "com/example/attest/attest/metadata/ScopeSyntax$Chars" "ranges" "[I" (.ref r)) (V0 : Arv Z h0 r k0 .int (4 : Int32) [(.int x0), (.int x1), (.int x2), (.int x3)] (.int (0 : Int32))) (hs : x0.toInt ≤ x1.toInt ∧ x1.toInt < x2.toInt ∧ x2.toInt ≤ x3.toInt) :
    MetFree l (⟨"com/example/attest/attest/metadata/ScopeSyntax$Chars", "contains", "(I)Z"⟩ : MethodName) (head1 (Jvm.Cond.code (⟨"com/example/attest/attest/metadata/ScopeSyntax$Chars", "contains", "(I)Z"⟩ : MethodName) prog_52_method_3_code 6 (some .boolean) :: ws) ({ frames := 0, cells := 0, slots := 0, locals := 0 } : Room)) (fun a U => a = #[(.ref a0), (.int p1)] ∧ Z.Warmed39 U.vm ∧ U.heap = h0) (fun _ _ _ _ _ => True) (fun _ U o U' => ∃ v L, o = .returned v ∧ Q6_2 Z a0 p1 r k0 x0 x1 x2 x3 h0 n0 v U'.heap L ∧ FrameEnd U o U' L ({ frames := 0, cells := 0, slots := 0, locals := 0 } : Room).cells ({ frames := 0, cells := 0, slots := 0, locals := 0 } : Room).slots) := by
  refine MetFree.of_bodySF (plainFor_of_name pn_1) hisR ?_
  intro p e s m args below meth c s₁ Bd hml0 hP hK
  obtain ⟨rfl, hZ, hh⟩ := hP
  have hx := Bd.exec
  have hby := Bd.bytes
  have hml : c.maxLocals = 6 := hml0
  have hown : s.vm.findClass "com/example/attest/attest/metadata/ScopeSyntax$Chars" = some m.cls := findClass_of_methodNamed Bd.named
  have hnm := (name_of_methodNamed Bd.named Bd.method).1
  have X0 : Stand p l e ({ frames := 0, cells := 0, slots := 0, locals := 0 } : Room) s m #[(.ref a0), (.int p1)] below meth c s₁ [] 0 0 := Stand.of_body Bd
  have e0 : s₁.heap = h0 := by rw [← hh, Bd.state]; rfl
  have N0 := Fr.nil n0
  obtain ⟨S0, hS0⟩ : ∃ z, z = s₁.setTop (entryFrame m #[(.ref a0), (.int p1)] 6) := ⟨_, rfl⟩
  have pre0 : Go p.tables e below S0 s₁ (mkF m 0 #[vR a0, vI p1, .unset, .unset, .unset, .unset] []) := fun t k => by rw [hS0]; exact castTop (ef_6_2 m a0 p1) k
  have pre1 : Go p.tables e below S0 s₁ (mkF m 3 #[vR a0, vI p1, vI (0 : Int32), .unset, .unset, .unset] [(.ref a0)]) := fun t k => pre0 t (by
    refine XS.iconst X0.here hx rfl (hb hby d6_0) ?_
    show Steps p.tables e below (s₁.setTop (mkF m 1 #[vR a0, vI p1, .unset, .unset, .unset, .unset] [(.int (0 : Int32))])) _
    refine XS.istoreN X0.here hx rfl (hb hby d6_1) rfl (l' := #[vR a0, vI p1, vI (0 : Int32), .unset, .unset, .unset]) rfl ?_
    show Steps p.tables e below (s₁.setTop (mkF m 2 #[vR a0, vI p1, vI (0 : Int32), .unset, .unset, .unset] [])) _
    refine XS.aloadN X0.here hx rfl (hb hby d6_2) rfl rfl ?_
    show Steps p.tables e below (s₁.setTop (mkF m 3 #[vR a0, vI p1, vI (0 : Int32), .unset, .unset, .unset] [(.ref a0)])) _
    exact k)
  obtain ⟨T2, X2, e2, st2⟩ := getF X0 hx hZ hown (host := "") (Or.inl (hw _ (List.mem_of_getElem? (i := 24) rfl))) Via.refl e0 F0 (g := (mkF m 3 #[vR a0, vI p1, vI (0 : Int32), .unset, .unset, .unset] [(.ref a0)])) rfl rfl (hb hby d6_3)
  have pre2 : Go p.tables e below S0 T2 (mkF m 6 #[vR a0, vI p1, vI (0 : Int32), .unset, .unset, .unset] [(.ref r)]) := fun t k => pre1 t (st2 t k)
  obtain ⟨cl3, Ar3, q3, S3, M3, H3, G3⟩ := id V0
  have pre4 : Go p.tables e below S0 T2 (mkF m 34 #[vR a0, vI p1, vI (0 : Int32), vI (1 : Int32), vI (0 : Int32), vI (0 : Int32)] [(.ref a0), (.int p1)]) := fun t k => pre2 t (by
    refine X2.arraylength hx (by rw [e2]; exact Ar3.1) (State.isArrayOf_alike hZ.alike Ar3.2.1) (g := (mkF m 6 #[vR a0, vI p1, vI (0 : Int32), .unset, .unset, .unset] [(.ref r)])) rfl rfl (hb hby d6_6) _ ?_
    rw [len_of S3 M3]
    show Steps p.tables e below (T2.setTop (mkF m 7 #[vR a0, vI p1, vI (0 : Int32), .unset, .unset, .unset] [(.int (4 : Int32))])) _
    refine XS.iconst X2.here hx rfl (hb hby d6_7) ?_
    show Steps p.tables e below (T2.setTop (mkF m 8 #[vR a0, vI p1, vI (0 : Int32), .unset, .unset, .unset] [(.int (2 : Int32)), (.int (4 : Int32))])) _
    refine XS.idiv X2.here hx rfl (hb hby d6_8) rfl (by decide) ?_
    show Steps p.tables e below (T2.setTop (mkF m 9 #[vR a0, vI p1, vI (0 : Int32), .unset, .unset, .unset] [(.int (2 : Int32))])) _
    refine XS.iconst X2.here hx rfl (hb hby d6_9) ?_
    show Steps p.tables e below (T2.setTop (mkF m 10 #[vR a0, vI p1, vI (0 : Int32), .unset, .unset, .unset] [(.int (1 : Int32)), (.int (2 : Int32))])) _
    refine XS.isub X2.here hx rfl (hb hby d6_10) rfl ?_
    show Steps p.tables e below (T2.setTop (mkF m 11 #[vR a0, vI p1, vI (0 : Int32), .unset, .unset, .unset] [(.int (1 : Int32))])) _
    refine XS.istoreN X2.here hx rfl (hb hby d6_11) rfl (l' := #[vR a0, vI p1, vI (0 : Int32), vI (1 : Int32), .unset, .unset]) rfl ?_
    show Steps p.tables e below (T2.setTop (mkF m 12 #[vR a0, vI p1, vI (0 : Int32), vI (1 : Int32), .unset, .unset] [])) _
    refine XS.iconst X2.here hx rfl (hb hby d6_12) ?_
    show Steps p.tables e below (T2.setTop (mkF m 13 #[vR a0, vI p1, vI (0 : Int32), vI (1 : Int32), .unset, .unset] [(.int (0 : Int32))])) _
    refine XS.istore X2.here hx rfl (hb hby d6_13) rfl (l' := #[vR a0, vI p1, vI (0 : Int32), vI (1 : Int32), vI (0 : Int32), .unset]) rfl ?_
    show Steps p.tables e below (T2.setTop (mkF m 15 #[vR a0, vI p1, vI (0 : Int32), vI (1 : Int32), vI (0 : Int32), .unset] [])) _
    refine XS.iload X2.here hx rfl (hb hby d6_15) rfl ?_
    show Steps p.tables e below (T2.setTop (mkF m 17 #[vR a0, vI p1, vI (0 : Int32), vI (1 : Int32), vI (0 : Int32), .unset] [(.int (0 : Int32))])) _
    refine XS.ifNo X2.here hx rfl (hb hby d6_17) rfl ((if0 _ _).trans (teq (rfl : (0 : Int32) = (0 : Int32))).2) ?_
    show Steps p.tables e below (T2.setTop (mkF m 20 #[vR a0, vI p1, vI (0 : Int32), vI (1 : Int32), vI (0 : Int32), .unset] [])) _
    refine XS.iloadN X2.here hx rfl (hb hby d6_20) rfl ?_
    show Steps p.tables e below (T2.setTop (mkF m 21 #[vR a0, vI p1, vI (0 : Int32), vI (1 : Int32), vI (0 : Int32), .unset] [(.int (0 : Int32))])) _
    refine XS.iloadN X2.here hx rfl (hb hby d6_21) rfl ?_
    show Steps p.tables e below (T2.setTop (mkF m 22 #[vR a0, vI p1, vI (0 : Int32), vI (1 : Int32), vI (0 : Int32), .unset] [(.int (1 : Int32)), (.int (0 : Int32))])) _
    refine XS.icmpNo X2.here hx rfl (hb hby d6_22) rfl (flt (by decide : ¬ ((1 : Int32) < (0 : Int32)))).2.2.1 ?_
    show Steps p.tables e below (T2.setTop (mkF m 25 #[vR a0, vI p1, vI (0 : Int32), vI (1 : Int32), vI (0 : Int32), .unset] [])) _
    refine XS.iloadN X2.here hx rfl (hb hby d6_25) rfl ?_
    show Steps p.tables e below (T2.setTop (mkF m 26 #[vR a0, vI p1, vI (0 : Int32), vI (1 : Int32), vI (0 : Int32), .unset] [(.int (0 : Int32))])) _
    refine XS.iloadN X2.here hx rfl (hb hby d6_26) rfl ?_
    show Steps p.tables e below (T2.setTop (mkF m 27 #[vR a0, vI p1, vI (0 : Int32), vI (1 : Int32), vI (0 : Int32), .unset] [(.int (1 : Int32)), (.int (0 : Int32))])) _
    refine XS.iadd X2.here hx rfl (hb hby d6_27) rfl ?_
    show Steps p.tables e below (T2.setTop (mkF m 28 #[vR a0, vI p1, vI (0 : Int32), vI (1 : Int32), vI (0 : Int32), .unset] [(.int (1 : Int32))])) _
    refine XS.iconst X2.here hx rfl (hb hby d6_28) ?_
    show Steps p.tables e below (T2.setTop (mkF m 29 #[vR a0, vI p1, vI (0 : Int32), vI (1 : Int32), vI (0 : Int32), .unset] [(.int (1 : Int32)), (.int (1 : Int32))])) _
    refine XS.iushr X2.here hx rfl (hb hby d6_29) rfl ?_
    show Steps p.tables e below (T2.setTop (mkF m 30 #[vR a0, vI p1, vI (0 : Int32), vI (1 : Int32), vI (0 : Int32), .unset] [(.int (0 : Int32))])) _
    refine XS.istore X2.here hx rfl (hb hby d6_30) rfl (l' := #[vR a0, vI p1, vI (0 : Int32), vI (1 : Int32), vI (0 : Int32), vI (0 : Int32)]) rfl ?_
    show Steps p.tables e below (T2.setTop (mkF m 32 #[vR a0, vI p1, vI (0 : Int32), vI (1 : Int32), vI (0 : Int32), vI (0 : Int32)] [])) _
    refine XS.iloadN X2.here hx rfl (hb hby d6_32) rfl ?_
    show Steps p.tables e below (T2.setTop (mkF m 33 #[vR a0, vI p1, vI (0 : Int32), vI (1 : Int32), vI (0 : Int32), vI (0 : Int32)] [(.int p1)])) _
    refine XS.aloadN X2.here hx rfl (hb hby d6_33) rfl rfl ?_
    show Steps p.tables e below (T2.setTop (mkF m 34 #[vR a0, vI p1, vI (0 : Int32), vI (1 : Int32), vI (0 : Int32), vI (0 : Int32)] [(.ref a0), (.int p1)])) _
    exact k)
  obtain ⟨T5, X5, e5, st5⟩ := getF X2 hx hZ hown (host := "") (Or.inl (hw _ (List.mem_of_getElem? (i := 24) rfl))) Via.refl e2 F0 (g := (mkF m 34 #[vR a0, vI p1, vI (0 : Int32), vI (1 : Int32), vI (0 : Int32), vI (0 : Int32)] [(.ref a0), (.int p1)])) rfl rfl (hb hby d6_34)
  have pre5 : Go p.tables e below S0 T5 (mkF m 37 #[vR a0, vI p1, vI (0 : Int32), vI (1 : Int32), vI (0 : Int32), vI (0 : Int32)] [(.ref r), (.int p1)]) := fun t k => pre4 t (st5 t k)
  have pre6 : Go p.tables e below S0 T5 (mkF m 41 #[vR a0, vI p1, vI (0 : Int32), vI (1 : Int32), vI (0 : Int32), vI (0 : Int32)] [(.int (0 : Int32)), (.ref r), (.int p1)]) := fun t k => pre5 t (by
    refine XS.iconst X5.here hx rfl (hb hby d6_37) ?_
    show Steps p.tables e below (T5.setTop (mkF m 38 #[vR a0, vI p1, vI (0 : Int32), vI (1 : Int32), vI (0 : Int32), vI (0 : Int32)] [(.int (2 : Int32)), (.ref r), (.int p1)])) _
    refine XS.iload X5.here hx rfl (hb hby d6_38) rfl ?_
    show Steps p.tables e below (T5.setTop (mkF m 40 #[vR a0, vI p1, vI (0 : Int32), vI (1 : Int32), vI (0 : Int32), vI (0 : Int32)] [(.int (0 : Int32)), (.int (2 : Int32)), (.ref r), (.int p1)])) _
    refine XS.imul X5.here hx rfl (hb hby d6_40) rfl ?_
    show Steps p.tables e below (T5.setTop (mkF m 41 #[vR a0, vI p1, vI (0 : Int32), vI (1 : Int32), vI (0 : Int32), vI (0 : Int32)] [(.int (0 : Int32)), (.ref r), (.int p1)])) _
    exact k)
  obtain ⟨cl7, Ar7, q7, S7, M7, H7, G7⟩ := id V0
  have in7 : ¬ ((0 : Int32) < 0 ∨ cl7.slots.size ≤ ((0 : Int32)).toNatClampNeg) := inb_of S7 ⟨by decide, by decide⟩
  have at7 : cl7.slots[((0 : Int32)).toNatClampNeg]? = some (.int x0) := H7.at in7 rfl
  have pre8 : Go p.tables e below S0 T5 (mkF m 42 #[vR a0, vI p1, vI (0 : Int32), vI (1 : Int32), vI (0 : Int32), vI (0 : Int32)] [(.int x0), (.int p1)]) := fun t k => pre6 t (by
    refine X5.iaload hx (j := (0 : Int32)) (v := (.int x0)) (by rw [e5]; exact Ar7.1) (State.isArrayOf_alike hZ.alike Ar7.2.1) Ar7.2.2 in7 at7 (g := (mkF m 41 #[vR a0, vI p1, vI (0 : Int32), vI (1 : Int32), vI (0 : Int32), vI (0 : Int32)] [(.int (0 : Int32)), (.ref r), (.int p1)])) rfl rfl (hb hby d6_41) _ ?_
    show Steps p.tables e below (T5.setTop (mkF m 42 #[vR a0, vI p1, vI (0 : Int32), vI (1 : Int32), vI (0 : Int32), vI (0 : Int32)] [(.int x0), (.int p1)])) _
    exact k)
  by_cases c42_9 : p1 < x0
  · skip
    have pre10 : Go p.tables e below S0 T5 (mkF m 84 #[vR a0, vI p1, vI (0 : Int32), vI (-1 : Int32), vI (0 : Int32), vI (0 : Int32)] [(.int (0 : Int32))]) := fun t k => pre8 t (by
      refine XS.icmpNo X5.here hx rfl (hb hby d6_42) rfl (tlt c42_9).2.1 ?_
      show Steps p.tables e below (T5.setTop (mkF m 45 #[vR a0, vI p1, vI (0 : Int32), vI (1 : Int32), vI (0 : Int32), vI (0 : Int32)] [])) _
      refine XS.iload X5.here hx rfl (hb hby d6_45) rfl ?_
      show Steps p.tables e below (T5.setTop (mkF m 47 #[vR a0, vI p1, vI (0 : Int32), vI (1 : Int32), vI (0 : Int32), vI (0 : Int32)] [(.int (0 : Int32))])) _
      refine XS.iconst X5.here hx rfl (hb hby d6_47) ?_
      show Steps p.tables e below (T5.setTop (mkF m 48 #[vR a0, vI p1, vI (0 : Int32), vI (1 : Int32), vI (0 : Int32), vI (0 : Int32)] [(.int (1 : Int32)), (.int (0 : Int32))])) _
      refine XS.isub X5.here hx rfl (hb hby d6_48) rfl ?_
      show Steps p.tables e below (T5.setTop (mkF m 49 #[vR a0, vI p1, vI (0 : Int32), vI (1 : Int32), vI (0 : Int32), vI (0 : Int32)] [(.int (-1 : Int32))])) _
      refine XS.istoreN X5.here hx rfl (hb hby d6_49) rfl (l' := #[vR a0, vI p1, vI (0 : Int32), vI (-1 : Int32), vI (0 : Int32), vI (0 : Int32)]) rfl ?_
      show Steps p.tables e below (T5.setTop (mkF m 50 #[vR a0, vI p1, vI (0 : Int32), vI (-1 : Int32), vI (0 : Int32), vI (0 : Int32)] [])) _
      refine XS.goto X5.here hx rfl (pc0 := 50) (pc' := 79) rfl (hb hby d6_50) (by decide) (by decide) ?_
      show Steps p.tables e below (T5.setTop (mkF m 79 #[vR a0, vI p1, vI (0 : Int32), vI (-1 : Int32), vI (0 : Int32), vI (0 : Int32)] [])) _
      refine XS.goto X5.here hx rfl (pc0 := 79) (pc' := 15) rfl (hb hby d6_79) (by decide) (by decide) ?_
      show Steps p.tables e below (T5.setTop (mkF m 15 #[vR a0, vI p1, vI (0 : Int32), vI (-1 : Int32), vI (0 : Int32), vI (0 : Int32)] [])) _
      refine XS.iload X5.here hx rfl (hb hby d6_15) rfl ?_
      show Steps p.tables e below (T5.setTop (mkF m 17 #[vR a0, vI p1, vI (0 : Int32), vI (-1 : Int32), vI (0 : Int32), vI (0 : Int32)] [(.int (0 : Int32))])) _
      refine XS.ifNo X5.here hx rfl (hb hby d6_17) rfl ((if0 _ _).trans (teq (rfl : (0 : Int32) = (0 : Int32))).2) ?_
      show Steps p.tables e below (T5.setTop (mkF m 20 #[vR a0, vI p1, vI (0 : Int32), vI (-1 : Int32), vI (0 : Int32), vI (0 : Int32)] [])) _
      refine XS.iloadN X5.here hx rfl (hb hby d6_20) rfl ?_
      show Steps p.tables e below (T5.setTop (mkF m 21 #[vR a0, vI p1, vI (0 : Int32), vI (-1 : Int32), vI (0 : Int32), vI (0 : Int32)] [(.int (0 : Int32))])) _
      refine XS.iloadN X5.here hx rfl (hb hby d6_21) rfl ?_
      show Steps p.tables e below (T5.setTop (mkF m 22 #[vR a0, vI p1, vI (0 : Int32), vI (-1 : Int32), vI (0 : Int32), vI (0 : Int32)] [(.int (-1 : Int32)), (.int (0 : Int32))])) _
      refine XS.icmpYes X5.here hx rfl (pc0 := 22) (pc' := 82) rfl (hb hby d6_22) rfl (tlt (by decide : (-1 : Int32) < (0 : Int32))).2.2.1 (by decide) (by decide) ?_
      show Steps p.tables e below (T5.setTop (mkF m 82 #[vR a0, vI p1, vI (0 : Int32), vI (-1 : Int32), vI (0 : Int32), vI (0 : Int32)] [])) _
      refine XS.iload X5.here hx rfl (hb hby d6_82) rfl ?_
      show Steps p.tables e below (T5.setTop (mkF m 84 #[vR a0, vI p1, vI (0 : Int32), vI (-1 : Int32), vI (0 : Int32), vI (0 : Int32)] [(.int (0 : Int32))])) _
      exact k)
    obtain ⟨fs, hr, hrun, hended, hW, hsame⟩ := X5.leave (v := some (.int (0 : Int32))) (fun h => by rw [Bd.returns] at h; cases h)
    exact ⟨_, _, pre10.fin hS0 (retN X5 hx (t := .boolean) Bd.returns (by simp) (hb hby d6_84) hr), hrun, hended, _, _, rfl, (by
      show Q6_2 Z a0 p1 r k0 x0 x1 x2 x3 h0 n0 _ T5.heap _
      rw [e5]
      exact ⟨congrArg (fun z => some (Value.int z)) (by unfold own_in2; rw [if_neg (by simp only [Int32.lt_iff_toInt_lt] at c42_9 ⊢; omega)]), N0, rfl⟩), ⟨_, rfl⟩, hW, hsame.mono (by decide) (by decide)⟩
  · skip
    have pre11 : Go p.tables e below S0 T5 (mkF m 55 #[vR a0, vI p1, vI (0 : Int32), vI (1 : Int32), vI (0 : Int32), vI (0 : Int32)] [(.ref a0), (.int p1)]) := fun t k => pre8 t (by
      refine XS.icmpYes X5.here hx rfl (pc0 := 42) (pc' := 53) rfl (hb hby d6_42) rfl (flt c42_9).2.1 (by decide) (by decide) ?_
      show Steps p.tables e below (T5.setTop (mkF m 53 #[vR a0, vI p1, vI (0 : Int32), vI (1 : Int32), vI (0 : Int32), vI (0 : Int32)] [])) _
      refine XS.iloadN X5.here hx rfl (hb hby d6_53) rfl ?_
      show Steps p.tables e below (T5.setTop (mkF m 54 #[vR a0, vI p1, vI (0 : Int32), vI (1 : Int32), vI (0 : Int32), vI (0 : Int32)] [(.int p1)])) _
      refine XS.aloadN X5.here hx rfl (hb hby d6_54) rfl rfl ?_
      show Steps p.tables e below (T5.setTop (mkF m 55 #[vR a0, vI p1, vI (0 : Int32), vI (1 : Int32), vI (0 : Int32), vI (0 : Int32)] [(.ref a0), (.int p1)])) _
      exact k)
    obtain ⟨T12, X12, e12, st12⟩ := getF X5 hx hZ hown (host := "") (Or.inl (hw _ (List.mem_of_getElem? (i := 24) rfl))) Via.refl e5 F0 (g := (mkF m 55 #[vR a0, vI p1, vI (0 : Int32), vI (1 : Int32), vI (0 : Int32), vI (0 : Int32)] [(.ref a0), (.int p1)])) rfl rfl (hb hby d6_55)
    have pre12 : Go p.tables e below S0 T12 (mkF m 58 #[vR a0, vI p1, vI (0 : Int32), vI (1 : Int32), vI (0 : Int32), vI (0 : Int32)] [(.ref r), (.int p1)]) := fun t k => pre11 t (st12 t k)
    have pre13 : Go p.tables e below S0 T12 (mkF m 64 #[vR a0, vI p1, vI (0 : Int32), vI (1 : Int32), vI (0 : Int32), vI (0 : Int32)] [(.int (1 : Int32)), (.ref r), (.int p1)]) := fun t k => pre12 t (by
      refine XS.iconst X12.here hx rfl (hb hby d6_58) ?_
      show Steps p.tables e below (T12.setTop (mkF m 59 #[vR a0, vI p1, vI (0 : Int32), vI (1 : Int32), vI (0 : Int32), vI (0 : Int32)] [(.int (2 : Int32)), (.ref r), (.int p1)])) _
      refine XS.iload X12.here hx rfl (hb hby d6_59) rfl ?_
      show Steps p.tables e below (T12.setTop (mkF m 61 #[vR a0, vI p1, vI (0 : Int32), vI (1 : Int32), vI (0 : Int32), vI (0 : Int32)] [(.int (0 : Int32)), (.int (2 : Int32)), (.ref r), (.int p1)])) _
      refine XS.imul X12.here hx rfl (hb hby d6_61) rfl ?_
      show Steps p.tables e below (T12.setTop (mkF m 62 #[vR a0, vI p1, vI (0 : Int32), vI (1 : Int32), vI (0 : Int32), vI (0 : Int32)] [(.int (0 : Int32)), (.ref r), (.int p1)])) _
      refine XS.iconst X12.here hx rfl (hb hby d6_62) ?_
      show Steps p.tables e below (T12.setTop (mkF m 63 #[vR a0, vI p1, vI (0 : Int32), vI (1 : Int32), vI (0 : Int32), vI (0 : Int32)] [(.int (1 : Int32)), (.int (0 : Int32)), (.ref r), (.int p1)])) _
      refine XS.iadd X12.here hx rfl (hb hby d6_63) rfl ?_
      show Steps p.tables e below (T12.setTop (mkF m 64 #[vR a0, vI p1, vI (0 : Int32), vI (1 : Int32), vI (0 : Int32), vI (0 : Int32)] [(.int (1 : Int32)), (.ref r), (.int p1)])) _
      exact k)
    obtain ⟨cl14, Ar14, q14, S14, M14, H14, G14⟩ := id V0
    have in14 : ¬ ((1 : Int32) < 0 ∨ cl14.slots.size ≤ ((1 : Int32)).toNatClampNeg) := inb_of S14 ⟨by decide, by decide⟩
    have at14 : cl14.slots[((1 : Int32)).toNatClampNeg]? = some (.int x1) := H14.at in14 rfl
    have pre15 : Go p.tables e below S0 T12 (mkF m 65 #[vR a0, vI p1, vI (0 : Int32), vI (1 : Int32), vI (0 : Int32), vI (0 : Int32)] [(.int x1), (.int p1)]) := fun t k => pre13 t (by
      refine X12.iaload hx (j := (1 : Int32)) (v := (.int x1)) (by rw [e12]; exact Ar14.1) (State.isArrayOf_alike hZ.alike Ar14.2.1) Ar14.2.2 in14 at14 (g := (mkF m 64 #[vR a0, vI p1, vI (0 : Int32), vI (1 : Int32), vI (0 : Int32), vI (0 : Int32)] [(.int (1 : Int32)), (.ref r), (.int p1)])) rfl rfl (hb hby d6_64) _ ?_
      show Steps p.tables e below (T12.setTop (mkF m 65 #[vR a0, vI p1, vI (0 : Int32), vI (1 : Int32), vI (0 : Int32), vI (0 : Int32)] [(.int x1), (.int p1)])) _
      exact k)
    by_cases c65_16 : x1 < p1
    · skip
      have pre17 : Go p.tables e below S0 T12 (mkF m 34 #[vR a0, vI p1, vI (1 : Int32), vI (1 : Int32), vI (0 : Int32), vI (1 : Int32)] [(.ref a0), (.int p1)]) := fun t k => pre15 t (by
        refine XS.icmpNo X12.here hx rfl (hb hby d6_65) rfl (tlt c65_16).2.2.2 ?_
        show Steps p.tables e below (T12.setTop (mkF m 68 #[vR a0, vI p1, vI (0 : Int32), vI (1 : Int32), vI (0 : Int32), vI (0 : Int32)] [])) _
        refine XS.iload X12.here hx rfl (hb hby d6_68) rfl ?_
        show Steps p.tables e below (T12.setTop (mkF m 70 #[vR a0, vI p1, vI (0 : Int32), vI (1 : Int32), vI (0 : Int32), vI (0 : Int32)] [(.int (0 : Int32))])) _
        refine XS.iconst X12.here hx rfl (hb hby d6_70) ?_
        show Steps p.tables e below (T12.setTop (mkF m 71 #[vR a0, vI p1, vI (0 : Int32), vI (1 : Int32), vI (0 : Int32), vI (0 : Int32)] [(.int (1 : Int32)), (.int (0 : Int32))])) _
        refine XS.iadd X12.here hx rfl (hb hby d6_71) rfl ?_
        show Steps p.tables e below (T12.setTop (mkF m 72 #[vR a0, vI p1, vI (0 : Int32), vI (1 : Int32), vI (0 : Int32), vI (0 : Int32)] [(.int (1 : Int32))])) _
        refine XS.istoreN X12.here hx rfl (hb hby d6_72) rfl (l' := #[vR a0, vI p1, vI (1 : Int32), vI (1 : Int32), vI (0 : Int32), vI (0 : Int32)]) rfl ?_
        show Steps p.tables e below (T12.setTop (mkF m 73 #[vR a0, vI p1, vI (1 : Int32), vI (1 : Int32), vI (0 : Int32), vI (0 : Int32)] [])) _
        refine XS.goto X12.here hx rfl (pc0 := 73) (pc' := 79) rfl (hb hby d6_73) (by decide) (by decide) ?_
        show Steps p.tables e below (T12.setTop (mkF m 79 #[vR a0, vI p1, vI (1 : Int32), vI (1 : Int32), vI (0 : Int32), vI (0 : Int32)] [])) _
        refine XS.goto X12.here hx rfl (pc0 := 79) (pc' := 15) rfl (hb hby d6_79) (by decide) (by decide) ?_
        show Steps p.tables e below (T12.setTop (mkF m 15 #[vR a0, vI p1, vI (1 : Int32), vI (1 : Int32), vI (0 : Int32), vI (0 : Int32)] [])) _
        refine XS.iload X12.here hx rfl (hb hby d6_15) rfl ?_
        show Steps p.tables e below (T12.setTop (mkF m 17 #[vR a0, vI p1, vI (1 : Int32), vI (1 : Int32), vI (0 : Int32), vI (0 : Int32)] [(.int (0 : Int32))])) _
        refine XS.ifNo X12.here hx rfl (hb hby d6_17) rfl ((if0 _ _).trans (teq (rfl : (0 : Int32) = (0 : Int32))).2) ?_
        show Steps p.tables e below (T12.setTop (mkF m 20 #[vR a0, vI p1, vI (1 : Int32), vI (1 : Int32), vI (0 : Int32), vI (0 : Int32)] [])) _
        refine XS.iloadN X12.here hx rfl (hb hby d6_20) rfl ?_
        show Steps p.tables e below (T12.setTop (mkF m 21 #[vR a0, vI p1, vI (1 : Int32), vI (1 : Int32), vI (0 : Int32), vI (0 : Int32)] [(.int (1 : Int32))])) _
        refine XS.iloadN X12.here hx rfl (hb hby d6_21) rfl ?_
        show Steps p.tables e below (T12.setTop (mkF m 22 #[vR a0, vI p1, vI (1 : Int32), vI (1 : Int32), vI (0 : Int32), vI (0 : Int32)] [(.int (1 : Int32)), (.int (1 : Int32))])) _
        refine XS.icmpNo X12.here hx rfl (hb hby d6_22) rfl (flt (by decide : ¬ ((1 : Int32) < (1 : Int32)))).2.2.1 ?_
        show Steps p.tables e below (T12.setTop (mkF m 25 #[vR a0, vI p1, vI (1 : Int32), vI (1 : Int32), vI (0 : Int32), vI (0 : Int32)] [])) _
        refine XS.iloadN X12.here hx rfl (hb hby d6_25) rfl ?_
        show Steps p.tables e below (T12.setTop (mkF m 26 #[vR a0, vI p1, vI (1 : Int32), vI (1 : Int32), vI (0 : Int32), vI (0 : Int32)] [(.int (1 : Int32))])) _
        refine XS.iloadN X12.here hx rfl (hb hby d6_26) rfl ?_
        show Steps p.tables e below (T12.setTop (mkF m 27 #[vR a0, vI p1, vI (1 : Int32), vI (1 : Int32), vI (0 : Int32), vI (0 : Int32)] [(.int (1 : Int32)), (.int (1 : Int32))])) _
        refine XS.iadd X12.here hx rfl (hb hby d6_27) rfl ?_
        show Steps p.tables e below (T12.setTop (mkF m 28 #[vR a0, vI p1, vI (1 : Int32), vI (1 : Int32), vI (0 : Int32), vI (0 : Int32)] [(.int (2 : Int32))])) _
        refine XS.iconst X12.here hx rfl (hb hby d6_28) ?_
        show Steps p.tables e below (T12.setTop (mkF m 29 #[vR a0, vI p1, vI (1 : Int32), vI (1 : Int32), vI (0 : Int32), vI (0 : Int32)] [(.int (1 : Int32)), (.int (2 : Int32))])) _
        refine XS.iushr X12.here hx rfl (hb hby d6_29) rfl ?_
        show Steps p.tables e below (T12.setTop (mkF m 30 #[vR a0, vI p1, vI (1 : Int32), vI (1 : Int32), vI (0 : Int32), vI (0 : Int32)] [(.int (1 : Int32))])) _
        refine XS.istore X12.here hx rfl (hb hby d6_30) rfl (l' := #[vR a0, vI p1, vI (1 : Int32), vI (1 : Int32), vI (0 : Int32), vI (1 : Int32)]) rfl ?_
        show Steps p.tables e below (T12.setTop (mkF m 32 #[vR a0, vI p1, vI (1 : Int32), vI (1 : Int32), vI (0 : Int32), vI (1 : Int32)] [])) _
        refine XS.iloadN X12.here hx rfl (hb hby d6_32) rfl ?_
        show Steps p.tables e below (T12.setTop (mkF m 33 #[vR a0, vI p1, vI (1 : Int32), vI (1 : Int32), vI (0 : Int32), vI (1 : Int32)] [(.int p1)])) _
        refine XS.aloadN X12.here hx rfl (hb hby d6_33) rfl rfl ?_
        show Steps p.tables e below (T12.setTop (mkF m 34 #[vR a0, vI p1, vI (1 : Int32), vI (1 : Int32), vI (0 : Int32), vI (1 : Int32)] [(.ref a0), (.int p1)])) _
        exact k)
      obtain ⟨T18, X18, e18, st18⟩ := getF X12 hx hZ hown (host := "") (Or.inl (hw _ (List.mem_of_getElem? (i := 24) rfl))) Via.refl e12 F0 (g := (mkF m 34 #[vR a0, vI p1, vI (1 : Int32), vI (1 : Int32), vI (0 : Int32), vI (1 : Int32)] [(.ref a0), (.int p1)])) rfl rfl (hb hby d6_34)
      have pre18 : Go p.tables e below S0 T18 (mkF m 37 #[vR a0, vI p1, vI (1 : Int32), vI (1 : Int32), vI (0 : Int32), vI (1 : Int32)] [(.ref r), (.int p1)]) := fun t k => pre17 t (st18 t k)
      have pre19 : Go p.tables e below S0 T18 (mkF m 41 #[vR a0, vI p1, vI (1 : Int32), vI (1 : Int32), vI (0 : Int32), vI (1 : Int32)] [(.int (2 : Int32)), (.ref r), (.int p1)]) := fun t k => pre18 t (by
        refine XS.iconst X18.here hx rfl (hb hby d6_37) ?_
        show Steps p.tables e below (T18.setTop (mkF m 38 #[vR a0, vI p1, vI (1 : Int32), vI (1 : Int32), vI (0 : Int32), vI (1 : Int32)] [(.int (2 : Int32)), (.ref r), (.int p1)])) _
        refine XS.iload X18.here hx rfl (hb hby d6_38) rfl ?_
        show Steps p.tables e below (T18.setTop (mkF m 40 #[vR a0, vI p1, vI (1 : Int32), vI (1 : Int32), vI (0 : Int32), vI (1 : Int32)] [(.int (1 : Int32)), (.int (2 : Int32)), (.ref r), (.int p1)])) _
        refine XS.imul X18.here hx rfl (hb hby d6_40) rfl ?_
        show Steps p.tables e below (T18.setTop (mkF m 41 #[vR a0, vI p1, vI (1 : Int32), vI (1 : Int32), vI (0 : Int32), vI (1 : Int32)] [(.int (2 : Int32)), (.ref r), (.int p1)])) _
        exact k)
      obtain ⟨cl20, Ar20, q20, S20, M20, H20, G20⟩ := id V0
      have in20 : ¬ ((2 : Int32) < 0 ∨ cl20.slots.size ≤ ((2 : Int32)).toNatClampNeg) := inb_of S20 ⟨by decide, by decide⟩
      have at20 : cl20.slots[((2 : Int32)).toNatClampNeg]? = some (.int x2) := H20.at in20 rfl
      have pre21 : Go p.tables e below S0 T18 (mkF m 42 #[vR a0, vI p1, vI (1 : Int32), vI (1 : Int32), vI (0 : Int32), vI (1 : Int32)] [(.int x2), (.int p1)]) := fun t k => pre19 t (by
        refine X18.iaload hx (j := (2 : Int32)) (v := (.int x2)) (by rw [e18]; exact Ar20.1) (State.isArrayOf_alike hZ.alike Ar20.2.1) Ar20.2.2 in20 at20 (g := (mkF m 41 #[vR a0, vI p1, vI (1 : Int32), vI (1 : Int32), vI (0 : Int32), vI (1 : Int32)] [(.int (2 : Int32)), (.ref r), (.int p1)])) rfl rfl (hb hby d6_41) _ ?_
        show Steps p.tables e below (T18.setTop (mkF m 42 #[vR a0, vI p1, vI (1 : Int32), vI (1 : Int32), vI (0 : Int32), vI (1 : Int32)] [(.int x2), (.int p1)])) _
        exact k)
      by_cases c42_22 : p1 < x2
      · skip
        have pre23 : Go p.tables e below S0 T18 (mkF m 84 #[vR a0, vI p1, vI (1 : Int32), vI (0 : Int32), vI (0 : Int32), vI (1 : Int32)] [(.int (0 : Int32))]) := fun t k => pre21 t (by
          refine XS.icmpNo X18.here hx rfl (hb hby d6_42) rfl (tlt c42_22).2.1 ?_
          show Steps p.tables e below (T18.setTop (mkF m 45 #[vR a0, vI p1, vI (1 : Int32), vI (1 : Int32), vI (0 : Int32), vI (1 : Int32)] [])) _
          refine XS.iload X18.here hx rfl (hb hby d6_45) rfl ?_
          show Steps p.tables e below (T18.setTop (mkF m 47 #[vR a0, vI p1, vI (1 : Int32), vI (1 : Int32), vI (0 : Int32), vI (1 : Int32)] [(.int (1 : Int32))])) _
          refine XS.iconst X18.here hx rfl (hb hby d6_47) ?_
          show Steps p.tables e below (T18.setTop (mkF m 48 #[vR a0, vI p1, vI (1 : Int32), vI (1 : Int32), vI (0 : Int32), vI (1 : Int32)] [(.int (1 : Int32)), (.int (1 : Int32))])) _
          refine XS.isub X18.here hx rfl (hb hby d6_48) rfl ?_
          show Steps p.tables e below (T18.setTop (mkF m 49 #[vR a0, vI p1, vI (1 : Int32), vI (1 : Int32), vI (0 : Int32), vI (1 : Int32)] [(.int (0 : Int32))])) _
          refine XS.istoreN X18.here hx rfl (hb hby d6_49) rfl (l' := #[vR a0, vI p1, vI (1 : Int32), vI (0 : Int32), vI (0 : Int32), vI (1 : Int32)]) rfl ?_
          show Steps p.tables e below (T18.setTop (mkF m 50 #[vR a0, vI p1, vI (1 : Int32), vI (0 : Int32), vI (0 : Int32), vI (1 : Int32)] [])) _
          refine XS.goto X18.here hx rfl (pc0 := 50) (pc' := 79) rfl (hb hby d6_50) (by decide) (by decide) ?_
          show Steps p.tables e below (T18.setTop (mkF m 79 #[vR a0, vI p1, vI (1 : Int32), vI (0 : Int32), vI (0 : Int32), vI (1 : Int32)] [])) _
          refine XS.goto X18.here hx rfl (pc0 := 79) (pc' := 15) rfl (hb hby d6_79) (by decide) (by decide) ?_
          show Steps p.tables e below (T18.setTop (mkF m 15 #[vR a0, vI p1, vI (1 : Int32), vI (0 : Int32), vI (0 : Int32), vI (1 : Int32)] [])) _
          refine XS.iload X18.here hx rfl (hb hby d6_15) rfl ?_
          show Steps p.tables e below (T18.setTop (mkF m 17 #[vR a0, vI p1, vI (1 : Int32), vI (0 : Int32), vI (0 : Int32), vI (1 : Int32)] [(.int (0 : Int32))])) _
          refine XS.ifNo X18.here hx rfl (hb hby d6_17) rfl ((if0 _ _).trans (teq (rfl : (0 : Int32) = (0 : Int32))).2) ?_
          show Steps p.tables e below (T18.setTop (mkF m 20 #[vR a0, vI p1, vI (1 : Int32), vI (0 : Int32), vI (0 : Int32), vI (1 : Int32)] [])) _
          refine XS.iloadN X18.here hx rfl (hb hby d6_20) rfl ?_
          show Steps p.tables e below (T18.setTop (mkF m 21 #[vR a0, vI p1, vI (1 : Int32), vI (0 : Int32), vI (0 : Int32), vI (1 : Int32)] [(.int (1 : Int32))])) _
          refine XS.iloadN X18.here hx rfl (hb hby d6_21) rfl ?_
          show Steps p.tables e below (T18.setTop (mkF m 22 #[vR a0, vI p1, vI (1 : Int32), vI (0 : Int32), vI (0 : Int32), vI (1 : Int32)] [(.int (0 : Int32)), (.int (1 : Int32))])) _
          refine XS.icmpYes X18.here hx rfl (pc0 := 22) (pc' := 82) rfl (hb hby d6_22) rfl (tlt (by decide : (0 : Int32) < (1 : Int32))).2.2.1 (by decide) (by decide) ?_
          show Steps p.tables e below (T18.setTop (mkF m 82 #[vR a0, vI p1, vI (1 : Int32), vI (0 : Int32), vI (0 : Int32), vI (1 : Int32)] [])) _
          refine XS.iload X18.here hx rfl (hb hby d6_82) rfl ?_
          show Steps p.tables e below (T18.setTop (mkF m 84 #[vR a0, vI p1, vI (1 : Int32), vI (0 : Int32), vI (0 : Int32), vI (1 : Int32)] [(.int (0 : Int32))])) _
          exact k)
        obtain ⟨fs, hr, hrun, hended, hW, hsame⟩ := X18.leave (v := some (.int (0 : Int32))) (fun h => by rw [Bd.returns] at h; cases h)
        exact ⟨_, _, pre23.fin hS0 (retN X18 hx (t := .boolean) Bd.returns (by simp) (hb hby d6_84) hr), hrun, hended, _, _, rfl, (by
          show Q6_2 Z a0 p1 r k0 x0 x1 x2 x3 h0 n0 _ T18.heap _
          rw [e18]
          exact ⟨congrArg (fun z => some (Value.int z)) (by unfold own_in2; rw [if_neg (by simp only [Int32.lt_iff_toInt_lt] at c42_9 c65_16 c42_22 ⊢; omega)]), N0, rfl⟩), ⟨_, rfl⟩, hW, hsame.mono (by decide) (by decide)⟩
      · skip
        have pre24 : Go p.tables e below S0 T18 (mkF m 55 #[vR a0, vI p1, vI (1 : Int32), vI (1 : Int32), vI (0 : Int32), vI (1 : Int32)] [(.ref a0), (.int p1)]) := fun t k => pre21 t (by
          refine XS.icmpYes X18.here hx rfl (pc0 := 42) (pc' := 53) rfl (hb hby d6_42) rfl (flt c42_22).2.1 (by decide) (by decide) ?_
          show Steps p.tables e below (T18.setTop (mkF m 53 #[vR a0, vI p1, vI (1 : Int32), vI (1 : Int32), vI (0 : Int32), vI (1 : Int32)] [])) _
          refine XS.iloadN X18.here hx rfl (hb hby d6_53) rfl ?_
          show Steps p.tables e below (T18.setTop (mkF m 54 #[vR a0, vI p1, vI (1 : Int32), vI (1 : Int32), vI (0 : Int32), vI (1 : Int32)] [(.int p1)])) _
          refine XS.aloadN X18.here hx rfl (hb hby d6_54) rfl rfl ?_
          show Steps p.tables e below (T18.setTop (mkF m 55 #[vR a0, vI p1, vI (1 : Int32), vI (1 : Int32), vI (0 : Int32), vI (1 : Int32)] [(.ref a0), (.int p1)])) _
          exact k)
        obtain ⟨T25, X25, e25, st25⟩ := getF X18 hx hZ hown (host := "") (Or.inl (hw _ (List.mem_of_getElem? (i := 24) rfl))) Via.refl e18 F0 (g := (mkF m 55 #[vR a0, vI p1, vI (1 : Int32), vI (1 : Int32), vI (0 : Int32), vI (1 : Int32)] [(.ref a0), (.int p1)])) rfl rfl (hb hby d6_55)
        have pre25 : Go p.tables e below S0 T25 (mkF m 58 #[vR a0, vI p1, vI (1 : Int32), vI (1 : Int32), vI (0 : Int32), vI (1 : Int32)] [(.ref r), (.int p1)]) := fun t k => pre24 t (st25 t k)
        have pre26 : Go p.tables e below S0 T25 (mkF m 64 #[vR a0, vI p1, vI (1 : Int32), vI (1 : Int32), vI (0 : Int32), vI (1 : Int32)] [(.int (3 : Int32)), (.ref r), (.int p1)]) := fun t k => pre25 t (by
          refine XS.iconst X25.here hx rfl (hb hby d6_58) ?_
          show Steps p.tables e below (T25.setTop (mkF m 59 #[vR a0, vI p1, vI (1 : Int32), vI (1 : Int32), vI (0 : Int32), vI (1 : Int32)] [(.int (2 : Int32)), (.ref r), (.int p1)])) _
          refine XS.iload X25.here hx rfl (hb hby d6_59) rfl ?_
          show Steps p.tables e below (T25.setTop (mkF m 61 #[vR a0, vI p1, vI (1 : Int32), vI (1 : Int32), vI (0 : Int32), vI (1 : Int32)] [(.int (1 : Int32)), (.int (2 : Int32)), (.ref r), (.int p1)])) _
          refine XS.imul X25.here hx rfl (hb hby d6_61) rfl ?_
          show Steps p.tables e below (T25.setTop (mkF m 62 #[vR a0, vI p1, vI (1 : Int32), vI (1 : Int32), vI (0 : Int32), vI (1 : Int32)] [(.int (2 : Int32)), (.ref r), (.int p1)])) _
          refine XS.iconst X25.here hx rfl (hb hby d6_62) ?_
          show Steps p.tables e below (T25.setTop (mkF m 63 #[vR a0, vI p1, vI (1 : Int32), vI (1 : Int32), vI (0 : Int32), vI (1 : Int32)] [(.int (1 : Int32)), (.int (2 : Int32)), (.ref r), (.int p1)])) _
          refine XS.iadd X25.here hx rfl (hb hby d6_63) rfl ?_
          show Steps p.tables e below (T25.setTop (mkF m 64 #[vR a0, vI p1, vI (1 : Int32), vI (1 : Int32), vI (0 : Int32), vI (1 : Int32)] [(.int (3 : Int32)), (.ref r), (.int p1)])) _
          exact k)
        obtain ⟨cl27, Ar27, q27, S27, M27, H27, G27⟩ := id V0
        have in27 : ¬ ((3 : Int32) < 0 ∨ cl27.slots.size ≤ ((3 : Int32)).toNatClampNeg) := inb_of S27 ⟨by decide, by decide⟩
        have at27 : cl27.slots[((3 : Int32)).toNatClampNeg]? = some (.int x3) := H27.at in27 rfl
        have pre28 : Go p.tables e below S0 T25 (mkF m 65 #[vR a0, vI p1, vI (1 : Int32), vI (1 : Int32), vI (0 : Int32), vI (1 : Int32)] [(.int x3), (.int p1)]) := fun t k => pre26 t (by
          refine X25.iaload hx (j := (3 : Int32)) (v := (.int x3)) (by rw [e25]; exact Ar27.1) (State.isArrayOf_alike hZ.alike Ar27.2.1) Ar27.2.2 in27 at27 (g := (mkF m 64 #[vR a0, vI p1, vI (1 : Int32), vI (1 : Int32), vI (0 : Int32), vI (1 : Int32)] [(.int (3 : Int32)), (.ref r), (.int p1)])) rfl rfl (hb hby d6_64) _ ?_
          show Steps p.tables e below (T25.setTop (mkF m 65 #[vR a0, vI p1, vI (1 : Int32), vI (1 : Int32), vI (0 : Int32), vI (1 : Int32)] [(.int x3), (.int p1)])) _
          exact k)
        by_cases c65_29 : x3 < p1
        · skip
          have pre30 : Go p.tables e below S0 T25 (mkF m 84 #[vR a0, vI p1, vI (2 : Int32), vI (1 : Int32), vI (0 : Int32), vI (1 : Int32)] [(.int (0 : Int32))]) := fun t k => pre28 t (by
            refine XS.icmpNo X25.here hx rfl (hb hby d6_65) rfl (tlt c65_29).2.2.2 ?_
            show Steps p.tables e below (T25.setTop (mkF m 68 #[vR a0, vI p1, vI (1 : Int32), vI (1 : Int32), vI (0 : Int32), vI (1 : Int32)] [])) _
            refine XS.iload X25.here hx rfl (hb hby d6_68) rfl ?_
            show Steps p.tables e below (T25.setTop (mkF m 70 #[vR a0, vI p1, vI (1 : Int32), vI (1 : Int32), vI (0 : Int32), vI (1 : Int32)] [(.int (1 : Int32))])) _
            refine XS.iconst X25.here hx rfl (hb hby d6_70) ?_
            show Steps p.tables e below (T25.setTop (mkF m 71 #[vR a0, vI p1, vI (1 : Int32), vI (1 : Int32), vI (0 : Int32), vI (1 : Int32)] [(.int (1 : Int32)), (.int (1 : Int32))])) _
            refine XS.iadd X25.here hx rfl (hb hby d6_71) rfl ?_
            show Steps p.tables e below (T25.setTop (mkF m 72 #[vR a0, vI p1, vI (1 : Int32), vI (1 : Int32), vI (0 : Int32), vI (1 : Int32)] [(.int (2 : Int32))])) _
            refine XS.istoreN X25.here hx rfl (hb hby d6_72) rfl (l' := #[vR a0, vI p1, vI (2 : Int32), vI (1 : Int32), vI (0 : Int32), vI (1 : Int32)]) rfl ?_
            show Steps p.tables e below (T25.setTop (mkF m 73 #[vR a0, vI p1, vI (2 : Int32), vI (1 : Int32), vI (0 : Int32), vI (1 : Int32)] [])) _
            refine XS.goto X25.here hx rfl (pc0 := 73) (pc' := 79) rfl (hb hby d6_73) (by decide) (by decide) ?_
            show Steps p.tables e below (T25.setTop (mkF m 79 #[vR a0, vI p1, vI (2 : Int32), vI (1 : Int32), vI (0 : Int32), vI (1 : Int32)] [])) _
            refine XS.goto X25.here hx rfl (pc0 := 79) (pc' := 15) rfl (hb hby d6_79) (by decide) (by decide) ?_
            show Steps p.tables e below (T25.setTop (mkF m 15 #[vR a0, vI p1, vI (2 : Int32), vI (1 : Int32), vI (0 : Int32), vI (1 : Int32)] [])) _
            refine XS.iload X25.here hx rfl (hb hby d6_15) rfl ?_
            show Steps p.tables e below (T25.setTop (mkF m 17 #[vR a0, vI p1, vI (2 : Int32), vI (1 : Int32), vI (0 : Int32), vI (1 : Int32)] [(.int (0 : Int32))])) _
            refine XS.ifNo X25.here hx rfl (hb hby d6_17) rfl ((if0 _ _).trans (teq (rfl : (0 : Int32) = (0 : Int32))).2) ?_
            show Steps p.tables e below (T25.setTop (mkF m 20 #[vR a0, vI p1, vI (2 : Int32), vI (1 : Int32), vI (0 : Int32), vI (1 : Int32)] [])) _
            refine XS.iloadN X25.here hx rfl (hb hby d6_20) rfl ?_
            show Steps p.tables e below (T25.setTop (mkF m 21 #[vR a0, vI p1, vI (2 : Int32), vI (1 : Int32), vI (0 : Int32), vI (1 : Int32)] [(.int (2 : Int32))])) _
            refine XS.iloadN X25.here hx rfl (hb hby d6_21) rfl ?_
            show Steps p.tables e below (T25.setTop (mkF m 22 #[vR a0, vI p1, vI (2 : Int32), vI (1 : Int32), vI (0 : Int32), vI (1 : Int32)] [(.int (1 : Int32)), (.int (2 : Int32))])) _
            refine XS.icmpYes X25.here hx rfl (pc0 := 22) (pc' := 82) rfl (hb hby d6_22) rfl (tlt (by decide : (1 : Int32) < (2 : Int32))).2.2.1 (by decide) (by decide) ?_
            show Steps p.tables e below (T25.setTop (mkF m 82 #[vR a0, vI p1, vI (2 : Int32), vI (1 : Int32), vI (0 : Int32), vI (1 : Int32)] [])) _
            refine XS.iload X25.here hx rfl (hb hby d6_82) rfl ?_
            show Steps p.tables e below (T25.setTop (mkF m 84 #[vR a0, vI p1, vI (2 : Int32), vI (1 : Int32), vI (0 : Int32), vI (1 : Int32)] [(.int (0 : Int32))])) _
            exact k)
          obtain ⟨fs, hr, hrun, hended, hW, hsame⟩ := X25.leave (v := some (.int (0 : Int32))) (fun h => by rw [Bd.returns] at h; cases h)
          exact ⟨_, _, pre30.fin hS0 (retN X25 hx (t := .boolean) Bd.returns (by simp) (hb hby d6_84) hr), hrun, hended, _, _, rfl, (by
            show Q6_2 Z a0 p1 r k0 x0 x1 x2 x3 h0 n0 _ T25.heap _
            rw [e25]
            exact ⟨congrArg (fun z => some (Value.int z)) (by unfold own_in2; rw [if_neg (by simp only [Int32.lt_iff_toInt_lt] at c42_9 c65_16 c42_22 c65_29 ⊢; omega)]), N0, rfl⟩), ⟨_, rfl⟩, hW, hsame.mono (by decide) (by decide)⟩
        · skip
          have pre31 : Go p.tables e below S0 T25 (mkF m 84 #[vR a0, vI p1, vI (1 : Int32), vI (1 : Int32), vI (1 : Int32), vI (1 : Int32)] [(.int (1 : Int32))]) := fun t k => pre28 t (by
            refine XS.icmpYes X25.here hx rfl (pc0 := 65) (pc' := 76) rfl (hb hby d6_65) rfl (flt c65_29).2.2.2 (by decide) (by decide) ?_
            show Steps p.tables e below (T25.setTop (mkF m 76 #[vR a0, vI p1, vI (1 : Int32), vI (1 : Int32), vI (0 : Int32), vI (1 : Int32)] [])) _
            refine XS.iconst X25.here hx rfl (hb hby d6_76) ?_
            show Steps p.tables e below (T25.setTop (mkF m 77 #[vR a0, vI p1, vI (1 : Int32), vI (1 : Int32), vI (0 : Int32), vI (1 : Int32)] [(.int (1 : Int32))])) _
            refine XS.istore X25.here hx rfl (hb hby d6_77) rfl (l' := #[vR a0, vI p1, vI (1 : Int32), vI (1 : Int32), vI (1 : Int32), vI (1 : Int32)]) rfl ?_
            show Steps p.tables e below (T25.setTop (mkF m 79 #[vR a0, vI p1, vI (1 : Int32), vI (1 : Int32), vI (1 : Int32), vI (1 : Int32)] [])) _
            refine XS.goto X25.here hx rfl (pc0 := 79) (pc' := 15) rfl (hb hby d6_79) (by decide) (by decide) ?_
            show Steps p.tables e below (T25.setTop (mkF m 15 #[vR a0, vI p1, vI (1 : Int32), vI (1 : Int32), vI (1 : Int32), vI (1 : Int32)] [])) _
            refine XS.iload X25.here hx rfl (hb hby d6_15) rfl ?_
            show Steps p.tables e below (T25.setTop (mkF m 17 #[vR a0, vI p1, vI (1 : Int32), vI (1 : Int32), vI (1 : Int32), vI (1 : Int32)] [(.int (1 : Int32))])) _
            refine XS.ifYes X25.here hx rfl (pc0 := 17) (pc' := 82) rfl (hb hby d6_17) rfl ((if0 _ _).trans (feq (by decide : ¬ ((1 : Int32) = (0 : Int32)))).2) (by decide) (by decide) ?_
            show Steps p.tables e below (T25.setTop (mkF m 82 #[vR a0, vI p1, vI (1 : Int32), vI (1 : Int32), vI (1 : Int32), vI (1 : Int32)] [])) _
            refine XS.iload X25.here hx rfl (hb hby d6_82) rfl ?_
            show Steps p.tables e below (T25.setTop (mkF m 84 #[vR a0, vI p1, vI (1 : Int32), vI (1 : Int32), vI (1 : Int32), vI (1 : Int32)] [(.int (1 : Int32))])) _
            exact k)
          obtain ⟨fs, hr, hrun, hended, hW, hsame⟩ := X25.leave (v := some (.int (1 : Int32))) (fun h => by rw [Bd.returns] at h; cases h)
          exact ⟨_, _, pre31.fin hS0 (retN X25 hx (t := .boolean) Bd.returns (by simp) (hb hby d6_84) hr), hrun, hended, _, _, rfl, (by
            show Q6_2 Z a0 p1 r k0 x0 x1 x2 x3 h0 n0 _ T25.heap _
            rw [e25]
            exact ⟨congrArg (fun z => some (Value.int z)) (by unfold own_in2; rw [if_pos (by simp only [Int32.lt_iff_toInt_lt] at c42_9 c65_16 c42_22 c65_29 ⊢; omega)]), N0, rfl⟩), ⟨_, rfl⟩, hW, hsame.mono (by decide) (by decide)⟩
    · skip
      have pre32 : Go p.tables e below S0 T12 (mkF m 84 #[vR a0, vI p1, vI (0 : Int32), vI (1 : Int32), vI (1 : Int32), vI (0 : Int32)] [(.int (1 : Int32))]) := fun t k => pre15 t (by
        refine XS.icmpYes X12.here hx rfl (pc0 := 65) (pc' := 76) rfl (hb hby d6_65) rfl (flt c65_16).2.2.2 (by decide) (by decide) ?_
        show Steps p.tables e below (T12.setTop (mkF m 76 #[vR a0, vI p1, vI (0 : Int32), vI (1 : Int32), vI (0 : Int32), vI (0 : Int32)] [])) _
        refine XS.iconst X12.here hx rfl (hb hby d6_76) ?_
        show Steps p.tables e below (T12.setTop (mkF m 77 #[vR a0, vI p1, vI (0 : Int32), vI (1 : Int32), vI (0 : Int32), vI (0 : Int32)] [(.int (1 : Int32))])) _
        refine XS.istore X12.here hx rfl (hb hby d6_77) rfl (l' := #[vR a0, vI p1, vI (0 : Int32), vI (1 : Int32), vI (1 : Int32), vI (0 : Int32)]) rfl ?_
        show Steps p.tables e below (T12.setTop (mkF m 79 #[vR a0, vI p1, vI (0 : Int32), vI (1 : Int32), vI (1 : Int32), vI (0 : Int32)] [])) _
        refine XS.goto X12.here hx rfl (pc0 := 79) (pc' := 15) rfl (hb hby d6_79) (by decide) (by decide) ?_
        show Steps p.tables e below (T12.setTop (mkF m 15 #[vR a0, vI p1, vI (0 : Int32), vI (1 : Int32), vI (1 : Int32), vI (0 : Int32)] [])) _
        refine XS.iload X12.here hx rfl (hb hby d6_15) rfl ?_
        show Steps p.tables e below (T12.setTop (mkF m 17 #[vR a0, vI p1, vI (0 : Int32), vI (1 : Int32), vI (1 : Int32), vI (0 : Int32)] [(.int (1 : Int32))])) _
        refine XS.ifYes X12.here hx rfl (pc0 := 17) (pc' := 82) rfl (hb hby d6_17) rfl ((if0 _ _).trans (feq (by decide : ¬ ((1 : Int32) = (0 : Int32)))).2) (by decide) (by decide) ?_
        show Steps p.tables e below (T12.setTop (mkF m 82 #[vR a0, vI p1, vI (0 : Int32), vI (1 : Int32), vI (1 : Int32), vI (0 : Int32)] [])) _
        refine XS.iload X12.here hx rfl (hb hby d6_82) rfl ?_
        show Steps p.tables e below (T12.setTop (mkF m 84 #[vR a0, vI p1, vI (0 : Int32), vI (1 : Int32), vI (1 : Int32), vI (0 : Int32)] [(.int (1 : Int32))])) _
        exact k)
      obtain ⟨fs, hr, hrun, hended, hW, hsame⟩ := X12.leave (v := some (.int (1 : Int32))) (fun h => by rw [Bd.returns] at h; cases h)
      exact ⟨_, _, pre32.fin hS0 (retN X12 hx (t := .boolean) Bd.returns (by simp) (hb hby d6_84) hr), hrun, hended, _, _, rfl, (by
        show Q6_2 Z a0 p1 r k0 x0 x1 x2 x3 h0 n0 _ T12.heap _
        rw [e12]
        exact ⟨congrArg (fun z => some (Value.int z)) (by unfold own_in2; rw [if_pos (by simp only [Int32.lt_iff_toInt_lt] at c42_9 c65_16 ⊢; omega)]), N0, rfl⟩), ⟨_, rfl⟩, hW, hsame.mono (by decide) (by decide)⟩
theorem ef_6_3 (m : MethodId) (x0 : Addr) (x1 : Int32) : entryFrame m #[(.ref x0), (.int x1)] 6 = mkF m 0 #[.val (.ref x0), .val (.int x1), .unset, .unset, .unset, .unset] [] := by first | (simp [entryFrame, mkF, argsToLocals, Value.category]; done) | rfl
def Q6_3 (Z : State) (a0 : Addr) (p1 : Int32) (r : Addr) (k0 : ClassId) (x0 : Int32) (x1 : Int32) (x2 : Int32) (x3 : Int32) (x4 : Int32) (x5 : Int32) (h0 : Heap) (n0 : Nat) (v : Option Value) (h : Heap) (L : List Loc) : Prop := v = some (.int (own_in3 p1 x0 x1 x2 x3 x4 x5)) ∧ Fr n0 L ∧ h = h0
set_option maxRecDepth 65536 in
set_option maxHeartbeats 40000000 in
theorem rm6_3 (l : Launch) (Z : State) (A0 : Array Value) (hw : ∀ d ∈ tables_1, d.before A0 Z = true) (ws : List Jvm.Cond) (a0 : Addr) (p1 : Int32) (r : Addr) (k0 : ClassId) (x0 : Int32) (x1 : Int32) (x2 : Int32) (x3 : Int32) (x4 : Int32) (x5 : Int32) (h0 : Heap) (n0 : Nat) (Z0 : n0 ≤ h0.size) (F0 : Fld Z h0 a0 "com/example/attest/attest/metadata/ScopeSyntax$Chars" "ranges" "[I" (.ref r)) (V0 : Arv Z h0 r k0 .int (6 : Int32) [(.int x0), (.int x1), (.int x2), (.int x3), (.int x4), (.int x5)] (.int (0 : Int32))) (hs : x0.toInt ≤ x1.toInt ∧ x1.toInt < x2.toInt ∧ x2.toInt ≤ x3.toInt ∧ x3.toInt < x4.toInt ∧ x4.toInt ≤ x5.toInt) :
    MetFree l (⟨"com/example/attest/attest/metadata/ScopeSyntax$Chars", "contains", "(I)Z"⟩ : MethodName) (head1 (Jvm.Cond.code (⟨"com/example/attest/attest/metadata/ScopeSyntax$Chars", "contains", "(I)Z"⟩ : MethodName) prog_52_method_3_code 6 (some .boolean) :: ws) ({ frames := 0, cells := 0, slots := 0, locals := 0 } : Room)) (fun a U => a = #[(.ref a0), (.int p1)] ∧ Z.Warmed39 U.vm ∧ U.heap = h0) (fun _ _ _ _ _ => True) (fun _ U o U' => ∃ v L, o = .returned v ∧ Q6_3 Z a0 p1 r k0 x0 x1 x2 x3 x4 x5 h0 n0 v U'.heap L ∧ FrameEnd U o U' L ({ frames := 0, cells := 0, slots := 0, locals := 0 } : Room).cells ({ frames := 0, cells := 0, slots := 0, locals := 0 } : Room).slots) := by
  refine MetFree.of_bodySF (plainFor_of_name pn_1) hisR ?_
  intro p e s m args below meth c s₁ Bd hml0 hP hK
  obtain ⟨rfl, hZ, hh⟩ := hP
  have hx := Bd.exec
  have hby := Bd.bytes
  have hml : c.maxLocals = 6 := hml0
  have hown : s.vm.findClass "com/example/attest/attest/metadata/ScopeSyntax$Chars" = some m.cls := findClass_of_methodNamed Bd.named
  have hnm := (name_of_methodNamed Bd.named Bd.method).1
  have X0 : Stand p l e ({ frames := 0, cells := 0, slots := 0, locals := 0 } : Room) s m #[(.ref a0), (.int p1)] below meth c s₁ [] 0 0 := Stand.of_body Bd
  have e0 : s₁.heap = h0 := by rw [← hh, Bd.state]; rfl
  have N0 := Fr.nil n0
  obtain ⟨S0, hS0⟩ : ∃ z, z = s₁.setTop (entryFrame m #[(.ref a0), (.int p1)] 6) := ⟨_, rfl⟩
  have pre0 : Go p.tables e below S0 s₁ (mkF m 0 #[vR a0, vI p1, .unset, .unset, .unset, .unset] []) := fun t k => by rw [hS0]; exact castTop (ef_6_3 m a0 p1) k
  have pre1 : Go p.tables e below S0 s₁ (mkF m 3 #[vR a0, vI p1, vI (0 : Int32), .unset, .unset, .unset] [(.ref a0)]) := fun t k => pre0 t (by
    refine XS.iconst X0.here hx rfl (hb hby d6_0) ?_
    show Steps p.tables e below (s₁.setTop (mkF m 1 #[vR a0, vI p1, .unset, .unset, .unset, .unset] [(.int (0 : Int32))])) _
    refine XS.istoreN X0.here hx rfl (hb hby d6_1) rfl (l' := #[vR a0, vI p1, vI (0 : Int32), .unset, .unset, .unset]) rfl ?_
    show Steps p.tables e below (s₁.setTop (mkF m 2 #[vR a0, vI p1, vI (0 : Int32), .unset, .unset, .unset] [])) _
    refine XS.aloadN X0.here hx rfl (hb hby d6_2) rfl rfl ?_
    show Steps p.tables e below (s₁.setTop (mkF m 3 #[vR a0, vI p1, vI (0 : Int32), .unset, .unset, .unset] [(.ref a0)])) _
    exact k)
  obtain ⟨T2, X2, e2, st2⟩ := getF X0 hx hZ hown (host := "") (Or.inl (hw _ (List.mem_of_getElem? (i := 24) rfl))) Via.refl e0 F0 (g := (mkF m 3 #[vR a0, vI p1, vI (0 : Int32), .unset, .unset, .unset] [(.ref a0)])) rfl rfl (hb hby d6_3)
  have pre2 : Go p.tables e below S0 T2 (mkF m 6 #[vR a0, vI p1, vI (0 : Int32), .unset, .unset, .unset] [(.ref r)]) := fun t k => pre1 t (st2 t k)
  obtain ⟨cl3, Ar3, q3, S3, M3, H3, G3⟩ := id V0
  have pre4 : Go p.tables e below S0 T2 (mkF m 34 #[vR a0, vI p1, vI (0 : Int32), vI (2 : Int32), vI (0 : Int32), vI (1 : Int32)] [(.ref a0), (.int p1)]) := fun t k => pre2 t (by
    refine X2.arraylength hx (by rw [e2]; exact Ar3.1) (State.isArrayOf_alike hZ.alike Ar3.2.1) (g := (mkF m 6 #[vR a0, vI p1, vI (0 : Int32), .unset, .unset, .unset] [(.ref r)])) rfl rfl (hb hby d6_6) _ ?_
    rw [len_of S3 M3]
    show Steps p.tables e below (T2.setTop (mkF m 7 #[vR a0, vI p1, vI (0 : Int32), .unset, .unset, .unset] [(.int (6 : Int32))])) _
    refine XS.iconst X2.here hx rfl (hb hby d6_7) ?_
    show Steps p.tables e below (T2.setTop (mkF m 8 #[vR a0, vI p1, vI (0 : Int32), .unset, .unset, .unset] [(.int (2 : Int32)), (.int (6 : Int32))])) _
    refine XS.idiv X2.here hx rfl (hb hby d6_8) rfl (by decide) ?_
    show Steps p.tables e below (T2.setTop (mkF m 9 #[vR a0, vI p1, vI (0 : Int32), .unset, .unset, .unset] [(.int (3 : Int32))])) _
    refine XS.iconst X2.here hx rfl (hb hby d6_9) ?_
    show Steps p.tables e below (T2.setTop (mkF m 10 #[vR a0, vI p1, vI (0 : Int32), .unset, .unset, .unset] [(.int (1 : Int32)), (.int (3 : Int32))])) _
    refine XS.isub X2.here hx rfl (hb hby d6_10) rfl ?_
    show Steps p.tables e below (T2.setTop (mkF m 11 #[vR a0, vI p1, vI (0 : Int32), .unset, .unset, .unset] [(.int (2 : Int32))])) _
    refine XS.istoreN X2.here hx rfl (hb hby d6_11) rfl (l' := #[vR a0, vI p1, vI (0 : Int32), vI (2 : Int32), .unset, .unset]) rfl ?_
    show Steps p.tables e below (T2.setTop (mkF m 12 #[vR a0, vI p1, vI (0 : Int32), vI (2 : Int32), .unset, .unset] [])) _
    refine XS.iconst X2.here hx rfl (hb hby d6_12) ?_
    show Steps p.tables e below (T2.setTop (mkF m 13 #[vR a0, vI p1, vI (0 : Int32), vI (2 : Int32), .unset, .unset] [(.int (0 : Int32))])) _
    refine XS.istore X2.here hx rfl (hb hby d6_13) rfl (l' := #[vR a0, vI p1, vI (0 : Int32), vI (2 : Int32), vI (0 : Int32), .unset]) rfl ?_
    show Steps p.tables e below (T2.setTop (mkF m 15 #[vR a0, vI p1, vI (0 : Int32), vI (2 : Int32), vI (0 : Int32), .unset] [])) _
    refine XS.iload X2.here hx rfl (hb hby d6_15) rfl ?_
    show Steps p.tables e below (T2.setTop (mkF m 17 #[vR a0, vI p1, vI (0 : Int32), vI (2 : Int32), vI (0 : Int32), .unset] [(.int (0 : Int32))])) _
    refine XS.ifNo X2.here hx rfl (hb hby d6_17) rfl ((if0 _ _).trans (teq (rfl : (0 : Int32) = (0 : Int32))).2) ?_
    show Steps p.tables e below (T2.setTop (mkF m 20 #[vR a0, vI p1, vI (0 : Int32), vI (2 : Int32), vI (0 : Int32), .unset] [])) _
    refine XS.iloadN X2.here hx rfl (hb hby d6_20) rfl ?_
    show Steps p.tables e below (T2.setTop (mkF m 21 #[vR a0, vI p1, vI (0 : Int32), vI (2 : Int32), vI (0 : Int32), .unset] [(.int (0 : Int32))])) _
    refine XS.iloadN X2.here hx rfl (hb hby d6_21) rfl ?_
    show Steps p.tables e below (T2.setTop (mkF m 22 #[vR a0, vI p1, vI (0 : Int32), vI (2 : Int32), vI (0 : Int32), .unset] [(.int (2 : Int32)), (.int (0 : Int32))])) _
    refine XS.icmpNo X2.here hx rfl (hb hby d6_22) rfl (flt (by decide : ¬ ((2 : Int32) < (0 : Int32)))).2.2.1 ?_
    show Steps p.tables e below (T2.setTop (mkF m 25 #[vR a0, vI p1, vI (0 : Int32), vI (2 : Int32), vI (0 : Int32), .unset] [])) _
    refine XS.iloadN X2.here hx rfl (hb hby d6_25) rfl ?_
    show Steps p.tables e below (T2.setTop (mkF m 26 #[vR a0, vI p1, vI (0 : Int32), vI (2 : Int32), vI (0 : Int32), .unset] [(.int (0 : Int32))])) _
    refine XS.iloadN X2.here hx rfl (hb hby d6_26) rfl ?_
    show Steps p.tables e below (T2.setTop (mkF m 27 #[vR a0, vI p1, vI (0 : Int32), vI (2 : Int32), vI (0 : Int32), .unset] [(.int (2 : Int32)), (.int (0 : Int32))])) _
    refine XS.iadd X2.here hx rfl (hb hby d6_27) rfl ?_
    show Steps p.tables e below (T2.setTop (mkF m 28 #[vR a0, vI p1, vI (0 : Int32), vI (2 : Int32), vI (0 : Int32), .unset] [(.int (2 : Int32))])) _
    refine XS.iconst X2.here hx rfl (hb hby d6_28) ?_
    show Steps p.tables e below (T2.setTop (mkF m 29 #[vR a0, vI p1, vI (0 : Int32), vI (2 : Int32), vI (0 : Int32), .unset] [(.int (1 : Int32)), (.int (2 : Int32))])) _
    refine XS.iushr X2.here hx rfl (hb hby d6_29) rfl ?_
    show Steps p.tables e below (T2.setTop (mkF m 30 #[vR a0, vI p1, vI (0 : Int32), vI (2 : Int32), vI (0 : Int32), .unset] [(.int (1 : Int32))])) _
    refine XS.istore X2.here hx rfl (hb hby d6_30) rfl (l' := #[vR a0, vI p1, vI (0 : Int32), vI (2 : Int32), vI (0 : Int32), vI (1 : Int32)]) rfl ?_
    show Steps p.tables e below (T2.setTop (mkF m 32 #[vR a0, vI p1, vI (0 : Int32), vI (2 : Int32), vI (0 : Int32), vI (1 : Int32)] [])) _
    refine XS.iloadN X2.here hx rfl (hb hby d6_32) rfl ?_
    show Steps p.tables e below (T2.setTop (mkF m 33 #[vR a0, vI p1, vI (0 : Int32), vI (2 : Int32), vI (0 : Int32), vI (1 : Int32)] [(.int p1)])) _
    refine XS.aloadN X2.here hx rfl (hb hby d6_33) rfl rfl ?_
    show Steps p.tables e below (T2.setTop (mkF m 34 #[vR a0, vI p1, vI (0 : Int32), vI (2 : Int32), vI (0 : Int32), vI (1 : Int32)] [(.ref a0), (.int p1)])) _
    exact k)
  obtain ⟨T5, X5, e5, st5⟩ := getF X2 hx hZ hown (host := "") (Or.inl (hw _ (List.mem_of_getElem? (i := 24) rfl))) Via.refl e2 F0 (g := (mkF m 34 #[vR a0, vI p1, vI (0 : Int32), vI (2 : Int32), vI (0 : Int32), vI (1 : Int32)] [(.ref a0), (.int p1)])) rfl rfl (hb hby d6_34)
  have pre5 : Go p.tables e below S0 T5 (mkF m 37 #[vR a0, vI p1, vI (0 : Int32), vI (2 : Int32), vI (0 : Int32), vI (1 : Int32)] [(.ref r), (.int p1)]) := fun t k => pre4 t (st5 t k)
  have pre6 : Go p.tables e below S0 T5 (mkF m 41 #[vR a0, vI p1, vI (0 : Int32), vI (2 : Int32), vI (0 : Int32), vI (1 : Int32)] [(.int (2 : Int32)), (.ref r), (.int p1)]) := fun t k => pre5 t (by
    refine XS.iconst X5.here hx rfl (hb hby d6_37) ?_
    show Steps p.tables e below (T5.setTop (mkF m 38 #[vR a0, vI p1, vI (0 : Int32), vI (2 : Int32), vI (0 : Int32), vI (1 : Int32)] [(.int (2 : Int32)), (.ref r), (.int p1)])) _
    refine XS.iload X5.here hx rfl (hb hby d6_38) rfl ?_
    show Steps p.tables e below (T5.setTop (mkF m 40 #[vR a0, vI p1, vI (0 : Int32), vI (2 : Int32), vI (0 : Int32), vI (1 : Int32)] [(.int (1 : Int32)), (.int (2 : Int32)), (.ref r), (.int p1)])) _
    refine XS.imul X5.here hx rfl (hb hby d6_40) rfl ?_
    show Steps p.tables e below (T5.setTop (mkF m 41 #[vR a0, vI p1, vI (0 : Int32), vI (2 : Int32), vI (0 : Int32), vI (1 : Int32)] [(.int (2 : Int32)), (.ref r), (.int p1)])) _
    exact k)
  obtain ⟨cl7, Ar7, q7, S7, M7, H7, G7⟩ := id V0
  have in7 : ¬ ((2 : Int32) < 0 ∨ cl7.slots.size ≤ ((2 : Int32)).toNatClampNeg) := inb_of S7 ⟨by decide, by decide⟩
  have at7 : cl7.slots[((2 : Int32)).toNatClampNeg]? = some (.int x2) := H7.at in7 rfl
  have pre8 : Go p.tables e below S0 T5 (mkF m 42 #[vR a0, vI p1, vI (0 : Int32), vI (2 : Int32), vI (0 : Int32), vI (1 : Int32)] [(.int x2), (.int p1)]) := fun t k => pre6 t (by
    refine X5.iaload hx (j := (2 : Int32)) (v := (.int x2)) (by rw [e5]; exact Ar7.1) (State.isArrayOf_alike hZ.alike Ar7.2.1) Ar7.2.2 in7 at7 (g := (mkF m 41 #[vR a0, vI p1, vI (0 : Int32), vI (2 : Int32), vI (0 : Int32), vI (1 : Int32)] [(.int (2 : Int32)), (.ref r), (.int p1)])) rfl rfl (hb hby d6_41) _ ?_
    show Steps p.tables e below (T5.setTop (mkF m 42 #[vR a0, vI p1, vI (0 : Int32), vI (2 : Int32), vI (0 : Int32), vI (1 : Int32)] [(.int x2), (.int p1)])) _
    exact k)
  by_cases c42_9 : p1 < x2
  · skip
    have pre10 : Go p.tables e below S0 T5 (mkF m 34 #[vR a0, vI p1, vI (0 : Int32), vI (0 : Int32), vI (0 : Int32), vI (0 : Int32)] [(.ref a0), (.int p1)]) := fun t k => pre8 t (by
      refine XS.icmpNo X5.here hx rfl (hb hby d6_42) rfl (tlt c42_9).2.1 ?_
      show Steps p.tables e below (T5.setTop (mkF m 45 #[vR a0, vI p1, vI (0 : Int32), vI (2 : Int32), vI (0 : Int32), vI (1 : Int32)] [])) _
      refine XS.iload X5.here hx rfl (hb hby d6_45) rfl ?_
      show Steps p.tables e below (T5.setTop (mkF m 47 #[vR a0, vI p1, vI (0 : Int32), vI (2 : Int32), vI (0 : Int32), vI (1 : Int32)] [(.int (1 : Int32))])) _
      refine XS.iconst X5.here hx rfl (hb hby d6_47) ?_
      show Steps p.tables e below (T5.setTop (mkF m 48 #[vR a0, vI p1, vI (0 : Int32), vI (2 : Int32), vI (0 : Int32), vI (1 : Int32)] [(.int (1 : Int32)), (.int (1 : Int32))])) _
      refine XS.isub X5.here hx rfl (hb hby d6_48) rfl ?_
      show Steps p.tables e below (T5.setTop (mkF m 49 #[vR a0, vI p1, vI (0 : Int32), vI (2 : Int32), vI (0 : Int32), vI (1 : Int32)] [(.int (0 : Int32))])) _
      refine XS.istoreN X5.here hx rfl (hb hby d6_49) rfl (l' := #[vR a0, vI p1, vI (0 : Int32), vI (0 : Int32), vI (0 : Int32), vI (1 : Int32)]) rfl ?_
      show Steps p.tables e below (T5.setTop (mkF m 50 #[vR a0, vI p1, vI (0 : Int32), vI (0 : Int32), vI (0 : Int32), vI (1 : Int32)] [])) _
      refine XS.goto X5.here hx rfl (pc0 := 50) (pc' := 79) rfl (hb hby d6_50) (by decide) (by decide) ?_
      show Steps p.tables e below (T5.setTop (mkF m 79 #[vR a0, vI p1, vI (0 : Int32), vI (0 : Int32), vI (0 : Int32), vI (1 : Int32)] [])) _
      refine XS.goto X5.here hx rfl (pc0 := 79) (pc' := 15) rfl (hb hby d6_79) (by decide) (by decide) ?_
      show Steps p.tables e below (T5.setTop (mkF m 15 #[vR a0, vI p1, vI (0 : Int32), vI (0 : Int32), vI (0 : Int32), vI (1 : Int32)] [])) _
      refine XS.iload X5.here hx rfl (hb hby d6_15) rfl ?_
      show Steps p.tables e below (T5.setTop (mkF m 17 #[vR a0, vI p1, vI (0 : Int32), vI (0 : Int32), vI (0 : Int32), vI (1 : Int32)] [(.int (0 : Int32))])) _
      refine XS.ifNo X5.here hx rfl (hb hby d6_17) rfl ((if0 _ _).trans (teq (rfl : (0 : Int32) = (0 : Int32))).2) ?_
      show Steps p.tables e below (T5.setTop (mkF m 20 #[vR a0, vI p1, vI (0 : Int32), vI (0 : Int32), vI (0 : Int32), vI (1 : Int32)] [])) _
      refine XS.iloadN X5.here hx rfl (hb hby d6_20) rfl ?_
      show Steps p.tables e below (T5.setTop (mkF m 21 #[vR a0, vI p1, vI (0 : Int32), vI (0 : Int32), vI (0 : Int32), vI (1 : Int32)] [(.int (0 : Int32))])) _
      refine XS.iloadN X5.here hx rfl (hb hby d6_21) rfl ?_
      show Steps p.tables e below (T5.setTop (mkF m 22 #[vR a0, vI p1, vI (0 : Int32), vI (0 : Int32), vI (0 : Int32), vI (1 : Int32)] [(.int (0 : Int32)), (.int (0 : Int32))])) _
      refine XS.icmpNo X5.here hx rfl (hb hby d6_22) rfl (flt (by decide : ¬ ((0 : Int32) < (0 : Int32)))).2.2.1 ?_
      show Steps p.tables e below (T5.setTop (mkF m 25 #[vR a0, vI p1, vI (0 : Int32), vI (0 : Int32), vI (0 : Int32), vI (1 : Int32)] [])) _
      refine XS.iloadN X5.here hx rfl (hb hby d6_25) rfl ?_
      show Steps p.tables e below (T5.setTop (mkF m 26 #[vR a0, vI p1, vI (0 : Int32), vI (0 : Int32), vI (0 : Int32), vI (1 : Int32)] [(.int (0 : Int32))])) _
      refine XS.iloadN X5.here hx rfl (hb hby d6_26) rfl ?_
      show Steps p.tables e below (T5.setTop (mkF m 27 #[vR a0, vI p1, vI (0 : Int32), vI (0 : Int32), vI (0 : Int32), vI (1 : Int32)] [(.int (0 : Int32)), (.int (0 : Int32))])) _
      refine XS.iadd X5.here hx rfl (hb hby d6_27) rfl ?_
      show Steps p.tables e below (T5.setTop (mkF m 28 #[vR a0, vI p1, vI (0 : Int32), vI (0 : Int32), vI (0 : Int32), vI (1 : Int32)] [(.int (0 : Int32))])) _
      refine XS.iconst X5.here hx rfl (hb hby d6_28) ?_
      show Steps p.tables e below (T5.setTop (mkF m 29 #[vR a0, vI p1, vI (0 : Int32), vI (0 : Int32), vI (0 : Int32), vI (1 : Int32)] [(.int (1 : Int32)), (.int (0 : Int32))])) _
      refine XS.iushr X5.here hx rfl (hb hby d6_29) rfl ?_
      show Steps p.tables e below (T5.setTop (mkF m 30 #[vR a0, vI p1, vI (0 : Int32), vI (0 : Int32), vI (0 : Int32), vI (1 : Int32)] [(.int (0 : Int32))])) _
      refine XS.istore X5.here hx rfl (hb hby d6_30) rfl (l' := #[vR a0, vI p1, vI (0 : Int32), vI (0 : Int32), vI (0 : Int32), vI (0 : Int32)]) rfl ?_
      show Steps p.tables e below (T5.setTop (mkF m 32 #[vR a0, vI p1, vI (0 : Int32), vI (0 : Int32), vI (0 : Int32), vI (0 : Int32)] [])) _
      refine XS.iloadN X5.here hx rfl (hb hby d6_32) rfl ?_
      show Steps p.tables e below (T5.setTop (mkF m 33 #[vR a0, vI p1, vI (0 : Int32), vI (0 : Int32), vI (0 : Int32), vI (0 : Int32)] [(.int p1)])) _
      refine XS.aloadN X5.here hx rfl (hb hby d6_33) rfl rfl ?_
      show Steps p.tables e below (T5.setTop (mkF m 34 #[vR a0, vI p1, vI (0 : Int32), vI (0 : Int32), vI (0 : Int32), vI (0 : Int32)] [(.ref a0), (.int p1)])) _
      exact k)
    obtain ⟨T11, X11, e11, st11⟩ := getF X5 hx hZ hown (host := "") (Or.inl (hw _ (List.mem_of_getElem? (i := 24) rfl))) Via.refl e5 F0 (g := (mkF m 34 #[vR a0, vI p1, vI (0 : Int32), vI (0 : Int32), vI (0 : Int32), vI (0 : Int32)] [(.ref a0), (.int p1)])) rfl rfl (hb hby d6_34)
    have pre11 : Go p.tables e below S0 T11 (mkF m 37 #[vR a0, vI p1, vI (0 : Int32), vI (0 : Int32), vI (0 : Int32), vI (0 : Int32)] [(.ref r), (.int p1)]) := fun t k => pre10 t (st11 t k)
    have pre12 : Go p.tables e below S0 T11 (mkF m 41 #[vR a0, vI p1, vI (0 : Int32), vI (0 : Int32), vI (0 : Int32), vI (0 : Int32)] [(.int (0 : Int32)), (.ref r), (.int p1)]) := fun t k => pre11 t (by
      refine XS.iconst X11.here hx rfl (hb hby d6_37) ?_
      show Steps p.tables e below (T11.setTop (mkF m 38 #[vR a0, vI p1, vI (0 : Int32), vI (0 : Int32), vI (0 : Int32), vI (0 : Int32)] [(.int (2 : Int32)), (.ref r), (.int p1)])) _
      refine XS.iload X11.here hx rfl (hb hby d6_38) rfl ?_
      show Steps p.tables e below (T11.setTop (mkF m 40 #[vR a0, vI p1, vI (0 : Int32), vI (0 : Int32), vI (0 : Int32), vI (0 : Int32)] [(.int (0 : Int32)), (.int (2 : Int32)), (.ref r), (.int p1)])) _
      refine XS.imul X11.here hx rfl (hb hby d6_40) rfl ?_
      show Steps p.tables e below (T11.setTop (mkF m 41 #[vR a0, vI p1, vI (0 : Int32), vI (0 : Int32), vI (0 : Int32), vI (0 : Int32)] [(.int (0 : Int32)), (.ref r), (.int p1)])) _
      exact k)
    obtain ⟨cl13, Ar13, q13, S13, M13, H13, G13⟩ := id V0
    have in13 : ¬ ((0 : Int32) < 0 ∨ cl13.slots.size ≤ ((0 : Int32)).toNatClampNeg) := inb_of S13 ⟨by decide, by decide⟩
    have at13 : cl13.slots[((0 : Int32)).toNatClampNeg]? = some (.int x0) := H13.at in13 rfl
    have pre14 : Go p.tables e below S0 T11 (mkF m 42 #[vR a0, vI p1, vI (0 : Int32), vI (0 : Int32), vI (0 : Int32), vI (0 : Int32)] [(.int x0), (.int p1)]) := fun t k => pre12 t (by
      refine X11.iaload hx (j := (0 : Int32)) (v := (.int x0)) (by rw [e11]; exact Ar13.1) (State.isArrayOf_alike hZ.alike Ar13.2.1) Ar13.2.2 in13 at13 (g := (mkF m 41 #[vR a0, vI p1, vI (0 : Int32), vI (0 : Int32), vI (0 : Int32), vI (0 : Int32)] [(.int (0 : Int32)), (.ref r), (.int p1)])) rfl rfl (hb hby d6_41) _ ?_
      show Steps p.tables e below (T11.setTop (mkF m 42 #[vR a0, vI p1, vI (0 : Int32), vI (0 : Int32), vI (0 : Int32), vI (0 : Int32)] [(.int x0), (.int p1)])) _
      exact k)
    by_cases c42_15 : p1 < x0
    · skip
      have pre16 : Go p.tables e below S0 T11 (mkF m 84 #[vR a0, vI p1, vI (0 : Int32), vI (-1 : Int32), vI (0 : Int32), vI (0 : Int32)] [(.int (0 : Int32))]) := fun t k => pre14 t (by
        refine XS.icmpNo X11.here hx rfl (hb hby d6_42) rfl (tlt c42_15).2.1 ?_
        show Steps p.tables e below (T11.setTop (mkF m 45 #[vR a0, vI p1, vI (0 : Int32), vI (0 : Int32), vI (0 : Int32), vI (0 : Int32)] [])) _
        refine XS.iload X11.here hx rfl (hb hby d6_45) rfl ?_
        show Steps p.tables e below (T11.setTop (mkF m 47 #[vR a0, vI p1, vI (0 : Int32), vI (0 : Int32), vI (0 : Int32), vI (0 : Int32)] [(.int (0 : Int32))])) _
        refine XS.iconst X11.here hx rfl (hb hby d6_47) ?_
        show Steps p.tables e below (T11.setTop (mkF m 48 #[vR a0, vI p1, vI (0 : Int32), vI (0 : Int32), vI (0 : Int32), vI (0 : Int32)] [(.int (1 : Int32)), (.int (0 : Int32))])) _
        refine XS.isub X11.here hx rfl (hb hby d6_48) rfl ?_
        show Steps p.tables e below (T11.setTop (mkF m 49 #[vR a0, vI p1, vI (0 : Int32), vI (0 : Int32), vI (0 : Int32), vI (0 : Int32)] [(.int (-1 : Int32))])) _
        refine XS.istoreN X11.here hx rfl (hb hby d6_49) rfl (l' := #[vR a0, vI p1, vI (0 : Int32), vI (-1 : Int32), vI (0 : Int32), vI (0 : Int32)]) rfl ?_
        show Steps p.tables e below (T11.setTop (mkF m 50 #[vR a0, vI p1, vI (0 : Int32), vI (-1 : Int32), vI (0 : Int32), vI (0 : Int32)] [])) _
        refine XS.goto X11.here hx rfl (pc0 := 50) (pc' := 79) rfl (hb hby d6_50) (by decide) (by decide) ?_
        show Steps p.tables e below (T11.setTop (mkF m 79 #[vR a0, vI p1, vI (0 : Int32), vI (-1 : Int32), vI (0 : Int32), vI (0 : Int32)] [])) _
        refine XS.goto X11.here hx rfl (pc0 := 79) (pc' := 15) rfl (hb hby d6_79) (by decide) (by decide) ?_
        show Steps p.tables e below (T11.setTop (mkF m 15 #[vR a0, vI p1, vI (0 : Int32), vI (-1 : Int32), vI (0 : Int32), vI (0 : Int32)] [])) _
        refine XS.iload X11.here hx rfl (hb hby d6_15) rfl ?_
        show Steps p.tables e below (T11.setTop (mkF m 17 #[vR a0, vI p1, vI (0 : Int32), vI (-1 : Int32), vI (0 : Int32), vI (0 : Int32)] [(.int (0 : Int32))])) _
        refine XS.ifNo X11.here hx rfl (hb hby d6_17) rfl ((if0 _ _).trans (teq (rfl : (0 : Int32) = (0 : Int32))).2) ?_
        show Steps p.tables e below (T11.setTop (mkF m 20 #[vR a0, vI p1, vI (0 : Int32), vI (-1 : Int32), vI (0 : Int32), vI (0 : Int32)] [])) _
        refine XS.iloadN X11.here hx rfl (hb hby d6_20) rfl ?_
        show Steps p.tables e below (T11.setTop (mkF m 21 #[vR a0, vI p1, vI (0 : Int32), vI (-1 : Int32), vI (0 : Int32), vI (0 : Int32)] [(.int (0 : Int32))])) _
        refine XS.iloadN X11.here hx rfl (hb hby d6_21) rfl ?_
        show Steps p.tables e below (T11.setTop (mkF m 22 #[vR a0, vI p1, vI (0 : Int32), vI (-1 : Int32), vI (0 : Int32), vI (0 : Int32)] [(.int (-1 : Int32)), (.int (0 : Int32))])) _
        refine XS.icmpYes X11.here hx rfl (pc0 := 22) (pc' := 82) rfl (hb hby d6_22) rfl (tlt (by decide : (-1 : Int32) < (0 : Int32))).2.2.1 (by decide) (by decide) ?_
        show Steps p.tables e below (T11.setTop (mkF m 82 #[vR a0, vI p1, vI (0 : Int32), vI (-1 : Int32), vI (0 : Int32), vI (0 : Int32)] [])) _
        refine XS.iload X11.here hx rfl (hb hby d6_82) rfl ?_
        show Steps p.tables e below (T11.setTop (mkF m 84 #[vR a0, vI p1, vI (0 : Int32), vI (-1 : Int32), vI (0 : Int32), vI (0 : Int32)] [(.int (0 : Int32))])) _
        exact k)
      obtain ⟨fs, hr, hrun, hended, hW, hsame⟩ := X11.leave (v := some (.int (0 : Int32))) (fun h => by rw [Bd.returns] at h; cases h)
      exact ⟨_, _, pre16.fin hS0 (retN X11 hx (t := .boolean) Bd.returns (by simp) (hb hby d6_84) hr), hrun, hended, _, _, rfl, (by
        show Q6_3 Z a0 p1 r k0 x0 x1 x2 x3 x4 x5 h0 n0 _ T11.heap _
        rw [e11]
        exact ⟨congrArg (fun z => some (Value.int z)) (by unfold own_in3; rw [if_neg (by simp only [Int32.lt_iff_toInt_lt] at c42_9 c42_15 ⊢; omega)]), N0, rfl⟩), ⟨_, rfl⟩, hW, hsame.mono (by decide) (by decide)⟩
    · skip
      have pre17 : Go p.tables e below S0 T11 (mkF m 55 #[vR a0, vI p1, vI (0 : Int32), vI (0 : Int32), vI (0 : Int32), vI (0 : Int32)] [(.ref a0), (.int p1)]) := fun t k => pre14 t (by
        refine XS.icmpYes X11.here hx rfl (pc0 := 42) (pc' := 53) rfl (hb hby d6_42) rfl (flt c42_15).2.1 (by decide) (by decide) ?_
        show Steps p.tables e below (T11.setTop (mkF m 53 #[vR a0, vI p1, vI (0 : Int32), vI (0 : Int32), vI (0 : Int32), vI (0 : Int32)] [])) _
        refine XS.iloadN X11.here hx rfl (hb hby d6_53) rfl ?_
        show Steps p.tables e below (T11.setTop (mkF m 54 #[vR a0, vI p1, vI (0 : Int32), vI (0 : Int32), vI (0 : Int32), vI (0 : Int32)] [(.int p1)])) _
        refine XS.aloadN X11.here hx rfl (hb hby d6_54) rfl rfl ?_
        show Steps p.tables e below (T11.setTop (mkF m 55 #[vR a0, vI p1, vI (0 : Int32), vI (0 : Int32), vI (0 : Int32), vI (0 : Int32)] [(.ref a0), (.int p1)])) _
        exact k)
      obtain ⟨T18, X18, e18, st18⟩ := getF X11 hx hZ hown (host := "") (Or.inl (hw _ (List.mem_of_getElem? (i := 24) rfl))) Via.refl e11 F0 (g := (mkF m 55 #[vR a0, vI p1, vI (0 : Int32), vI (0 : Int32), vI (0 : Int32), vI (0 : Int32)] [(.ref a0), (.int p1)])) rfl rfl (hb hby d6_55)
      have pre18 : Go p.tables e below S0 T18 (mkF m 58 #[vR a0, vI p1, vI (0 : Int32), vI (0 : Int32), vI (0 : Int32), vI (0 : Int32)] [(.ref r), (.int p1)]) := fun t k => pre17 t (st18 t k)
      have pre19 : Go p.tables e below S0 T18 (mkF m 64 #[vR a0, vI p1, vI (0 : Int32), vI (0 : Int32), vI (0 : Int32), vI (0 : Int32)] [(.int (1 : Int32)), (.ref r), (.int p1)]) := fun t k => pre18 t (by
        refine XS.iconst X18.here hx rfl (hb hby d6_58) ?_
        show Steps p.tables e below (T18.setTop (mkF m 59 #[vR a0, vI p1, vI (0 : Int32), vI (0 : Int32), vI (0 : Int32), vI (0 : Int32)] [(.int (2 : Int32)), (.ref r), (.int p1)])) _
        refine XS.iload X18.here hx rfl (hb hby d6_59) rfl ?_
        show Steps p.tables e below (T18.setTop (mkF m 61 #[vR a0, vI p1, vI (0 : Int32), vI (0 : Int32), vI (0 : Int32), vI (0 : Int32)] [(.int (0 : Int32)), (.int (2 : Int32)), (.ref r), (.int p1)])) _
        refine XS.imul X18.here hx rfl (hb hby d6_61) rfl ?_
        show Steps p.tables e below (T18.setTop (mkF m 62 #[vR a0, vI p1, vI (0 : Int32), vI (0 : Int32), vI (0 : Int32), vI (0 : Int32)] [(.int (0 : Int32)), (.ref r), (.int p1)])) _
        refine XS.iconst X18.here hx rfl (hb hby d6_62) ?_
        show Steps p.tables e below (T18.setTop (mkF m 63 #[vR a0, vI p1, vI (0 : Int32), vI (0 : Int32), vI (0 : Int32), vI (0 : Int32)] [(.int (1 : Int32)), (.int (0 : Int32)), (.ref r), (.int p1)])) _
        refine XS.iadd X18.here hx rfl (hb hby d6_63) rfl ?_
        show Steps p.tables e below (T18.setTop (mkF m 64 #[vR a0, vI p1, vI (0 : Int32), vI (0 : Int32), vI (0 : Int32), vI (0 : Int32)] [(.int (1 : Int32)), (.ref r), (.int p1)])) _
        exact k)
      obtain ⟨cl20, Ar20, q20, S20, M20, H20, G20⟩ := id V0
      have in20 : ¬ ((1 : Int32) < 0 ∨ cl20.slots.size ≤ ((1 : Int32)).toNatClampNeg) := inb_of S20 ⟨by decide, by decide⟩
      have at20 : cl20.slots[((1 : Int32)).toNatClampNeg]? = some (.int x1) := H20.at in20 rfl
      have pre21 : Go p.tables e below S0 T18 (mkF m 65 #[vR a0, vI p1, vI (0 : Int32), vI (0 : Int32), vI (0 : Int32), vI (0 : Int32)] [(.int x1), (.int p1)]) := fun t k => pre19 t (by
        refine X18.iaload hx (j := (1 : Int32)) (v := (.int x1)) (by rw [e18]; exact Ar20.1) (State.isArrayOf_alike hZ.alike Ar20.2.1) Ar20.2.2 in20 at20 (g := (mkF m 64 #[vR a0, vI p1, vI (0 : Int32), vI (0 : Int32), vI (0 : Int32), vI (0 : Int32)] [(.int (1 : Int32)), (.ref r), (.int p1)])) rfl rfl (hb hby d6_64) _ ?_
        show Steps p.tables e below (T18.setTop (mkF m 65 #[vR a0, vI p1, vI (0 : Int32), vI (0 : Int32), vI (0 : Int32), vI (0 : Int32)] [(.int x1), (.int p1)])) _
        exact k)
      by_cases c65_22 : x1 < p1
      · skip
        have pre23 : Go p.tables e below S0 T18 (mkF m 84 #[vR a0, vI p1, vI (1 : Int32), vI (0 : Int32), vI (0 : Int32), vI (0 : Int32)] [(.int (0 : Int32))]) := fun t k => pre21 t (by
          refine XS.icmpNo X18.here hx rfl (hb hby d6_65) rfl (tlt c65_22).2.2.2 ?_
          show Steps p.tables e below (T18.setTop (mkF m 68 #[vR a0, vI p1, vI (0 : Int32), vI (0 : Int32), vI (0 : Int32), vI (0 : Int32)] [])) _
          refine XS.iload X18.here hx rfl (hb hby d6_68) rfl ?_
          show Steps p.tables e below (T18.setTop (mkF m 70 #[vR a0, vI p1, vI (0 : Int32), vI (0 : Int32), vI (0 : Int32), vI (0 : Int32)] [(.int (0 : Int32))])) _
          refine XS.iconst X18.here hx rfl (hb hby d6_70) ?_
          show Steps p.tables e below (T18.setTop (mkF m 71 #[vR a0, vI p1, vI (0 : Int32), vI (0 : Int32), vI (0 : Int32), vI (0 : Int32)] [(.int (1 : Int32)), (.int (0 : Int32))])) _
          refine XS.iadd X18.here hx rfl (hb hby d6_71) rfl ?_
          show Steps p.tables e below (T18.setTop (mkF m 72 #[vR a0, vI p1, vI (0 : Int32), vI (0 : Int32), vI (0 : Int32), vI (0 : Int32)] [(.int (1 : Int32))])) _
          refine XS.istoreN X18.here hx rfl (hb hby d6_72) rfl (l' := #[vR a0, vI p1, vI (1 : Int32), vI (0 : Int32), vI (0 : Int32), vI (0 : Int32)]) rfl ?_
          show Steps p.tables e below (T18.setTop (mkF m 73 #[vR a0, vI p1, vI (1 : Int32), vI (0 : Int32), vI (0 : Int32), vI (0 : Int32)] [])) _
          refine XS.goto X18.here hx rfl (pc0 := 73) (pc' := 79) rfl (hb hby d6_73) (by decide) (by decide) ?_
          show Steps p.tables e below (T18.setTop (mkF m 79 #[vR a0, vI p1, vI (1 : Int32), vI (0 : Int32), vI (0 : Int32), vI (0 : Int32)] [])) _
          refine XS.goto X18.here hx rfl (pc0 := 79) (pc' := 15) rfl (hb hby d6_79) (by decide) (by decide) ?_
          show Steps p.tables e below (T18.setTop (mkF m 15 #[vR a0, vI p1, vI (1 : Int32), vI (0 : Int32), vI (0 : Int32), vI (0 : Int32)] [])) _
          refine XS.iload X18.here hx rfl (hb hby d6_15) rfl ?_
          show Steps p.tables e below (T18.setTop (mkF m 17 #[vR a0, vI p1, vI (1 : Int32), vI (0 : Int32), vI (0 : Int32), vI (0 : Int32)] [(.int (0 : Int32))])) _
          refine XS.ifNo X18.here hx rfl (hb hby d6_17) rfl ((if0 _ _).trans (teq (rfl : (0 : Int32) = (0 : Int32))).2) ?_
          show Steps p.tables e below (T18.setTop (mkF m 20 #[vR a0, vI p1, vI (1 : Int32), vI (0 : Int32), vI (0 : Int32), vI (0 : Int32)] [])) _
          refine XS.iloadN X18.here hx rfl (hb hby d6_20) rfl ?_
          show Steps p.tables e below (T18.setTop (mkF m 21 #[vR a0, vI p1, vI (1 : Int32), vI (0 : Int32), vI (0 : Int32), vI (0 : Int32)] [(.int (1 : Int32))])) _
          refine XS.iloadN X18.here hx rfl (hb hby d6_21) rfl ?_
          show Steps p.tables e below (T18.setTop (mkF m 22 #[vR a0, vI p1, vI (1 : Int32), vI (0 : Int32), vI (0 : Int32), vI (0 : Int32)] [(.int (0 : Int32)), (.int (1 : Int32))])) _
          refine XS.icmpYes X18.here hx rfl (pc0 := 22) (pc' := 82) rfl (hb hby d6_22) rfl (tlt (by decide : (0 : Int32) < (1 : Int32))).2.2.1 (by decide) (by decide) ?_
          show Steps p.tables e below (T18.setTop (mkF m 82 #[vR a0, vI p1, vI (1 : Int32), vI (0 : Int32), vI (0 : Int32), vI (0 : Int32)] [])) _
          refine XS.iload X18.here hx rfl (hb hby d6_82) rfl ?_
          show Steps p.tables e below (T18.setTop (mkF m 84 #[vR a0, vI p1, vI (1 : Int32), vI (0 : Int32), vI (0 : Int32), vI (0 : Int32)] [(.int (0 : Int32))])) _
          exact k)
        obtain ⟨fs, hr, hrun, hended, hW, hsame⟩ := X18.leave (v := some (.int (0 : Int32))) (fun h => by rw [Bd.returns] at h; cases h)
        exact ⟨_, _, pre23.fin hS0 (retN X18 hx (t := .boolean) Bd.returns (by simp) (hb hby d6_84) hr), hrun, hended, _, _, rfl, (by
          show Q6_3 Z a0 p1 r k0 x0 x1 x2 x3 x4 x5 h0 n0 _ T18.heap _
          rw [e18]
          exact ⟨congrArg (fun z => some (Value.int z)) (by unfold own_in3; rw [if_neg (by simp only [Int32.lt_iff_toInt_lt] at c42_9 c42_15 c65_22 ⊢; omega)]), N0, rfl⟩), ⟨_, rfl⟩, hW, hsame.mono (by decide) (by decide)⟩
      · skip
        have pre24 : Go p.tables e below S0 T18 (mkF m 84 #[vR a0, vI p1, vI (0 : Int32), vI (0 : Int32), vI (1 : Int32), vI (0 : Int32)] [(.int (1 : Int32))]) := fun t k => pre21 t (by
          refine XS.icmpYes X18.here hx rfl (pc0 := 65) (pc' := 76) rfl (hb hby d6_65) rfl (flt c65_22).2.2.2 (by decide) (by decide) ?_
          show Steps p.tables e below (T18.setTop (mkF m 76 #[vR a0, vI p1, vI (0 : Int32), vI (0 : Int32), vI (0 : Int32), vI (0 : Int32)] [])) _
          refine XS.iconst X18.here hx rfl (hb hby d6_76) ?_
          show Steps p.tables e below (T18.setTop (mkF m 77 #[vR a0, vI p1, vI (0 : Int32), vI (0 : Int32), vI (0 : Int32), vI (0 : Int32)] [(.int (1 : Int32))])) _
          refine XS.istore X18.here hx rfl (hb hby d6_77) rfl (l' := #[vR a0, vI p1, vI (0 : Int32), vI (0 : Int32), vI (1 : Int32), vI (0 : Int32)]) rfl ?_
          show Steps p.tables e below (T18.setTop (mkF m 79 #[vR a0, vI p1, vI (0 : Int32), vI (0 : Int32), vI (1 : Int32), vI (0 : Int32)] [])) _
          refine XS.goto X18.here hx rfl (pc0 := 79) (pc' := 15) rfl (hb hby d6_79) (by decide) (by decide) ?_
          show Steps p.tables e below (T18.setTop (mkF m 15 #[vR a0, vI p1, vI (0 : Int32), vI (0 : Int32), vI (1 : Int32), vI (0 : Int32)] [])) _
          refine XS.iload X18.here hx rfl (hb hby d6_15) rfl ?_
          show Steps p.tables e below (T18.setTop (mkF m 17 #[vR a0, vI p1, vI (0 : Int32), vI (0 : Int32), vI (1 : Int32), vI (0 : Int32)] [(.int (1 : Int32))])) _
          refine XS.ifYes X18.here hx rfl (pc0 := 17) (pc' := 82) rfl (hb hby d6_17) rfl ((if0 _ _).trans (feq (by decide : ¬ ((1 : Int32) = (0 : Int32)))).2) (by decide) (by decide) ?_
          show Steps p.tables e below (T18.setTop (mkF m 82 #[vR a0, vI p1, vI (0 : Int32), vI (0 : Int32), vI (1 : Int32), vI (0 : Int32)] [])) _
          refine XS.iload X18.here hx rfl (hb hby d6_82) rfl ?_
          show Steps p.tables e below (T18.setTop (mkF m 84 #[vR a0, vI p1, vI (0 : Int32), vI (0 : Int32), vI (1 : Int32), vI (0 : Int32)] [(.int (1 : Int32))])) _
          exact k)
        obtain ⟨fs, hr, hrun, hended, hW, hsame⟩ := X18.leave (v := some (.int (1 : Int32))) (fun h => by rw [Bd.returns] at h; cases h)
        exact ⟨_, _, pre24.fin hS0 (retN X18 hx (t := .boolean) Bd.returns (by simp) (hb hby d6_84) hr), hrun, hended, _, _, rfl, (by
          show Q6_3 Z a0 p1 r k0 x0 x1 x2 x3 x4 x5 h0 n0 _ T18.heap _
          rw [e18]
          exact ⟨congrArg (fun z => some (Value.int z)) (by unfold own_in3; rw [if_pos (by simp only [Int32.lt_iff_toInt_lt] at c42_9 c42_15 c65_22 ⊢; omega)]), N0, rfl⟩), ⟨_, rfl⟩, hW, hsame.mono (by decide) (by decide)⟩
  · skip
    have pre25 : Go p.tables e below S0 T5 (mkF m 55 #[vR a0, vI p1, vI (0 : Int32), vI (2 : Int32), vI (0 : Int32), vI (1 : Int32)] [(.ref a0), (.int p1)]) := fun t k => pre8 t (by
      refine XS.icmpYes X5.here hx rfl (pc0 := 42) (pc' := 53) rfl (hb hby d6_42) rfl (flt c42_9).2.1 (by decide) (by decide) ?_
      show Steps p.tables e below (T5.setTop (mkF m 53 #[vR a0, vI p1, vI (0 : Int32), vI (2 : Int32), vI (0 : Int32), vI (1 : Int32)] [])) _
      refine XS.iloadN X5.here hx rfl (hb hby d6_53) rfl ?_
      show Steps p.tables e below (T5.setTop (mkF m 54 #[vR a0, vI p1, vI (0 : Int32), vI (2 : Int32), vI (0 : Int32), vI (1 : Int32)] [(.int p1)])) _
      refine XS.aloadN X5.here hx rfl (hb hby d6_54) rfl rfl ?_
      show Steps p.tables e below (T5.setTop (mkF m 55 #[vR a0, vI p1, vI (0 : Int32), vI (2 : Int32), vI (0 : Int32), vI (1 : Int32)] [(.ref a0), (.int p1)])) _
      exact k)
    obtain ⟨T26, X26, e26, st26⟩ := getF X5 hx hZ hown (host := "") (Or.inl (hw _ (List.mem_of_getElem? (i := 24) rfl))) Via.refl e5 F0 (g := (mkF m 55 #[vR a0, vI p1, vI (0 : Int32), vI (2 : Int32), vI (0 : Int32), vI (1 : Int32)] [(.ref a0), (.int p1)])) rfl rfl (hb hby d6_55)
    have pre26 : Go p.tables e below S0 T26 (mkF m 58 #[vR a0, vI p1, vI (0 : Int32), vI (2 : Int32), vI (0 : Int32), vI (1 : Int32)] [(.ref r), (.int p1)]) := fun t k => pre25 t (st26 t k)
    have pre27 : Go p.tables e below S0 T26 (mkF m 64 #[vR a0, vI p1, vI (0 : Int32), vI (2 : Int32), vI (0 : Int32), vI (1 : Int32)] [(.int (3 : Int32)), (.ref r), (.int p1)]) := fun t k => pre26 t (by
      refine XS.iconst X26.here hx rfl (hb hby d6_58) ?_
      show Steps p.tables e below (T26.setTop (mkF m 59 #[vR a0, vI p1, vI (0 : Int32), vI (2 : Int32), vI (0 : Int32), vI (1 : Int32)] [(.int (2 : Int32)), (.ref r), (.int p1)])) _
      refine XS.iload X26.here hx rfl (hb hby d6_59) rfl ?_
      show Steps p.tables e below (T26.setTop (mkF m 61 #[vR a0, vI p1, vI (0 : Int32), vI (2 : Int32), vI (0 : Int32), vI (1 : Int32)] [(.int (1 : Int32)), (.int (2 : Int32)), (.ref r), (.int p1)])) _
      refine XS.imul X26.here hx rfl (hb hby d6_61) rfl ?_
      show Steps p.tables e below (T26.setTop (mkF m 62 #[vR a0, vI p1, vI (0 : Int32), vI (2 : Int32), vI (0 : Int32), vI (1 : Int32)] [(.int (2 : Int32)), (.ref r), (.int p1)])) _
      refine XS.iconst X26.here hx rfl (hb hby d6_62) ?_
      show Steps p.tables e below (T26.setTop (mkF m 63 #[vR a0, vI p1, vI (0 : Int32), vI (2 : Int32), vI (0 : Int32), vI (1 : Int32)] [(.int (1 : Int32)), (.int (2 : Int32)), (.ref r), (.int p1)])) _
      refine XS.iadd X26.here hx rfl (hb hby d6_63) rfl ?_
      show Steps p.tables e below (T26.setTop (mkF m 64 #[vR a0, vI p1, vI (0 : Int32), vI (2 : Int32), vI (0 : Int32), vI (1 : Int32)] [(.int (3 : Int32)), (.ref r), (.int p1)])) _
      exact k)
    obtain ⟨cl28, Ar28, q28, S28, M28, H28, G28⟩ := id V0
    have in28 : ¬ ((3 : Int32) < 0 ∨ cl28.slots.size ≤ ((3 : Int32)).toNatClampNeg) := inb_of S28 ⟨by decide, by decide⟩
    have at28 : cl28.slots[((3 : Int32)).toNatClampNeg]? = some (.int x3) := H28.at in28 rfl
    have pre29 : Go p.tables e below S0 T26 (mkF m 65 #[vR a0, vI p1, vI (0 : Int32), vI (2 : Int32), vI (0 : Int32), vI (1 : Int32)] [(.int x3), (.int p1)]) := fun t k => pre27 t (by
      refine X26.iaload hx (j := (3 : Int32)) (v := (.int x3)) (by rw [e26]; exact Ar28.1) (State.isArrayOf_alike hZ.alike Ar28.2.1) Ar28.2.2 in28 at28 (g := (mkF m 64 #[vR a0, vI p1, vI (0 : Int32), vI (2 : Int32), vI (0 : Int32), vI (1 : Int32)] [(.int (3 : Int32)), (.ref r), (.int p1)])) rfl rfl (hb hby d6_64) _ ?_
      show Steps p.tables e below (T26.setTop (mkF m 65 #[vR a0, vI p1, vI (0 : Int32), vI (2 : Int32), vI (0 : Int32), vI (1 : Int32)] [(.int x3), (.int p1)])) _
      exact k)
    by_cases c65_30 : x3 < p1
    · skip
      have pre31 : Go p.tables e below S0 T26 (mkF m 34 #[vR a0, vI p1, vI (2 : Int32), vI (2 : Int32), vI (0 : Int32), vI (2 : Int32)] [(.ref a0), (.int p1)]) := fun t k => pre29 t (by
        refine XS.icmpNo X26.here hx rfl (hb hby d6_65) rfl (tlt c65_30).2.2.2 ?_
        show Steps p.tables e below (T26.setTop (mkF m 68 #[vR a0, vI p1, vI (0 : Int32), vI (2 : Int32), vI (0 : Int32), vI (1 : Int32)] [])) _
        refine XS.iload X26.here hx rfl (hb hby d6_68) rfl ?_
        show Steps p.tables e below (T26.setTop (mkF m 70 #[vR a0, vI p1, vI (0 : Int32), vI (2 : Int32), vI (0 : Int32), vI (1 : Int32)] [(.int (1 : Int32))])) _
        refine XS.iconst X26.here hx rfl (hb hby d6_70) ?_
        show Steps p.tables e below (T26.setTop (mkF m 71 #[vR a0, vI p1, vI (0 : Int32), vI (2 : Int32), vI (0 : Int32), vI (1 : Int32)] [(.int (1 : Int32)), (.int (1 : Int32))])) _
        refine XS.iadd X26.here hx rfl (hb hby d6_71) rfl ?_
        show Steps p.tables e below (T26.setTop (mkF m 72 #[vR a0, vI p1, vI (0 : Int32), vI (2 : Int32), vI (0 : Int32), vI (1 : Int32)] [(.int (2 : Int32))])) _
        refine XS.istoreN X26.here hx rfl (hb hby d6_72) rfl (l' := #[vR a0, vI p1, vI (2 : Int32), vI (2 : Int32), vI (0 : Int32), vI (1 : Int32)]) rfl ?_
        show Steps p.tables e below (T26.setTop (mkF m 73 #[vR a0, vI p1, vI (2 : Int32), vI (2 : Int32), vI (0 : Int32), vI (1 : Int32)] [])) _
        refine XS.goto X26.here hx rfl (pc0 := 73) (pc' := 79) rfl (hb hby d6_73) (by decide) (by decide) ?_
        show Steps p.tables e below (T26.setTop (mkF m 79 #[vR a0, vI p1, vI (2 : Int32), vI (2 : Int32), vI (0 : Int32), vI (1 : Int32)] [])) _
        refine XS.goto X26.here hx rfl (pc0 := 79) (pc' := 15) rfl (hb hby d6_79) (by decide) (by decide) ?_
        show Steps p.tables e below (T26.setTop (mkF m 15 #[vR a0, vI p1, vI (2 : Int32), vI (2 : Int32), vI (0 : Int32), vI (1 : Int32)] [])) _
        refine XS.iload X26.here hx rfl (hb hby d6_15) rfl ?_
        show Steps p.tables e below (T26.setTop (mkF m 17 #[vR a0, vI p1, vI (2 : Int32), vI (2 : Int32), vI (0 : Int32), vI (1 : Int32)] [(.int (0 : Int32))])) _
        refine XS.ifNo X26.here hx rfl (hb hby d6_17) rfl ((if0 _ _).trans (teq (rfl : (0 : Int32) = (0 : Int32))).2) ?_
        show Steps p.tables e below (T26.setTop (mkF m 20 #[vR a0, vI p1, vI (2 : Int32), vI (2 : Int32), vI (0 : Int32), vI (1 : Int32)] [])) _
        refine XS.iloadN X26.here hx rfl (hb hby d6_20) rfl ?_
        show Steps p.tables e below (T26.setTop (mkF m 21 #[vR a0, vI p1, vI (2 : Int32), vI (2 : Int32), vI (0 : Int32), vI (1 : Int32)] [(.int (2 : Int32))])) _
        refine XS.iloadN X26.here hx rfl (hb hby d6_21) rfl ?_
        show Steps p.tables e below (T26.setTop (mkF m 22 #[vR a0, vI p1, vI (2 : Int32), vI (2 : Int32), vI (0 : Int32), vI (1 : Int32)] [(.int (2 : Int32)), (.int (2 : Int32))])) _
        refine XS.icmpNo X26.here hx rfl (hb hby d6_22) rfl (flt (by decide : ¬ ((2 : Int32) < (2 : Int32)))).2.2.1 ?_
        show Steps p.tables e below (T26.setTop (mkF m 25 #[vR a0, vI p1, vI (2 : Int32), vI (2 : Int32), vI (0 : Int32), vI (1 : Int32)] [])) _
        refine XS.iloadN X26.here hx rfl (hb hby d6_25) rfl ?_
        show Steps p.tables e below (T26.setTop (mkF m 26 #[vR a0, vI p1, vI (2 : Int32), vI (2 : Int32), vI (0 : Int32), vI (1 : Int32)] [(.int (2 : Int32))])) _
        refine XS.iloadN X26.here hx rfl (hb hby d6_26) rfl ?_
        show Steps p.tables e below (T26.setTop (mkF m 27 #[vR a0, vI p1, vI (2 : Int32), vI (2 : Int32), vI (0 : Int32), vI (1 : Int32)] [(.int (2 : Int32)), (.int (2 : Int32))])) _
        refine XS.iadd X26.here hx rfl (hb hby d6_27) rfl ?_
        show Steps p.tables e below (T26.setTop (mkF m 28 #[vR a0, vI p1, vI (2 : Int32), vI (2 : Int32), vI (0 : Int32), vI (1 : Int32)] [(.int (4 : Int32))])) _
        refine XS.iconst X26.here hx rfl (hb hby d6_28) ?_
        show Steps p.tables e below (T26.setTop (mkF m 29 #[vR a0, vI p1, vI (2 : Int32), vI (2 : Int32), vI (0 : Int32), vI (1 : Int32)] [(.int (1 : Int32)), (.int (4 : Int32))])) _
        refine XS.iushr X26.here hx rfl (hb hby d6_29) rfl ?_
        show Steps p.tables e below (T26.setTop (mkF m 30 #[vR a0, vI p1, vI (2 : Int32), vI (2 : Int32), vI (0 : Int32), vI (1 : Int32)] [(.int (2 : Int32))])) _
        refine XS.istore X26.here hx rfl (hb hby d6_30) rfl (l' := #[vR a0, vI p1, vI (2 : Int32), vI (2 : Int32), vI (0 : Int32), vI (2 : Int32)]) rfl ?_
        show Steps p.tables e below (T26.setTop (mkF m 32 #[vR a0, vI p1, vI (2 : Int32), vI (2 : Int32), vI (0 : Int32), vI (2 : Int32)] [])) _
        refine XS.iloadN X26.here hx rfl (hb hby d6_32) rfl ?_
        show Steps p.tables e below (T26.setTop (mkF m 33 #[vR a0, vI p1, vI (2 : Int32), vI (2 : Int32), vI (0 : Int32), vI (2 : Int32)] [(.int p1)])) _
        refine XS.aloadN X26.here hx rfl (hb hby d6_33) rfl rfl ?_
        show Steps p.tables e below (T26.setTop (mkF m 34 #[vR a0, vI p1, vI (2 : Int32), vI (2 : Int32), vI (0 : Int32), vI (2 : Int32)] [(.ref a0), (.int p1)])) _
        exact k)
      obtain ⟨T32, X32, e32, st32⟩ := getF X26 hx hZ hown (host := "") (Or.inl (hw _ (List.mem_of_getElem? (i := 24) rfl))) Via.refl e26 F0 (g := (mkF m 34 #[vR a0, vI p1, vI (2 : Int32), vI (2 : Int32), vI (0 : Int32), vI (2 : Int32)] [(.ref a0), (.int p1)])) rfl rfl (hb hby d6_34)
      have pre32 : Go p.tables e below S0 T32 (mkF m 37 #[vR a0, vI p1, vI (2 : Int32), vI (2 : Int32), vI (0 : Int32), vI (2 : Int32)] [(.ref r), (.int p1)]) := fun t k => pre31 t (st32 t k)
      have pre33 : Go p.tables e below S0 T32 (mkF m 41 #[vR a0, vI p1, vI (2 : Int32), vI (2 : Int32), vI (0 : Int32), vI (2 : Int32)] [(.int (4 : Int32)), (.ref r), (.int p1)]) := fun t k => pre32 t (by
        refine XS.iconst X32.here hx rfl (hb hby d6_37) ?_
        show Steps p.tables e below (T32.setTop (mkF m 38 #[vR a0, vI p1, vI (2 : Int32), vI (2 : Int32), vI (0 : Int32), vI (2 : Int32)] [(.int (2 : Int32)), (.ref r), (.int p1)])) _
        refine XS.iload X32.here hx rfl (hb hby d6_38) rfl ?_
        show Steps p.tables e below (T32.setTop (mkF m 40 #[vR a0, vI p1, vI (2 : Int32), vI (2 : Int32), vI (0 : Int32), vI (2 : Int32)] [(.int (2 : Int32)), (.int (2 : Int32)), (.ref r), (.int p1)])) _
        refine XS.imul X32.here hx rfl (hb hby d6_40) rfl ?_
        show Steps p.tables e below (T32.setTop (mkF m 41 #[vR a0, vI p1, vI (2 : Int32), vI (2 : Int32), vI (0 : Int32), vI (2 : Int32)] [(.int (4 : Int32)), (.ref r), (.int p1)])) _
        exact k)
      obtain ⟨cl34, Ar34, q34, S34, M34, H34, G34⟩ := id V0
      have in34 : ¬ ((4 : Int32) < 0 ∨ cl34.slots.size ≤ ((4 : Int32)).toNatClampNeg) := inb_of S34 ⟨by decide, by decide⟩
      have at34 : cl34.slots[((4 : Int32)).toNatClampNeg]? = some (.int x4) := H34.at in34 rfl
      have pre35 : Go p.tables e below S0 T32 (mkF m 42 #[vR a0, vI p1, vI (2 : Int32), vI (2 : Int32), vI (0 : Int32), vI (2 : Int32)] [(.int x4), (.int p1)]) := fun t k => pre33 t (by
        refine X32.iaload hx (j := (4 : Int32)) (v := (.int x4)) (by rw [e32]; exact Ar34.1) (State.isArrayOf_alike hZ.alike Ar34.2.1) Ar34.2.2 in34 at34 (g := (mkF m 41 #[vR a0, vI p1, vI (2 : Int32), vI (2 : Int32), vI (0 : Int32), vI (2 : Int32)] [(.int (4 : Int32)), (.ref r), (.int p1)])) rfl rfl (hb hby d6_41) _ ?_
        show Steps p.tables e below (T32.setTop (mkF m 42 #[vR a0, vI p1, vI (2 : Int32), vI (2 : Int32), vI (0 : Int32), vI (2 : Int32)] [(.int x4), (.int p1)])) _
        exact k)
      by_cases c42_36 : p1 < x4
      · skip
        have pre37 : Go p.tables e below S0 T32 (mkF m 84 #[vR a0, vI p1, vI (2 : Int32), vI (1 : Int32), vI (0 : Int32), vI (2 : Int32)] [(.int (0 : Int32))]) := fun t k => pre35 t (by
          refine XS.icmpNo X32.here hx rfl (hb hby d6_42) rfl (tlt c42_36).2.1 ?_
          show Steps p.tables e below (T32.setTop (mkF m 45 #[vR a0, vI p1, vI (2 : Int32), vI (2 : Int32), vI (0 : Int32), vI (2 : Int32)] [])) _
          refine XS.iload X32.here hx rfl (hb hby d6_45) rfl ?_
          show Steps p.tables e below (T32.setTop (mkF m 47 #[vR a0, vI p1, vI (2 : Int32), vI (2 : Int32), vI (0 : Int32), vI (2 : Int32)] [(.int (2 : Int32))])) _
          refine XS.iconst X32.here hx rfl (hb hby d6_47) ?_
          show Steps p.tables e below (T32.setTop (mkF m 48 #[vR a0, vI p1, vI (2 : Int32), vI (2 : Int32), vI (0 : Int32), vI (2 : Int32)] [(.int (1 : Int32)), (.int (2 : Int32))])) _
          refine XS.isub X32.here hx rfl (hb hby d6_48) rfl ?_
          show Steps p.tables e below (T32.setTop (mkF m 49 #[vR a0, vI p1, vI (2 : Int32), vI (2 : Int32), vI (0 : Int32), vI (2 : Int32)] [(.int (1 : Int32))])) _
          refine XS.istoreN X32.here hx rfl (hb hby d6_49) rfl (l' := #[vR a0, vI p1, vI (2 : Int32), vI (1 : Int32), vI (0 : Int32), vI (2 : Int32)]) rfl ?_
          show Steps p.tables e below (T32.setTop (mkF m 50 #[vR a0, vI p1, vI (2 : Int32), vI (1 : Int32), vI (0 : Int32), vI (2 : Int32)] [])) _
          refine XS.goto X32.here hx rfl (pc0 := 50) (pc' := 79) rfl (hb hby d6_50) (by decide) (by decide) ?_
          show Steps p.tables e below (T32.setTop (mkF m 79 #[vR a0, vI p1, vI (2 : Int32), vI (1 : Int32), vI (0 : Int32), vI (2 : Int32)] [])) _
          refine XS.goto X32.here hx rfl (pc0 := 79) (pc' := 15) rfl (hb hby d6_79) (by decide) (by decide) ?_
          show Steps p.tables e below (T32.setTop (mkF m 15 #[vR a0, vI p1, vI (2 : Int32), vI (1 : Int32), vI (0 : Int32), vI (2 : Int32)] [])) _
          refine XS.iload X32.here hx rfl (hb hby d6_15) rfl ?_
          show Steps p.tables e below (T32.setTop (mkF m 17 #[vR a0, vI p1, vI (2 : Int32), vI (1 : Int32), vI (0 : Int32), vI (2 : Int32)] [(.int (0 : Int32))])) _
          refine XS.ifNo X32.here hx rfl (hb hby d6_17) rfl ((if0 _ _).trans (teq (rfl : (0 : Int32) = (0 : Int32))).2) ?_
          show Steps p.tables e below (T32.setTop (mkF m 20 #[vR a0, vI p1, vI (2 : Int32), vI (1 : Int32), vI (0 : Int32), vI (2 : Int32)] [])) _
          refine XS.iloadN X32.here hx rfl (hb hby d6_20) rfl ?_
          show Steps p.tables e below (T32.setTop (mkF m 21 #[vR a0, vI p1, vI (2 : Int32), vI (1 : Int32), vI (0 : Int32), vI (2 : Int32)] [(.int (2 : Int32))])) _
          refine XS.iloadN X32.here hx rfl (hb hby d6_21) rfl ?_
          show Steps p.tables e below (T32.setTop (mkF m 22 #[vR a0, vI p1, vI (2 : Int32), vI (1 : Int32), vI (0 : Int32), vI (2 : Int32)] [(.int (1 : Int32)), (.int (2 : Int32))])) _
          refine XS.icmpYes X32.here hx rfl (pc0 := 22) (pc' := 82) rfl (hb hby d6_22) rfl (tlt (by decide : (1 : Int32) < (2 : Int32))).2.2.1 (by decide) (by decide) ?_
          show Steps p.tables e below (T32.setTop (mkF m 82 #[vR a0, vI p1, vI (2 : Int32), vI (1 : Int32), vI (0 : Int32), vI (2 : Int32)] [])) _
          refine XS.iload X32.here hx rfl (hb hby d6_82) rfl ?_
          show Steps p.tables e below (T32.setTop (mkF m 84 #[vR a0, vI p1, vI (2 : Int32), vI (1 : Int32), vI (0 : Int32), vI (2 : Int32)] [(.int (0 : Int32))])) _
          exact k)
        obtain ⟨fs, hr, hrun, hended, hW, hsame⟩ := X32.leave (v := some (.int (0 : Int32))) (fun h => by rw [Bd.returns] at h; cases h)
        exact ⟨_, _, pre37.fin hS0 (retN X32 hx (t := .boolean) Bd.returns (by simp) (hb hby d6_84) hr), hrun, hended, _, _, rfl, (by
          show Q6_3 Z a0 p1 r k0 x0 x1 x2 x3 x4 x5 h0 n0 _ T32.heap _
          rw [e32]
          exact ⟨congrArg (fun z => some (Value.int z)) (by unfold own_in3; rw [if_neg (by simp only [Int32.lt_iff_toInt_lt] at c42_9 c65_30 c42_36 ⊢; omega)]), N0, rfl⟩), ⟨_, rfl⟩, hW, hsame.mono (by decide) (by decide)⟩
      · skip
        have pre38 : Go p.tables e below S0 T32 (mkF m 55 #[vR a0, vI p1, vI (2 : Int32), vI (2 : Int32), vI (0 : Int32), vI (2 : Int32)] [(.ref a0), (.int p1)]) := fun t k => pre35 t (by
          refine XS.icmpYes X32.here hx rfl (pc0 := 42) (pc' := 53) rfl (hb hby d6_42) rfl (flt c42_36).2.1 (by decide) (by decide) ?_
          show Steps p.tables e below (T32.setTop (mkF m 53 #[vR a0, vI p1, vI (2 : Int32), vI (2 : Int32), vI (0 : Int32), vI (2 : Int32)] [])) _
          refine XS.iloadN X32.here hx rfl (hb hby d6_53) rfl ?_
          show Steps p.tables e below (T32.setTop (mkF m 54 #[vR a0, vI p1, vI (2 : Int32), vI (2 : Int32), vI (0 : Int32), vI (2 : Int32)] [(.int p1)])) _
          refine XS.aloadN X32.here hx rfl (hb hby d6_54) rfl rfl ?_
          show Steps p.tables e below (T32.setTop (mkF m 55 #[vR a0, vI p1, vI (2 : Int32), vI (2 : Int32), vI (0 : Int32), vI (2 : Int32)] [(.ref a0), (.int p1)])) _
          exact k)
        obtain ⟨T39, X39, e39, st39⟩ := getF X32 hx hZ hown (host := "") (Or.inl (hw _ (List.mem_of_getElem? (i := 24) rfl))) Via.refl e32 F0 (g := (mkF m 55 #[vR a0, vI p1, vI (2 : Int32), vI (2 : Int32), vI (0 : Int32), vI (2 : Int32)] [(.ref a0), (.int p1)])) rfl rfl (hb hby d6_55)
        have pre39 : Go p.tables e below S0 T39 (mkF m 58 #[vR a0, vI p1, vI (2 : Int32), vI (2 : Int32), vI (0 : Int32), vI (2 : Int32)] [(.ref r), (.int p1)]) := fun t k => pre38 t (st39 t k)
        have pre40 : Go p.tables e below S0 T39 (mkF m 64 #[vR a0, vI p1, vI (2 : Int32), vI (2 : Int32), vI (0 : Int32), vI (2 : Int32)] [(.int (5 : Int32)), (.ref r), (.int p1)]) := fun t k => pre39 t (by
          refine XS.iconst X39.here hx rfl (hb hby d6_58) ?_
          show Steps p.tables e below (T39.setTop (mkF m 59 #[vR a0, vI p1, vI (2 : Int32), vI (2 : Int32), vI (0 : Int32), vI (2 : Int32)] [(.int (2 : Int32)), (.ref r), (.int p1)])) _
          refine XS.iload X39.here hx rfl (hb hby d6_59) rfl ?_
          show Steps p.tables e below (T39.setTop (mkF m 61 #[vR a0, vI p1, vI (2 : Int32), vI (2 : Int32), vI (0 : Int32), vI (2 : Int32)] [(.int (2 : Int32)), (.int (2 : Int32)), (.ref r), (.int p1)])) _
          refine XS.imul X39.here hx rfl (hb hby d6_61) rfl ?_
          show Steps p.tables e below (T39.setTop (mkF m 62 #[vR a0, vI p1, vI (2 : Int32), vI (2 : Int32), vI (0 : Int32), vI (2 : Int32)] [(.int (4 : Int32)), (.ref r), (.int p1)])) _
          refine XS.iconst X39.here hx rfl (hb hby d6_62) ?_
          show Steps p.tables e below (T39.setTop (mkF m 63 #[vR a0, vI p1, vI (2 : Int32), vI (2 : Int32), vI (0 : Int32), vI (2 : Int32)] [(.int (1 : Int32)), (.int (4 : Int32)), (.ref r), (.int p1)])) _
          refine XS.iadd X39.here hx rfl (hb hby d6_63) rfl ?_
          show Steps p.tables e below (T39.setTop (mkF m 64 #[vR a0, vI p1, vI (2 : Int32), vI (2 : Int32), vI (0 : Int32), vI (2 : Int32)] [(.int (5 : Int32)), (.ref r), (.int p1)])) _
          exact k)
        obtain ⟨cl41, Ar41, q41, S41, M41, H41, G41⟩ := id V0
        have in41 : ¬ ((5 : Int32) < 0 ∨ cl41.slots.size ≤ ((5 : Int32)).toNatClampNeg) := inb_of S41 ⟨by decide, by decide⟩
        have at41 : cl41.slots[((5 : Int32)).toNatClampNeg]? = some (.int x5) := H41.at in41 rfl
        have pre42 : Go p.tables e below S0 T39 (mkF m 65 #[vR a0, vI p1, vI (2 : Int32), vI (2 : Int32), vI (0 : Int32), vI (2 : Int32)] [(.int x5), (.int p1)]) := fun t k => pre40 t (by
          refine X39.iaload hx (j := (5 : Int32)) (v := (.int x5)) (by rw [e39]; exact Ar41.1) (State.isArrayOf_alike hZ.alike Ar41.2.1) Ar41.2.2 in41 at41 (g := (mkF m 64 #[vR a0, vI p1, vI (2 : Int32), vI (2 : Int32), vI (0 : Int32), vI (2 : Int32)] [(.int (5 : Int32)), (.ref r), (.int p1)])) rfl rfl (hb hby d6_64) _ ?_
          show Steps p.tables e below (T39.setTop (mkF m 65 #[vR a0, vI p1, vI (2 : Int32), vI (2 : Int32), vI (0 : Int32), vI (2 : Int32)] [(.int x5), (.int p1)])) _
          exact k)
        by_cases c65_43 : x5 < p1
        · skip
          have pre44 : Go p.tables e below S0 T39 (mkF m 84 #[vR a0, vI p1, vI (3 : Int32), vI (2 : Int32), vI (0 : Int32), vI (2 : Int32)] [(.int (0 : Int32))]) := fun t k => pre42 t (by
            refine XS.icmpNo X39.here hx rfl (hb hby d6_65) rfl (tlt c65_43).2.2.2 ?_
            show Steps p.tables e below (T39.setTop (mkF m 68 #[vR a0, vI p1, vI (2 : Int32), vI (2 : Int32), vI (0 : Int32), vI (2 : Int32)] [])) _
            refine XS.iload X39.here hx rfl (hb hby d6_68) rfl ?_
            show Steps p.tables e below (T39.setTop (mkF m 70 #[vR a0, vI p1, vI (2 : Int32), vI (2 : Int32), vI (0 : Int32), vI (2 : Int32)] [(.int (2 : Int32))])) _
            refine XS.iconst X39.here hx rfl (hb hby d6_70) ?_
            show Steps p.tables e below (T39.setTop (mkF m 71 #[vR a0, vI p1, vI (2 : Int32), vI (2 : Int32), vI (0 : Int32), vI (2 : Int32)] [(.int (1 : Int32)), (.int (2 : Int32))])) _
            refine XS.iadd X39.here hx rfl (hb hby d6_71) rfl ?_
            show Steps p.tables e below (T39.setTop (mkF m 72 #[vR a0, vI p1, vI (2 : Int32), vI (2 : Int32), vI (0 : Int32), vI (2 : Int32)] [(.int (3 : Int32))])) _
            refine XS.istoreN X39.here hx rfl (hb hby d6_72) rfl (l' := #[vR a0, vI p1, vI (3 : Int32), vI (2 : Int32), vI (0 : Int32), vI (2 : Int32)]) rfl ?_
            show Steps p.tables e below (T39.setTop (mkF m 73 #[vR a0, vI p1, vI (3 : Int32), vI (2 : Int32), vI (0 : Int32), vI (2 : Int32)] [])) _
            refine XS.goto X39.here hx rfl (pc0 := 73) (pc' := 79) rfl (hb hby d6_73) (by decide) (by decide) ?_
            show Steps p.tables e below (T39.setTop (mkF m 79 #[vR a0, vI p1, vI (3 : Int32), vI (2 : Int32), vI (0 : Int32), vI (2 : Int32)] [])) _
            refine XS.goto X39.here hx rfl (pc0 := 79) (pc' := 15) rfl (hb hby d6_79) (by decide) (by decide) ?_
            show Steps p.tables e below (T39.setTop (mkF m 15 #[vR a0, vI p1, vI (3 : Int32), vI (2 : Int32), vI (0 : Int32), vI (2 : Int32)] [])) _
            refine XS.iload X39.here hx rfl (hb hby d6_15) rfl ?_
            show Steps p.tables e below (T39.setTop (mkF m 17 #[vR a0, vI p1, vI (3 : Int32), vI (2 : Int32), vI (0 : Int32), vI (2 : Int32)] [(.int (0 : Int32))])) _
            refine XS.ifNo X39.here hx rfl (hb hby d6_17) rfl ((if0 _ _).trans (teq (rfl : (0 : Int32) = (0 : Int32))).2) ?_
            show Steps p.tables e below (T39.setTop (mkF m 20 #[vR a0, vI p1, vI (3 : Int32), vI (2 : Int32), vI (0 : Int32), vI (2 : Int32)] [])) _
            refine XS.iloadN X39.here hx rfl (hb hby d6_20) rfl ?_
            show Steps p.tables e below (T39.setTop (mkF m 21 #[vR a0, vI p1, vI (3 : Int32), vI (2 : Int32), vI (0 : Int32), vI (2 : Int32)] [(.int (3 : Int32))])) _
            refine XS.iloadN X39.here hx rfl (hb hby d6_21) rfl ?_
            show Steps p.tables e below (T39.setTop (mkF m 22 #[vR a0, vI p1, vI (3 : Int32), vI (2 : Int32), vI (0 : Int32), vI (2 : Int32)] [(.int (2 : Int32)), (.int (3 : Int32))])) _
            refine XS.icmpYes X39.here hx rfl (pc0 := 22) (pc' := 82) rfl (hb hby d6_22) rfl (tlt (by decide : (2 : Int32) < (3 : Int32))).2.2.1 (by decide) (by decide) ?_
            show Steps p.tables e below (T39.setTop (mkF m 82 #[vR a0, vI p1, vI (3 : Int32), vI (2 : Int32), vI (0 : Int32), vI (2 : Int32)] [])) _
            refine XS.iload X39.here hx rfl (hb hby d6_82) rfl ?_
            show Steps p.tables e below (T39.setTop (mkF m 84 #[vR a0, vI p1, vI (3 : Int32), vI (2 : Int32), vI (0 : Int32), vI (2 : Int32)] [(.int (0 : Int32))])) _
            exact k)
          obtain ⟨fs, hr, hrun, hended, hW, hsame⟩ := X39.leave (v := some (.int (0 : Int32))) (fun h => by rw [Bd.returns] at h; cases h)
          exact ⟨_, _, pre44.fin hS0 (retN X39 hx (t := .boolean) Bd.returns (by simp) (hb hby d6_84) hr), hrun, hended, _, _, rfl, (by
            show Q6_3 Z a0 p1 r k0 x0 x1 x2 x3 x4 x5 h0 n0 _ T39.heap _
            rw [e39]
            exact ⟨congrArg (fun z => some (Value.int z)) (by unfold own_in3; rw [if_neg (by simp only [Int32.lt_iff_toInt_lt] at c42_9 c65_30 c42_36 c65_43 ⊢; omega)]), N0, rfl⟩), ⟨_, rfl⟩, hW, hsame.mono (by decide) (by decide)⟩
        · skip
          have pre45 : Go p.tables e below S0 T39 (mkF m 84 #[vR a0, vI p1, vI (2 : Int32), vI (2 : Int32), vI (1 : Int32), vI (2 : Int32)] [(.int (1 : Int32))]) := fun t k => pre42 t (by
            refine XS.icmpYes X39.here hx rfl (pc0 := 65) (pc' := 76) rfl (hb hby d6_65) rfl (flt c65_43).2.2.2 (by decide) (by decide) ?_
            show Steps p.tables e below (T39.setTop (mkF m 76 #[vR a0, vI p1, vI (2 : Int32), vI (2 : Int32), vI (0 : Int32), vI (2 : Int32)] [])) _
            refine XS.iconst X39.here hx rfl (hb hby d6_76) ?_
            show Steps p.tables e below (T39.setTop (mkF m 77 #[vR a0, vI p1, vI (2 : Int32), vI (2 : Int32), vI (0 : Int32), vI (2 : Int32)] [(.int (1 : Int32))])) _
            refine XS.istore X39.here hx rfl (hb hby d6_77) rfl (l' := #[vR a0, vI p1, vI (2 : Int32), vI (2 : Int32), vI (1 : Int32), vI (2 : Int32)]) rfl ?_
            show Steps p.tables e below (T39.setTop (mkF m 79 #[vR a0, vI p1, vI (2 : Int32), vI (2 : Int32), vI (1 : Int32), vI (2 : Int32)] [])) _
            refine XS.goto X39.here hx rfl (pc0 := 79) (pc' := 15) rfl (hb hby d6_79) (by decide) (by decide) ?_
            show Steps p.tables e below (T39.setTop (mkF m 15 #[vR a0, vI p1, vI (2 : Int32), vI (2 : Int32), vI (1 : Int32), vI (2 : Int32)] [])) _
            refine XS.iload X39.here hx rfl (hb hby d6_15) rfl ?_
            show Steps p.tables e below (T39.setTop (mkF m 17 #[vR a0, vI p1, vI (2 : Int32), vI (2 : Int32), vI (1 : Int32), vI (2 : Int32)] [(.int (1 : Int32))])) _
            refine XS.ifYes X39.here hx rfl (pc0 := 17) (pc' := 82) rfl (hb hby d6_17) rfl ((if0 _ _).trans (feq (by decide : ¬ ((1 : Int32) = (0 : Int32)))).2) (by decide) (by decide) ?_
            show Steps p.tables e below (T39.setTop (mkF m 82 #[vR a0, vI p1, vI (2 : Int32), vI (2 : Int32), vI (1 : Int32), vI (2 : Int32)] [])) _
            refine XS.iload X39.here hx rfl (hb hby d6_82) rfl ?_
            show Steps p.tables e below (T39.setTop (mkF m 84 #[vR a0, vI p1, vI (2 : Int32), vI (2 : Int32), vI (1 : Int32), vI (2 : Int32)] [(.int (1 : Int32))])) _
            exact k)
          obtain ⟨fs, hr, hrun, hended, hW, hsame⟩ := X39.leave (v := some (.int (1 : Int32))) (fun h => by rw [Bd.returns] at h; cases h)
          exact ⟨_, _, pre45.fin hS0 (retN X39 hx (t := .boolean) Bd.returns (by simp) (hb hby d6_84) hr), hrun, hended, _, _, rfl, (by
            show Q6_3 Z a0 p1 r k0 x0 x1 x2 x3 x4 x5 h0 n0 _ T39.heap _
            rw [e39]
            exact ⟨congrArg (fun z => some (Value.int z)) (by unfold own_in3; rw [if_pos (by simp only [Int32.lt_iff_toInt_lt] at c42_9 c65_30 c42_36 c65_43 ⊢; omega)]), N0, rfl⟩), ⟨_, rfl⟩, hW, hsame.mono (by decide) (by decide)⟩
    · skip
      have pre46 : Go p.tables e below S0 T26 (mkF m 84 #[vR a0, vI p1, vI (0 : Int32), vI (2 : Int32), vI (1 : Int32), vI (1 : Int32)] [(.int (1 : Int32))]) := fun t k => pre29 t (by
        refine XS.icmpYes X26.here hx rfl (pc0 := 65) (pc' := 76) rfl (hb hby d6_65) rfl (flt c65_30).2.2.2 (by decide) (by decide) ?_
        show Steps p.tables e below (T26.setTop (mkF m 76 #[vR a0, vI p1, vI (0 : Int32), vI (2 : Int32), vI (0 : Int32), vI (1 : Int32)] [])) _
        refine XS.iconst X26.here hx rfl (hb hby d6_76) ?_
        show Steps p.tables e below (T26.setTop (mkF m 77 #[vR a0, vI p1, vI (0 : Int32), vI (2 : Int32), vI (0 : Int32), vI (1 : Int32)] [(.int (1 : Int32))])) _
        refine XS.istore X26.here hx rfl (hb hby d6_77) rfl (l' := #[vR a0, vI p1, vI (0 : Int32), vI (2 : Int32), vI (1 : Int32), vI (1 : Int32)]) rfl ?_
        show Steps p.tables e below (T26.setTop (mkF m 79 #[vR a0, vI p1, vI (0 : Int32), vI (2 : Int32), vI (1 : Int32), vI (1 : Int32)] [])) _
        refine XS.goto X26.here hx rfl (pc0 := 79) (pc' := 15) rfl (hb hby d6_79) (by decide) (by decide) ?_
        show Steps p.tables e below (T26.setTop (mkF m 15 #[vR a0, vI p1, vI (0 : Int32), vI (2 : Int32), vI (1 : Int32), vI (1 : Int32)] [])) _
        refine XS.iload X26.here hx rfl (hb hby d6_15) rfl ?_
        show Steps p.tables e below (T26.setTop (mkF m 17 #[vR a0, vI p1, vI (0 : Int32), vI (2 : Int32), vI (1 : Int32), vI (1 : Int32)] [(.int (1 : Int32))])) _
        refine XS.ifYes X26.here hx rfl (pc0 := 17) (pc' := 82) rfl (hb hby d6_17) rfl ((if0 _ _).trans (feq (by decide : ¬ ((1 : Int32) = (0 : Int32)))).2) (by decide) (by decide) ?_
        show Steps p.tables e below (T26.setTop (mkF m 82 #[vR a0, vI p1, vI (0 : Int32), vI (2 : Int32), vI (1 : Int32), vI (1 : Int32)] [])) _
        refine XS.iload X26.here hx rfl (hb hby d6_82) rfl ?_
        show Steps p.tables e below (T26.setTop (mkF m 84 #[vR a0, vI p1, vI (0 : Int32), vI (2 : Int32), vI (1 : Int32), vI (1 : Int32)] [(.int (1 : Int32))])) _
        exact k)
      obtain ⟨fs, hr, hrun, hended, hW, hsame⟩ := X26.leave (v := some (.int (1 : Int32))) (fun h => by rw [Bd.returns] at h; cases h)
      exact ⟨_, _, pre46.fin hS0 (retN X26 hx (t := .boolean) Bd.returns (by simp) (hb hby d6_84) hr), hrun, hended, _, _, rfl, (by
        show Q6_3 Z a0 p1 r k0 x0 x1 x2 x3 x4 x5 h0 n0 _ T26.heap _
        rw [e26]
        exact ⟨congrArg (fun z => some (Value.int z)) (by unfold own_in3; rw [if_pos (by simp only [Int32.lt_iff_toInt_lt] at c42_9 c65_30 ⊢; omega)]), N0, rfl⟩), ⟨_, rfl⟩, hW, hsame.mono (by decide) (by decide)⟩
theorem ef_6_4 (m : MethodId) (x0 : Addr) (x1 : Int32) : entryFrame m #[(.ref x0), (.int x1)] 6 = mkF m 0 #[.val (.ref x0), .val (.int x1), .unset, .unset, .unset, .unset] [] := by first | (simp [entryFrame, mkF, argsToLocals, Value.category]; done) | rfl
def Q6_4 (Z : State) (a0 : Addr) (p1 : Int32) (r : Addr) (k0 : ClassId) (x0 : Int32) (x1 : Int32) (x2 : Int32) (x3 : Int32) (x4 : Int32) (x5 : Int32) (x6 : Int32) (x7 : Int32) (h0 : Heap) (n0 : Nat) (v : Option Value) (h : Heap) (L : List Loc) : Prop := v = some (.int (own_in4 p1 x0 x1 x2 x3 x4 x5 x6 x7)) ∧ Fr n0 L ∧ h = h0
set_option maxRecDepth 65536 in
set_option maxHeartbeats 40000000 in
theorem rm6_4 (l : Launch) (Z : State) (A0 : Array Value) (hw : ∀ d ∈ tables_1, d.before A0 Z = true) (ws : List Jvm.Cond) (a0 : Addr) (p1 : Int32) (r : Addr) (k0 : ClassId) (x0 : Int32) (x1 : Int32) (x2 : Int32) (x3 : Int32) (x4 : Int32) (x5 : Int32) (x6 : Int32) (x7 : Int32) (h0 : Heap) (n0 : Nat) (Z0 : n0 ≤ h0.size) (F0 : Fld Z h0 a0 "com/example/attest/attest/metadata/ScopeSyntax$Chars" "ranges" "[I" (.ref r)) (V0 : Arv Z h0 r k0 .int (8 : Int32) [(.int x0), (.int x1), (.int x2), (.int x3), (.int x4), (.int x5), (.int x6), (.int x7)] (.int (0 : Int32))) (hs : x0.toInt ≤ x1.toInt ∧ x1.toInt < x2.toInt ∧ x2.toInt ≤ x3.toInt ∧ x3.toInt < x4.toInt ∧ x4.toInt ≤ x5.toInt ∧ x5.toInt < x6.toInt ∧ x6.toInt ≤ x7.toInt) :
    MetFree l (⟨"com/example/attest/attest/metadata/ScopeSyntax$Chars", "contains", "(I)Z"⟩ : MethodName) (head1 (Jvm.Cond.code (⟨"com/example/attest/attest/metadata/ScopeSyntax$Chars", "contains", "(I)Z"⟩ : MethodName) prog_52_method_3_code 6 (some .boolean) :: ws) ({ frames := 0, cells := 0, slots := 0, locals := 0 } : Room)) (fun a U => a = #[(.ref a0), (.int p1)] ∧ Z.Warmed39 U.vm ∧ U.heap = h0) (fun _ _ _ _ _ => True) (fun _ U o U' => ∃ v L, o = .returned v ∧ Q6_4 Z a0 p1 r k0 x0 x1 x2 x3 x4 x5 x6 x7 h0 n0 v U'.heap L ∧ FrameEnd U o U' L ({ frames := 0, cells := 0, slots := 0, locals := 0 } : Room).cells ({ frames := 0, cells := 0, slots := 0, locals := 0 } : Room).slots) := by
  refine MetFree.of_bodySF (plainFor_of_name pn_1) hisR ?_
  intro p e s m args below meth c s₁ Bd hml0 hP hK
  obtain ⟨rfl, hZ, hh⟩ := hP
  have hx := Bd.exec
  have hby := Bd.bytes
  have hml : c.maxLocals = 6 := hml0
  have hown : s.vm.findClass "com/example/attest/attest/metadata/ScopeSyntax$Chars" = some m.cls := findClass_of_methodNamed Bd.named
  have hnm := (name_of_methodNamed Bd.named Bd.method).1
  have X0 : Stand p l e ({ frames := 0, cells := 0, slots := 0, locals := 0 } : Room) s m #[(.ref a0), (.int p1)] below meth c s₁ [] 0 0 := Stand.of_body Bd
  have e0 : s₁.heap = h0 := by rw [← hh, Bd.state]; rfl
  have N0 := Fr.nil n0
  obtain ⟨S0, hS0⟩ : ∃ z, z = s₁.setTop (entryFrame m #[(.ref a0), (.int p1)] 6) := ⟨_, rfl⟩
  have pre0 : Go p.tables e below S0 s₁ (mkF m 0 #[vR a0, vI p1, .unset, .unset, .unset, .unset] []) := fun t k => by rw [hS0]; exact castTop (ef_6_4 m a0 p1) k
  have pre1 : Go p.tables e below S0 s₁ (mkF m 3 #[vR a0, vI p1, vI (0 : Int32), .unset, .unset, .unset] [(.ref a0)]) := fun t k => pre0 t (by
    refine XS.iconst X0.here hx rfl (hb hby d6_0) ?_
    show Steps p.tables e below (s₁.setTop (mkF m 1 #[vR a0, vI p1, .unset, .unset, .unset, .unset] [(.int (0 : Int32))])) _
    refine XS.istoreN X0.here hx rfl (hb hby d6_1) rfl (l' := #[vR a0, vI p1, vI (0 : Int32), .unset, .unset, .unset]) rfl ?_
    show Steps p.tables e below (s₁.setTop (mkF m 2 #[vR a0, vI p1, vI (0 : Int32), .unset, .unset, .unset] [])) _
    refine XS.aloadN X0.here hx rfl (hb hby d6_2) rfl rfl ?_
    show Steps p.tables e below (s₁.setTop (mkF m 3 #[vR a0, vI p1, vI (0 : Int32), .unset, .unset, .unset] [(.ref a0)])) _
    exact k)
  obtain ⟨T2, X2, e2, st2⟩ := getF X0 hx hZ hown (host := "") (Or.inl (hw _ (List.mem_of_getElem? (i := 24) rfl))) Via.refl e0 F0 (g := (mkF m 3 #[vR a0, vI p1, vI (0 : Int32), .unset, .unset, .unset] [(.ref a0)])) rfl rfl (hb hby d6_3)
  have pre2 : Go p.tables e below S0 T2 (mkF m 6 #[vR a0, vI p1, vI (0 : Int32), .unset, .unset, .unset] [(.ref r)]) := fun t k => pre1 t (st2 t k)
  obtain ⟨cl3, Ar3, q3, S3, M3, H3, G3⟩ := id V0
  have pre4 : Go p.tables e below S0 T2 (mkF m 34 #[vR a0, vI p1, vI (0 : Int32), vI (3 : Int32), vI (0 : Int32), vI (1 : Int32)] [(.ref a0), (.int p1)]) := fun t k => pre2 t (by
    refine X2.arraylength hx (by rw [e2]; exact Ar3.1) (State.isArrayOf_alike hZ.alike Ar3.2.1) (g := (mkF m 6 #[vR a0, vI p1, vI (0 : Int32), .unset, .unset, .unset] [(.ref r)])) rfl rfl (hb hby d6_6) _ ?_
    rw [len_of S3 M3]
    show Steps p.tables e below (T2.setTop (mkF m 7 #[vR a0, vI p1, vI (0 : Int32), .unset, .unset, .unset] [(.int (8 : Int32))])) _
    refine XS.iconst X2.here hx rfl (hb hby d6_7) ?_
    show Steps p.tables e below (T2.setTop (mkF m 8 #[vR a0, vI p1, vI (0 : Int32), .unset, .unset, .unset] [(.int (2 : Int32)), (.int (8 : Int32))])) _
    refine XS.idiv X2.here hx rfl (hb hby d6_8) rfl (by decide) ?_
    show Steps p.tables e below (T2.setTop (mkF m 9 #[vR a0, vI p1, vI (0 : Int32), .unset, .unset, .unset] [(.int (4 : Int32))])) _
    refine XS.iconst X2.here hx rfl (hb hby d6_9) ?_
    show Steps p.tables e below (T2.setTop (mkF m 10 #[vR a0, vI p1, vI (0 : Int32), .unset, .unset, .unset] [(.int (1 : Int32)), (.int (4 : Int32))])) _
    refine XS.isub X2.here hx rfl (hb hby d6_10) rfl ?_
    show Steps p.tables e below (T2.setTop (mkF m 11 #[vR a0, vI p1, vI (0 : Int32), .unset, .unset, .unset] [(.int (3 : Int32))])) _
    refine XS.istoreN X2.here hx rfl (hb hby d6_11) rfl (l' := #[vR a0, vI p1, vI (0 : Int32), vI (3 : Int32), .unset, .unset]) rfl ?_
    show Steps p.tables e below (T2.setTop (mkF m 12 #[vR a0, vI p1, vI (0 : Int32), vI (3 : Int32), .unset, .unset] [])) _
    refine XS.iconst X2.here hx rfl (hb hby d6_12) ?_
    show Steps p.tables e below (T2.setTop (mkF m 13 #[vR a0, vI p1, vI (0 : Int32), vI (3 : Int32), .unset, .unset] [(.int (0 : Int32))])) _
    refine XS.istore X2.here hx rfl (hb hby d6_13) rfl (l' := #[vR a0, vI p1, vI (0 : Int32), vI (3 : Int32), vI (0 : Int32), .unset]) rfl ?_
    show Steps p.tables e below (T2.setTop (mkF m 15 #[vR a0, vI p1, vI (0 : Int32), vI (3 : Int32), vI (0 : Int32), .unset] [])) _
    refine XS.iload X2.here hx rfl (hb hby d6_15) rfl ?_
    show Steps p.tables e below (T2.setTop (mkF m 17 #[vR a0, vI p1, vI (0 : Int32), vI (3 : Int32), vI (0 : Int32), .unset] [(.int (0 : Int32))])) _
    refine XS.ifNo X2.here hx rfl (hb hby d6_17) rfl ((if0 _ _).trans (teq (rfl : (0 : Int32) = (0 : Int32))).2) ?_
    show Steps p.tables e below (T2.setTop (mkF m 20 #[vR a0, vI p1, vI (0 : Int32), vI (3 : Int32), vI (0 : Int32), .unset] [])) _
    refine XS.iloadN X2.here hx rfl (hb hby d6_20) rfl ?_
    show Steps p.tables e below (T2.setTop (mkF m 21 #[vR a0, vI p1, vI (0 : Int32), vI (3 : Int32), vI (0 : Int32), .unset] [(.int (0 : Int32))])) _
    refine XS.iloadN X2.here hx rfl (hb hby d6_21) rfl ?_
    show Steps p.tables e below (T2.setTop (mkF m 22 #[vR a0, vI p1, vI (0 : Int32), vI (3 : Int32), vI (0 : Int32), .unset] [(.int (3 : Int32)), (.int (0 : Int32))])) _
    refine XS.icmpNo X2.here hx rfl (hb hby d6_22) rfl (flt (by decide : ¬ ((3 : Int32) < (0 : Int32)))).2.2.1 ?_
    show Steps p.tables e below (T2.setTop (mkF m 25 #[vR a0, vI p1, vI (0 : Int32), vI (3 : Int32), vI (0 : Int32), .unset] [])) _
    refine XS.iloadN X2.here hx rfl (hb hby d6_25) rfl ?_
    show Steps p.tables e below (T2.setTop (mkF m 26 #[vR a0, vI p1, vI (0 : Int32), vI (3 : Int32), vI (0 : Int32), .unset] [(.int (0 : Int32))])) _
    refine XS.iloadN X2.here hx rfl (hb hby d6_26) rfl ?_
    show Steps p.tables e below (T2.setTop (mkF m 27 #[vR a0, vI p1, vI (0 : Int32), vI (3 : Int32), vI (0 : Int32), .unset] [(.int (3 : Int32)), (.int (0 : Int32))])) _
    refine XS.iadd X2.here hx rfl (hb hby d6_27) rfl ?_
    show Steps p.tables e below (T2.setTop (mkF m 28 #[vR a0, vI p1, vI (0 : Int32), vI (3 : Int32), vI (0 : Int32), .unset] [(.int (3 : Int32))])) _
    refine XS.iconst X2.here hx rfl (hb hby d6_28) ?_
    show Steps p.tables e below (T2.setTop (mkF m 29 #[vR a0, vI p1, vI (0 : Int32), vI (3 : Int32), vI (0 : Int32), .unset] [(.int (1 : Int32)), (.int (3 : Int32))])) _
    refine XS.iushr X2.here hx rfl (hb hby d6_29) rfl ?_
    show Steps p.tables e below (T2.setTop (mkF m 30 #[vR a0, vI p1, vI (0 : Int32), vI (3 : Int32), vI (0 : Int32), .unset] [(.int (1 : Int32))])) _
    refine XS.istore X2.here hx rfl (hb hby d6_30) rfl (l' := #[vR a0, vI p1, vI (0 : Int32), vI (3 : Int32), vI (0 : Int32), vI (1 : Int32)]) rfl ?_
    show Steps p.tables e below (T2.setTop (mkF m 32 #[vR a0, vI p1, vI (0 : Int32), vI (3 : Int32), vI (0 : Int32), vI (1 : Int32)] [])) _
    refine XS.iloadN X2.here hx rfl (hb hby d6_32) rfl ?_
    show Steps p.tables e below (T2.setTop (mkF m 33 #[vR a0, vI p1, vI (0 : Int32), vI (3 : Int32), vI (0 : Int32), vI (1 : Int32)] [(.int p1)])) _
    refine XS.aloadN X2.here hx rfl (hb hby d6_33) rfl rfl ?_
    show Steps p.tables e below (T2.setTop (mkF m 34 #[vR a0, vI p1, vI (0 : Int32), vI (3 : Int32), vI (0 : Int32), vI (1 : Int32)] [(.ref a0), (.int p1)])) _
    exact k)
  obtain ⟨T5, X5, e5, st5⟩ := getF X2 hx hZ hown (host := "") (Or.inl (hw _ (List.mem_of_getElem? (i := 24) rfl))) Via.refl e2 F0 (g := (mkF m 34 #[vR a0, vI p1, vI (0 : Int32), vI (3 : Int32), vI (0 : Int32), vI (1 : Int32)] [(.ref a0), (.int p1)])) rfl rfl (hb hby d6_34)
  have pre5 : Go p.tables e below S0 T5 (mkF m 37 #[vR a0, vI p1, vI (0 : Int32), vI (3 : Int32), vI (0 : Int32), vI (1 : Int32)] [(.ref r), (.int p1)]) := fun t k => pre4 t (st5 t k)
  have pre6 : Go p.tables e below S0 T5 (mkF m 41 #[vR a0, vI p1, vI (0 : Int32), vI (3 : Int32), vI (0 : Int32), vI (1 : Int32)] [(.int (2 : Int32)), (.ref r), (.int p1)]) := fun t k => pre5 t (by
    refine XS.iconst X5.here hx rfl (hb hby d6_37) ?_
    show Steps p.tables e below (T5.setTop (mkF m 38 #[vR a0, vI p1, vI (0 : Int32), vI (3 : Int32), vI (0 : Int32), vI (1 : Int32)] [(.int (2 : Int32)), (.ref r), (.int p1)])) _
    refine XS.iload X5.here hx rfl (hb hby d6_38) rfl ?_
    show Steps p.tables e below (T5.setTop (mkF m 40 #[vR a0, vI p1, vI (0 : Int32), vI (3 : Int32), vI (0 : Int32), vI (1 : Int32)] [(.int (1 : Int32)), (.int (2 : Int32)), (.ref r), (.int p1)])) _
    refine XS.imul X5.here hx rfl (hb hby d6_40) rfl ?_
    show Steps p.tables e below (T5.setTop (mkF m 41 #[vR a0, vI p1, vI (0 : Int32), vI (3 : Int32), vI (0 : Int32), vI (1 : Int32)] [(.int (2 : Int32)), (.ref r), (.int p1)])) _
    exact k)
  obtain ⟨cl7, Ar7, q7, S7, M7, H7, G7⟩ := id V0
  have in7 : ¬ ((2 : Int32) < 0 ∨ cl7.slots.size ≤ ((2 : Int32)).toNatClampNeg) := inb_of S7 ⟨by decide, by decide⟩
  have at7 : cl7.slots[((2 : Int32)).toNatClampNeg]? = some (.int x2) := H7.at in7 rfl
  have pre8 : Go p.tables e below S0 T5 (mkF m 42 #[vR a0, vI p1, vI (0 : Int32), vI (3 : Int32), vI (0 : Int32), vI (1 : Int32)] [(.int x2), (.int p1)]) := fun t k => pre6 t (by
    refine X5.iaload hx (j := (2 : Int32)) (v := (.int x2)) (by rw [e5]; exact Ar7.1) (State.isArrayOf_alike hZ.alike Ar7.2.1) Ar7.2.2 in7 at7 (g := (mkF m 41 #[vR a0, vI p1, vI (0 : Int32), vI (3 : Int32), vI (0 : Int32), vI (1 : Int32)] [(.int (2 : Int32)), (.ref r), (.int p1)])) rfl rfl (hb hby d6_41) _ ?_
    show Steps p.tables e below (T5.setTop (mkF m 42 #[vR a0, vI p1, vI (0 : Int32), vI (3 : Int32), vI (0 : Int32), vI (1 : Int32)] [(.int x2), (.int p1)])) _
    exact k)
  by_cases c42_9 : p1 < x2
  · skip
    have pre10 : Go p.tables e below S0 T5 (mkF m 34 #[vR a0, vI p1, vI (0 : Int32), vI (0 : Int32), vI (0 : Int32), vI (0 : Int32)] [(.ref a0), (.int p1)]) := fun t k => pre8 t (by
      refine XS.icmpNo X5.here hx rfl (hb hby d6_42) rfl (tlt c42_9).2.1 ?_
      show Steps p.tables e below (T5.setTop (mkF m 45 #[vR a0, vI p1, vI (0 : Int32), vI (3 : Int32), vI (0 : Int32), vI (1 : Int32)] [])) _
      refine XS.iload X5.here hx rfl (hb hby d6_45) rfl ?_
      show Steps p.tables e below (T5.setTop (mkF m 47 #[vR a0, vI p1, vI (0 : Int32), vI (3 : Int32), vI (0 : Int32), vI (1 : Int32)] [(.int (1 : Int32))])) _
      refine XS.iconst X5.here hx rfl (hb hby d6_47) ?_
      show Steps p.tables e below (T5.setTop (mkF m 48 #[vR a0, vI p1, vI (0 : Int32), vI (3 : Int32), vI (0 : Int32), vI (1 : Int32)] [(.int (1 : Int32)), (.int (1 : Int32))])) _
      refine XS.isub X5.here hx rfl (hb hby d6_48) rfl ?_
      show Steps p.tables e below (T5.setTop (mkF m 49 #[vR a0, vI p1, vI (0 : Int32), vI (3 : Int32), vI (0 : Int32), vI (1 : Int32)] [(.int (0 : Int32))])) _
      refine XS.istoreN X5.here hx rfl (hb hby d6_49) rfl (l' := #[vR a0, vI p1, vI (0 : Int32), vI (0 : Int32), vI (0 : Int32), vI (1 : Int32)]) rfl ?_
      show Steps p.tables e below (T5.setTop (mkF m 50 #[vR a0, vI p1, vI (0 : Int32), vI (0 : Int32), vI (0 : Int32), vI (1 : Int32)] [])) _
      refine XS.goto X5.here hx rfl (pc0 := 50) (pc' := 79) rfl (hb hby d6_50) (by decide) (by decide) ?_
      show Steps p.tables e below (T5.setTop (mkF m 79 #[vR a0, vI p1, vI (0 : Int32), vI (0 : Int32), vI (0 : Int32), vI (1 : Int32)] [])) _
      refine XS.goto X5.here hx rfl (pc0 := 79) (pc' := 15) rfl (hb hby d6_79) (by decide) (by decide) ?_
      show Steps p.tables e below (T5.setTop (mkF m 15 #[vR a0, vI p1, vI (0 : Int32), vI (0 : Int32), vI (0 : Int32), vI (1 : Int32)] [])) _
      refine XS.iload X5.here hx rfl (hb hby d6_15) rfl ?_
      show Steps p.tables e below (T5.setTop (mkF m 17 #[vR a0, vI p1, vI (0 : Int32), vI (0 : Int32), vI (0 : Int32), vI (1 : Int32)] [(.int (0 : Int32))])) _
      refine XS.ifNo X5.here hx rfl (hb hby d6_17) rfl ((if0 _ _).trans (teq (rfl : (0 : Int32) = (0 : Int32))).2) ?_
      show Steps p.tables e below (T5.setTop (mkF m 20 #[vR a0, vI p1, vI (0 : Int32), vI (0 : Int32), vI (0 : Int32), vI (1 : Int32)] [])) _
      refine XS.iloadN X5.here hx rfl (hb hby d6_20) rfl ?_
      show Steps p.tables e below (T5.setTop (mkF m 21 #[vR a0, vI p1, vI (0 : Int32), vI (0 : Int32), vI (0 : Int32), vI (1 : Int32)] [(.int (0 : Int32))])) _
      refine XS.iloadN X5.here hx rfl (hb hby d6_21) rfl ?_
      show Steps p.tables e below (T5.setTop (mkF m 22 #[vR a0, vI p1, vI (0 : Int32), vI (0 : Int32), vI (0 : Int32), vI (1 : Int32)] [(.int (0 : Int32)), (.int (0 : Int32))])) _
      refine XS.icmpNo X5.here hx rfl (hb hby d6_22) rfl (flt (by decide : ¬ ((0 : Int32) < (0 : Int32)))).2.2.1 ?_
      show Steps p.tables e below (T5.setTop (mkF m 25 #[vR a0, vI p1, vI (0 : Int32), vI (0 : Int32), vI (0 : Int32), vI (1 : Int32)] [])) _
      refine XS.iloadN X5.here hx rfl (hb hby d6_25) rfl ?_
      show Steps p.tables e below (T5.setTop (mkF m 26 #[vR a0, vI p1, vI (0 : Int32), vI (0 : Int32), vI (0 : Int32), vI (1 : Int32)] [(.int (0 : Int32))])) _
      refine XS.iloadN X5.here hx rfl (hb hby d6_26) rfl ?_
      show Steps p.tables e below (T5.setTop (mkF m 27 #[vR a0, vI p1, vI (0 : Int32), vI (0 : Int32), vI (0 : Int32), vI (1 : Int32)] [(.int (0 : Int32)), (.int (0 : Int32))])) _
      refine XS.iadd X5.here hx rfl (hb hby d6_27) rfl ?_
      show Steps p.tables e below (T5.setTop (mkF m 28 #[vR a0, vI p1, vI (0 : Int32), vI (0 : Int32), vI (0 : Int32), vI (1 : Int32)] [(.int (0 : Int32))])) _
      refine XS.iconst X5.here hx rfl (hb hby d6_28) ?_
      show Steps p.tables e below (T5.setTop (mkF m 29 #[vR a0, vI p1, vI (0 : Int32), vI (0 : Int32), vI (0 : Int32), vI (1 : Int32)] [(.int (1 : Int32)), (.int (0 : Int32))])) _
      refine XS.iushr X5.here hx rfl (hb hby d6_29) rfl ?_
      show Steps p.tables e below (T5.setTop (mkF m 30 #[vR a0, vI p1, vI (0 : Int32), vI (0 : Int32), vI (0 : Int32), vI (1 : Int32)] [(.int (0 : Int32))])) _
      refine XS.istore X5.here hx rfl (hb hby d6_30) rfl (l' := #[vR a0, vI p1, vI (0 : Int32), vI (0 : Int32), vI (0 : Int32), vI (0 : Int32)]) rfl ?_
      show Steps p.tables e below (T5.setTop (mkF m 32 #[vR a0, vI p1, vI (0 : Int32), vI (0 : Int32), vI (0 : Int32), vI (0 : Int32)] [])) _
      refine XS.iloadN X5.here hx rfl (hb hby d6_32) rfl ?_
      show Steps p.tables e below (T5.setTop (mkF m 33 #[vR a0, vI p1, vI (0 : Int32), vI (0 : Int32), vI (0 : Int32), vI (0 : Int32)] [(.int p1)])) _
      refine XS.aloadN X5.here hx rfl (hb hby d6_33) rfl rfl ?_
      show Steps p.tables e below (T5.setTop (mkF m 34 #[vR a0, vI p1, vI (0 : Int32), vI (0 : Int32), vI (0 : Int32), vI (0 : Int32)] [(.ref a0), (.int p1)])) _
      exact k)
    obtain ⟨T11, X11, e11, st11⟩ := getF X5 hx hZ hown (host := "") (Or.inl (hw _ (List.mem_of_getElem? (i := 24) rfl))) Via.refl e5 F0 (g := (mkF m 34 #[vR a0, vI p1, vI (0 : Int32), vI (0 : Int32), vI (0 : Int32), vI (0 : Int32)] [(.ref a0), (.int p1)])) rfl rfl (hb hby d6_34)
    have pre11 : Go p.tables e below S0 T11 (mkF m 37 #[vR a0, vI p1, vI (0 : Int32), vI (0 : Int32), vI (0 : Int32), vI (0 : Int32)] [(.ref r), (.int p1)]) := fun t k => pre10 t (st11 t k)
    have pre12 : Go p.tables e below S0 T11 (mkF m 41 #[vR a0, vI p1, vI (0 : Int32), vI (0 : Int32), vI (0 : Int32), vI (0 : Int32)] [(.int (0 : Int32)), (.ref r), (.int p1)]) := fun t k => pre11 t (by
      refine XS.iconst X11.here hx rfl (hb hby d6_37) ?_
      show Steps p.tables e below (T11.setTop (mkF m 38 #[vR a0, vI p1, vI (0 : Int32), vI (0 : Int32), vI (0 : Int32), vI (0 : Int32)] [(.int (2 : Int32)), (.ref r), (.int p1)])) _
      refine XS.iload X11.here hx rfl (hb hby d6_38) rfl ?_
      show Steps p.tables e below (T11.setTop (mkF m 40 #[vR a0, vI p1, vI (0 : Int32), vI (0 : Int32), vI (0 : Int32), vI (0 : Int32)] [(.int (0 : Int32)), (.int (2 : Int32)), (.ref r), (.int p1)])) _
      refine XS.imul X11.here hx rfl (hb hby d6_40) rfl ?_
      show Steps p.tables e below (T11.setTop (mkF m 41 #[vR a0, vI p1, vI (0 : Int32), vI (0 : Int32), vI (0 : Int32), vI (0 : Int32)] [(.int (0 : Int32)), (.ref r), (.int p1)])) _
      exact k)
    obtain ⟨cl13, Ar13, q13, S13, M13, H13, G13⟩ := id V0
    have in13 : ¬ ((0 : Int32) < 0 ∨ cl13.slots.size ≤ ((0 : Int32)).toNatClampNeg) := inb_of S13 ⟨by decide, by decide⟩
    have at13 : cl13.slots[((0 : Int32)).toNatClampNeg]? = some (.int x0) := H13.at in13 rfl
    have pre14 : Go p.tables e below S0 T11 (mkF m 42 #[vR a0, vI p1, vI (0 : Int32), vI (0 : Int32), vI (0 : Int32), vI (0 : Int32)] [(.int x0), (.int p1)]) := fun t k => pre12 t (by
      refine X11.iaload hx (j := (0 : Int32)) (v := (.int x0)) (by rw [e11]; exact Ar13.1) (State.isArrayOf_alike hZ.alike Ar13.2.1) Ar13.2.2 in13 at13 (g := (mkF m 41 #[vR a0, vI p1, vI (0 : Int32), vI (0 : Int32), vI (0 : Int32), vI (0 : Int32)] [(.int (0 : Int32)), (.ref r), (.int p1)])) rfl rfl (hb hby d6_41) _ ?_
      show Steps p.tables e below (T11.setTop (mkF m 42 #[vR a0, vI p1, vI (0 : Int32), vI (0 : Int32), vI (0 : Int32), vI (0 : Int32)] [(.int x0), (.int p1)])) _
      exact k)
    by_cases c42_15 : p1 < x0
    · skip
      have pre16 : Go p.tables e below S0 T11 (mkF m 84 #[vR a0, vI p1, vI (0 : Int32), vI (-1 : Int32), vI (0 : Int32), vI (0 : Int32)] [(.int (0 : Int32))]) := fun t k => pre14 t (by
        refine XS.icmpNo X11.here hx rfl (hb hby d6_42) rfl (tlt c42_15).2.1 ?_
        show Steps p.tables e below (T11.setTop (mkF m 45 #[vR a0, vI p1, vI (0 : Int32), vI (0 : Int32), vI (0 : Int32), vI (0 : Int32)] [])) _
        refine XS.iload X11.here hx rfl (hb hby d6_45) rfl ?_
        show Steps p.tables e below (T11.setTop (mkF m 47 #[vR a0, vI p1, vI (0 : Int32), vI (0 : Int32), vI (0 : Int32), vI (0 : Int32)] [(.int (0 : Int32))])) _
        refine XS.iconst X11.here hx rfl (hb hby d6_47) ?_
        show Steps p.tables e below (T11.setTop (mkF m 48 #[vR a0, vI p1, vI (0 : Int32), vI (0 : Int32), vI (0 : Int32), vI (0 : Int32)] [(.int (1 : Int32)), (.int (0 : Int32))])) _
        refine XS.isub X11.here hx rfl (hb hby d6_48) rfl ?_
        show Steps p.tables e below (T11.setTop (mkF m 49 #[vR a0, vI p1, vI (0 : Int32), vI (0 : Int32), vI (0 : Int32), vI (0 : Int32)] [(.int (-1 : Int32))])) _
        refine XS.istoreN X11.here hx rfl (hb hby d6_49) rfl (l' := #[vR a0, vI p1, vI (0 : Int32), vI (-1 : Int32), vI (0 : Int32), vI (0 : Int32)]) rfl ?_
        show Steps p.tables e below (T11.setTop (mkF m 50 #[vR a0, vI p1, vI (0 : Int32), vI (-1 : Int32), vI (0 : Int32), vI (0 : Int32)] [])) _
        refine XS.goto X11.here hx rfl (pc0 := 50) (pc' := 79) rfl (hb hby d6_50) (by decide) (by decide) ?_
        show Steps p.tables e below (T11.setTop (mkF m 79 #[vR a0, vI p1, vI (0 : Int32), vI (-1 : Int32), vI (0 : Int32), vI (0 : Int32)] [])) _
        refine XS.goto X11.here hx rfl (pc0 := 79) (pc' := 15) rfl (hb hby d6_79) (by decide) (by decide) ?_
        show Steps p.tables e below (T11.setTop (mkF m 15 #[vR a0, vI p1, vI (0 : Int32), vI (-1 : Int32), vI (0 : Int32), vI (0 : Int32)] [])) _
        refine XS.iload X11.here hx rfl (hb hby d6_15) rfl ?_
        show Steps p.tables e below (T11.setTop (mkF m 17 #[vR a0, vI p1, vI (0 : Int32), vI (-1 : Int32), vI (0 : Int32), vI (0 : Int32)] [(.int (0 : Int32))])) _
        refine XS.ifNo X11.here hx rfl (hb hby d6_17) rfl ((if0 _ _).trans (teq (rfl : (0 : Int32) = (0 : Int32))).2) ?_
        show Steps p.tables e below (T11.setTop (mkF m 20 #[vR a0, vI p1, vI (0 : Int32), vI (-1 : Int32), vI (0 : Int32), vI (0 : Int32)] [])) _
        refine XS.iloadN X11.here hx rfl (hb hby d6_20) rfl ?_
        show Steps p.tables e below (T11.setTop (mkF m 21 #[vR a0, vI p1, vI (0 : Int32), vI (-1 : Int32), vI (0 : Int32), vI (0 : Int32)] [(.int (0 : Int32))])) _
        refine XS.iloadN X11.here hx rfl (hb hby d6_21) rfl ?_
        show Steps p.tables e below (T11.setTop (mkF m 22 #[vR a0, vI p1, vI (0 : Int32), vI (-1 : Int32), vI (0 : Int32), vI (0 : Int32)] [(.int (-1 : Int32)), (.int (0 : Int32))])) _
        refine XS.icmpYes X11.here hx rfl (pc0 := 22) (pc' := 82) rfl (hb hby d6_22) rfl (tlt (by decide : (-1 : Int32) < (0 : Int32))).2.2.1 (by decide) (by decide) ?_
        show Steps p.tables e below (T11.setTop (mkF m 82 #[vR a0, vI p1, vI (0 : Int32), vI (-1 : Int32), vI (0 : Int32), vI (0 : Int32)] [])) _
        refine XS.iload X11.here hx rfl (hb hby d6_82) rfl ?_
        show Steps p.tables e below (T11.setTop (mkF m 84 #[vR a0, vI p1, vI (0 : Int32), vI (-1 : Int32), vI (0 : Int32), vI (0 : Int32)] [(.int (0 : Int32))])) _
        exact k)
      obtain ⟨fs, hr, hrun, hended, hW, hsame⟩ := X11.leave (v := some (.int (0 : Int32))) (fun h => by rw [Bd.returns] at h; cases h)
      exact ⟨_, _, pre16.fin hS0 (retN X11 hx (t := .boolean) Bd.returns (by simp) (hb hby d6_84) hr), hrun, hended, _, _, rfl, (by
        show Q6_4 Z a0 p1 r k0 x0 x1 x2 x3 x4 x5 x6 x7 h0 n0 _ T11.heap _
        rw [e11]
        exact ⟨congrArg (fun z => some (Value.int z)) (by unfold own_in4; rw [if_neg (by simp only [Int32.lt_iff_toInt_lt] at c42_9 c42_15 ⊢; omega)]), N0, rfl⟩), ⟨_, rfl⟩, hW, hsame.mono (by decide) (by decide)⟩
    · skip
      have pre17 : Go p.tables e below S0 T11 (mkF m 55 #[vR a0, vI p1, vI (0 : Int32), vI (0 : Int32), vI (0 : Int32), vI (0 : Int32)] [(.ref a0), (.int p1)]) := fun t k => pre14 t (by
        refine XS.icmpYes X11.here hx rfl (pc0 := 42) (pc' := 53) rfl (hb hby d6_42) rfl (flt c42_15).2.1 (by decide) (by decide) ?_
        show Steps p.tables e below (T11.setTop (mkF m 53 #[vR a0, vI p1, vI (0 : Int32), vI (0 : Int32), vI (0 : Int32), vI (0 : Int32)] [])) _
        refine XS.iloadN X11.here hx rfl (hb hby d6_53) rfl ?_
        show Steps p.tables e below (T11.setTop (mkF m 54 #[vR a0, vI p1, vI (0 : Int32), vI (0 : Int32), vI (0 : Int32), vI (0 : Int32)] [(.int p1)])) _
        refine XS.aloadN X11.here hx rfl (hb hby d6_54) rfl rfl ?_
        show Steps p.tables e below (T11.setTop (mkF m 55 #[vR a0, vI p1, vI (0 : Int32), vI (0 : Int32), vI (0 : Int32), vI (0 : Int32)] [(.ref a0), (.int p1)])) _
        exact k)
      obtain ⟨T18, X18, e18, st18⟩ := getF X11 hx hZ hown (host := "") (Or.inl (hw _ (List.mem_of_getElem? (i := 24) rfl))) Via.refl e11 F0 (g := (mkF m 55 #[vR a0, vI p1, vI (0 : Int32), vI (0 : Int32), vI (0 : Int32), vI (0 : Int32)] [(.ref a0), (.int p1)])) rfl rfl (hb hby d6_55)
      have pre18 : Go p.tables e below S0 T18 (mkF m 58 #[vR a0, vI p1, vI (0 : Int32), vI (0 : Int32), vI (0 : Int32), vI (0 : Int32)] [(.ref r), (.int p1)]) := fun t k => pre17 t (st18 t k)
      have pre19 : Go p.tables e below S0 T18 (mkF m 64 #[vR a0, vI p1, vI (0 : Int32), vI (0 : Int32), vI (0 : Int32), vI (0 : Int32)] [(.int (1 : Int32)), (.ref r), (.int p1)]) := fun t k => pre18 t (by
        refine XS.iconst X18.here hx rfl (hb hby d6_58) ?_
        show Steps p.tables e below (T18.setTop (mkF m 59 #[vR a0, vI p1, vI (0 : Int32), vI (0 : Int32), vI (0 : Int32), vI (0 : Int32)] [(.int (2 : Int32)), (.ref r), (.int p1)])) _
        refine XS.iload X18.here hx rfl (hb hby d6_59) rfl ?_
        show Steps p.tables e below (T18.setTop (mkF m 61 #[vR a0, vI p1, vI (0 : Int32), vI (0 : Int32), vI (0 : Int32), vI (0 : Int32)] [(.int (0 : Int32)), (.int (2 : Int32)), (.ref r), (.int p1)])) _
        refine XS.imul X18.here hx rfl (hb hby d6_61) rfl ?_
        show Steps p.tables e below (T18.setTop (mkF m 62 #[vR a0, vI p1, vI (0 : Int32), vI (0 : Int32), vI (0 : Int32), vI (0 : Int32)] [(.int (0 : Int32)), (.ref r), (.int p1)])) _
        refine XS.iconst X18.here hx rfl (hb hby d6_62) ?_
        show Steps p.tables e below (T18.setTop (mkF m 63 #[vR a0, vI p1, vI (0 : Int32), vI (0 : Int32), vI (0 : Int32), vI (0 : Int32)] [(.int (1 : Int32)), (.int (0 : Int32)), (.ref r), (.int p1)])) _
        refine XS.iadd X18.here hx rfl (hb hby d6_63) rfl ?_
        show Steps p.tables e below (T18.setTop (mkF m 64 #[vR a0, vI p1, vI (0 : Int32), vI (0 : Int32), vI (0 : Int32), vI (0 : Int32)] [(.int (1 : Int32)), (.ref r), (.int p1)])) _
        exact k)
      obtain ⟨cl20, Ar20, q20, S20, M20, H20, G20⟩ := id V0
      have in20 : ¬ ((1 : Int32) < 0 ∨ cl20.slots.size ≤ ((1 : Int32)).toNatClampNeg) := inb_of S20 ⟨by decide, by decide⟩
      have at20 : cl20.slots[((1 : Int32)).toNatClampNeg]? = some (.int x1) := H20.at in20 rfl
      have pre21 : Go p.tables e below S0 T18 (mkF m 65 #[vR a0, vI p1, vI (0 : Int32), vI (0 : Int32), vI (0 : Int32), vI (0 : Int32)] [(.int x1), (.int p1)]) := fun t k => pre19 t (by
        refine X18.iaload hx (j := (1 : Int32)) (v := (.int x1)) (by rw [e18]; exact Ar20.1) (State.isArrayOf_alike hZ.alike Ar20.2.1) Ar20.2.2 in20 at20 (g := (mkF m 64 #[vR a0, vI p1, vI (0 : Int32), vI (0 : Int32), vI (0 : Int32), vI (0 : Int32)] [(.int (1 : Int32)), (.ref r), (.int p1)])) rfl rfl (hb hby d6_64) _ ?_
        show Steps p.tables e below (T18.setTop (mkF m 65 #[vR a0, vI p1, vI (0 : Int32), vI (0 : Int32), vI (0 : Int32), vI (0 : Int32)] [(.int x1), (.int p1)])) _
        exact k)
      by_cases c65_22 : x1 < p1
      · skip
        have pre23 : Go p.tables e below S0 T18 (mkF m 84 #[vR a0, vI p1, vI (1 : Int32), vI (0 : Int32), vI (0 : Int32), vI (0 : Int32)] [(.int (0 : Int32))]) := fun t k => pre21 t (by
          refine XS.icmpNo X18.here hx rfl (hb hby d6_65) rfl (tlt c65_22).2.2.2 ?_
          show Steps p.tables e below (T18.setTop (mkF m 68 #[vR a0, vI p1, vI (0 : Int32), vI (0 : Int32), vI (0 : Int32), vI (0 : Int32)] [])) _
          refine XS.iload X18.here hx rfl (hb hby d6_68) rfl ?_
          show Steps p.tables e below (T18.setTop (mkF m 70 #[vR a0, vI p1, vI (0 : Int32), vI (0 : Int32), vI (0 : Int32), vI (0 : Int32)] [(.int (0 : Int32))])) _
          refine XS.iconst X18.here hx rfl (hb hby d6_70) ?_
          show Steps p.tables e below (T18.setTop (mkF m 71 #[vR a0, vI p1, vI (0 : Int32), vI (0 : Int32), vI (0 : Int32), vI (0 : Int32)] [(.int (1 : Int32)), (.int (0 : Int32))])) _
          refine XS.iadd X18.here hx rfl (hb hby d6_71) rfl ?_
          show Steps p.tables e below (T18.setTop (mkF m 72 #[vR a0, vI p1, vI (0 : Int32), vI (0 : Int32), vI (0 : Int32), vI (0 : Int32)] [(.int (1 : Int32))])) _
          refine XS.istoreN X18.here hx rfl (hb hby d6_72) rfl (l' := #[vR a0, vI p1, vI (1 : Int32), vI (0 : Int32), vI (0 : Int32), vI (0 : Int32)]) rfl ?_
          show Steps p.tables e below (T18.setTop (mkF m 73 #[vR a0, vI p1, vI (1 : Int32), vI (0 : Int32), vI (0 : Int32), vI (0 : Int32)] [])) _
          refine XS.goto X18.here hx rfl (pc0 := 73) (pc' := 79) rfl (hb hby d6_73) (by decide) (by decide) ?_
          show Steps p.tables e below (T18.setTop (mkF m 79 #[vR a0, vI p1, vI (1 : Int32), vI (0 : Int32), vI (0 : Int32), vI (0 : Int32)] [])) _
          refine XS.goto X18.here hx rfl (pc0 := 79) (pc' := 15) rfl (hb hby d6_79) (by decide) (by decide) ?_
          show Steps p.tables e below (T18.setTop (mkF m 15 #[vR a0, vI p1, vI (1 : Int32), vI (0 : Int32), vI (0 : Int32), vI (0 : Int32)] [])) _
          refine XS.iload X18.here hx rfl (hb hby d6_15) rfl ?_
          show Steps p.tables e below (T18.setTop (mkF m 17 #[vR a0, vI p1, vI (1 : Int32), vI (0 : Int32), vI (0 : Int32), vI (0 : Int32)] [(.int (0 : Int32))])) _
          refine XS.ifNo X18.here hx rfl (hb hby d6_17) rfl ((if0 _ _).trans (teq (rfl : (0 : Int32) = (0 : Int32))).2) ?_
          show Steps p.tables e below (T18.setTop (mkF m 20 #[vR a0, vI p1, vI (1 : Int32), vI (0 : Int32), vI (0 : Int32), vI (0 : Int32)] [])) _
          refine XS.iloadN X18.here hx rfl (hb hby d6_20) rfl ?_
          show Steps p.tables e below (T18.setTop (mkF m 21 #[vR a0, vI p1, vI (1 : Int32), vI (0 : Int32), vI (0 : Int32), vI (0 : Int32)] [(.int (1 : Int32))])) _
          refine XS.iloadN X18.here hx rfl (hb hby d6_21) rfl ?_
          show Steps p.tables e below (T18.setTop (mkF m 22 #[vR a0, vI p1, vI (1 : Int32), vI (0 : Int32), vI (0 : Int32), vI (0 : Int32)] [(.int (0 : Int32)), (.int (1 : Int32))])) _
          refine XS.icmpYes X18.here hx rfl (pc0 := 22) (pc' := 82) rfl (hb hby d6_22) rfl (tlt (by decide : (0 : Int32) < (1 : Int32))).2.2.1 (by decide) (by decide) ?_
          show Steps p.tables e below (T18.setTop (mkF m 82 #[vR a0, vI p1, vI (1 : Int32), vI (0 : Int32), vI (0 : Int32), vI (0 : Int32)] [])) _
          refine XS.iload X18.here hx rfl (hb hby d6_82) rfl ?_
          show Steps p.tables e below (T18.setTop (mkF m 84 #[vR a0, vI p1, vI (1 : Int32), vI (0 : Int32), vI (0 : Int32), vI (0 : Int32)] [(.int (0 : Int32))])) _
          exact k)
        obtain ⟨fs, hr, hrun, hended, hW, hsame⟩ := X18.leave (v := some (.int (0 : Int32))) (fun h => by rw [Bd.returns] at h; cases h)
        exact ⟨_, _, pre23.fin hS0 (retN X18 hx (t := .boolean) Bd.returns (by simp) (hb hby d6_84) hr), hrun, hended, _, _, rfl, (by
          show Q6_4 Z a0 p1 r k0 x0 x1 x2 x3 x4 x5 x6 x7 h0 n0 _ T18.heap _
          rw [e18]
          exact ⟨congrArg (fun z => some (Value.int z)) (by unfold own_in4; rw [if_neg (by simp only [Int32.lt_iff_toInt_lt] at c42_9 c42_15 c65_22 ⊢; omega)]), N0, rfl⟩), ⟨_, rfl⟩, hW, hsame.mono (by decide) (by decide)⟩
      · skip
        have pre24 : Go p.tables e below S0 T18 (mkF m 84 #[vR a0, vI p1, vI (0 : Int32), vI (0 : Int32), vI (1 : Int32), vI (0 : Int32)] [(.int (1 : Int32))]) := fun t k => pre21 t (by
          refine XS.icmpYes X18.here hx rfl (pc0 := 65) (pc' := 76) rfl (hb hby d6_65) rfl (flt c65_22).2.2.2 (by decide) (by decide) ?_
          show Steps p.tables e below (T18.setTop (mkF m 76 #[vR a0, vI p1, vI (0 : Int32), vI (0 : Int32), vI (0 : Int32), vI (0 : Int32)] [])) _
          refine XS.iconst X18.here hx rfl (hb hby d6_76) ?_
          show Steps p.tables e below (T18.setTop (mkF m 77 #[vR a0, vI p1, vI (0 : Int32), vI (0 : Int32), vI (0 : Int32), vI (0 : Int32)] [(.int (1 : Int32))])) _
          refine XS.istore X18.here hx rfl (hb hby d6_77) rfl (l' := #[vR a0, vI p1, vI (0 : Int32), vI (0 : Int32), vI (1 : Int32), vI (0 : Int32)]) rfl ?_
          show Steps p.tables e below (T18.setTop (mkF m 79 #[vR a0, vI p1, vI (0 : Int32), vI (0 : Int32), vI (1 : Int32), vI (0 : Int32)] [])) _
          refine XS.goto X18.here hx rfl (pc0 := 79) (pc' := 15) rfl (hb hby d6_79) (by decide) (by decide) ?_
          show Steps p.tables e below (T18.setTop (mkF m 15 #[vR a0, vI p1, vI (0 : Int32), vI (0 : Int32), vI (1 : Int32), vI (0 : Int32)] [])) _
          refine XS.iload X18.here hx rfl (hb hby d6_15) rfl ?_
          show Steps p.tables e below (T18.setTop (mkF m 17 #[vR a0, vI p1, vI (0 : Int32), vI (0 : Int32), vI (1 : Int32), vI (0 : Int32)] [(.int (1 : Int32))])) _
          refine XS.ifYes X18.here hx rfl (pc0 := 17) (pc' := 82) rfl (hb hby d6_17) rfl ((if0 _ _).trans (feq (by decide : ¬ ((1 : Int32) = (0 : Int32)))).2) (by decide) (by decide) ?_
          show Steps p.tables e below (T18.setTop (mkF m 82 #[vR a0, vI p1, vI (0 : Int32), vI (0 : Int32), vI (1 : Int32), vI (0 : Int32)] [])) _
          refine XS.iload X18.here hx rfl (hb hby d6_82) rfl ?_
          show Steps p.tables e below (T18.setTop (mkF m 84 #[vR a0, vI p1, vI (0 : Int32), vI (0 : Int32), vI (1 : Int32), vI (0 : Int32)] [(.int (1 : Int32))])) _
          exact k)
        obtain ⟨fs, hr, hrun, hended, hW, hsame⟩ := X18.leave (v := some (.int (1 : Int32))) (fun h => by rw [Bd.returns] at h; cases h)
        exact ⟨_, _, pre24.fin hS0 (retN X18 hx (t := .boolean) Bd.returns (by simp) (hb hby d6_84) hr), hrun, hended, _, _, rfl, (by
          show Q6_4 Z a0 p1 r k0 x0 x1 x2 x3 x4 x5 x6 x7 h0 n0 _ T18.heap _
          rw [e18]
          exact ⟨congrArg (fun z => some (Value.int z)) (by unfold own_in4; rw [if_pos (by simp only [Int32.lt_iff_toInt_lt] at c42_9 c42_15 c65_22 ⊢; omega)]), N0, rfl⟩), ⟨_, rfl⟩, hW, hsame.mono (by decide) (by decide)⟩
  · skip
    have pre25 : Go p.tables e below S0 T5 (mkF m 55 #[vR a0, vI p1, vI (0 : Int32), vI (3 : Int32), vI (0 : Int32), vI (1 : Int32)] [(.ref a0), (.int p1)]) := fun t k => pre8 t (by
      refine XS.icmpYes X5.here hx rfl (pc0 := 42) (pc' := 53) rfl (hb hby d6_42) rfl (flt c42_9).2.1 (by decide) (by decide) ?_
      show Steps p.tables e below (T5.setTop (mkF m 53 #[vR a0, vI p1, vI (0 : Int32), vI (3 : Int32), vI (0 : Int32), vI (1 : Int32)] [])) _
      refine XS.iloadN X5.here hx rfl (hb hby d6_53) rfl ?_
      show Steps p.tables e below (T5.setTop (mkF m 54 #[vR a0, vI p1, vI (0 : Int32), vI (3 : Int32), vI (0 : Int32), vI (1 : Int32)] [(.int p1)])) _
      refine XS.aloadN X5.here hx rfl (hb hby d6_54) rfl rfl ?_
      show Steps p.tables e below (T5.setTop (mkF m 55 #[vR a0, vI p1, vI (0 : Int32), vI (3 : Int32), vI (0 : Int32), vI (1 : Int32)] [(.ref a0), (.int p1)])) _
      exact k)
    obtain ⟨T26, X26, e26, st26⟩ := getF X5 hx hZ hown (host := "") (Or.inl (hw _ (List.mem_of_getElem? (i := 24) rfl))) Via.refl e5 F0 (g := (mkF m 55 #[vR a0, vI p1, vI (0 : Int32), vI (3 : Int32), vI (0 : Int32), vI (1 : Int32)] [(.ref a0), (.int p1)])) rfl rfl (hb hby d6_55)
    have pre26 : Go p.tables e below S0 T26 (mkF m 58 #[vR a0, vI p1, vI (0 : Int32), vI (3 : Int32), vI (0 : Int32), vI (1 : Int32)] [(.ref r), (.int p1)]) := fun t k => pre25 t (st26 t k)
    have pre27 : Go p.tables e below S0 T26 (mkF m 64 #[vR a0, vI p1, vI (0 : Int32), vI (3 : Int32), vI (0 : Int32), vI (1 : Int32)] [(.int (3 : Int32)), (.ref r), (.int p1)]) := fun t k => pre26 t (by
      refine XS.iconst X26.here hx rfl (hb hby d6_58) ?_
      show Steps p.tables e below (T26.setTop (mkF m 59 #[vR a0, vI p1, vI (0 : Int32), vI (3 : Int32), vI (0 : Int32), vI (1 : Int32)] [(.int (2 : Int32)), (.ref r), (.int p1)])) _
      refine XS.iload X26.here hx rfl (hb hby d6_59) rfl ?_
      show Steps p.tables e below (T26.setTop (mkF m 61 #[vR a0, vI p1, vI (0 : Int32), vI (3 : Int32), vI (0 : Int32), vI (1 : Int32)] [(.int (1 : Int32)), (.int (2 : Int32)), (.ref r), (.int p1)])) _
      refine XS.imul X26.here hx rfl (hb hby d6_61) rfl ?_
      show Steps p.tables e below (T26.setTop (mkF m 62 #[vR a0, vI p1, vI (0 : Int32), vI (3 : Int32), vI (0 : Int32), vI (1 : Int32)] [(.int (2 : Int32)), (.ref r), (.int p1)])) _
      refine XS.iconst X26.here hx rfl (hb hby d6_62) ?_
      show Steps p.tables e below (T26.setTop (mkF m 63 #[vR a0, vI p1, vI (0 : Int32), vI (3 : Int32), vI (0 : Int32), vI (1 : Int32)] [(.int (1 : Int32)), (.int (2 : Int32)), (.ref r), (.int p1)])) _
      refine XS.iadd X26.here hx rfl (hb hby d6_63) rfl ?_
      show Steps p.tables e below (T26.setTop (mkF m 64 #[vR a0, vI p1, vI (0 : Int32), vI (3 : Int32), vI (0 : Int32), vI (1 : Int32)] [(.int (3 : Int32)), (.ref r), (.int p1)])) _
      exact k)
    obtain ⟨cl28, Ar28, q28, S28, M28, H28, G28⟩ := id V0
    have in28 : ¬ ((3 : Int32) < 0 ∨ cl28.slots.size ≤ ((3 : Int32)).toNatClampNeg) := inb_of S28 ⟨by decide, by decide⟩
    have at28 : cl28.slots[((3 : Int32)).toNatClampNeg]? = some (.int x3) := H28.at in28 rfl
    have pre29 : Go p.tables e below S0 T26 (mkF m 65 #[vR a0, vI p1, vI (0 : Int32), vI (3 : Int32), vI (0 : Int32), vI (1 : Int32)] [(.int x3), (.int p1)]) := fun t k => pre27 t (by
      refine X26.iaload hx (j := (3 : Int32)) (v := (.int x3)) (by rw [e26]; exact Ar28.1) (State.isArrayOf_alike hZ.alike Ar28.2.1) Ar28.2.2 in28 at28 (g := (mkF m 64 #[vR a0, vI p1, vI (0 : Int32), vI (3 : Int32), vI (0 : Int32), vI (1 : Int32)] [(.int (3 : Int32)), (.ref r), (.int p1)])) rfl rfl (hb hby d6_64) _ ?_
      show Steps p.tables e below (T26.setTop (mkF m 65 #[vR a0, vI p1, vI (0 : Int32), vI (3 : Int32), vI (0 : Int32), vI (1 : Int32)] [(.int x3), (.int p1)])) _
      exact k)
    by_cases c65_30 : x3 < p1
    · skip
      have pre31 : Go p.tables e below S0 T26 (mkF m 34 #[vR a0, vI p1, vI (2 : Int32), vI (3 : Int32), vI (0 : Int32), vI (2 : Int32)] [(.ref a0), (.int p1)]) := fun t k => pre29 t (by
        refine XS.icmpNo X26.here hx rfl (hb hby d6_65) rfl (tlt c65_30).2.2.2 ?_
        show Steps p.tables e below (T26.setTop (mkF m 68 #[vR a0, vI p1, vI (0 : Int32), vI (3 : Int32), vI (0 : Int32), vI (1 : Int32)] [])) _
        refine XS.iload X26.here hx rfl (hb hby d6_68) rfl ?_
        show Steps p.tables e below (T26.setTop (mkF m 70 #[vR a0, vI p1, vI (0 : Int32), vI (3 : Int32), vI (0 : Int32), vI (1 : Int32)] [(.int (1 : Int32))])) _
        refine XS.iconst X26.here hx rfl (hb hby d6_70) ?_
        show Steps p.tables e below (T26.setTop (mkF m 71 #[vR a0, vI p1, vI (0 : Int32), vI (3 : Int32), vI (0 : Int32), vI (1 : Int32)] [(.int (1 : Int32)), (.int (1 : Int32))])) _
        refine XS.iadd X26.here hx rfl (hb hby d6_71) rfl ?_
        show Steps p.tables e below (T26.setTop (mkF m 72 #[vR a0, vI p1, vI (0 : Int32), vI (3 : Int32), vI (0 : Int32), vI (1 : Int32)] [(.int (2 : Int32))])) _
        refine XS.istoreN X26.here hx rfl (hb hby d6_72) rfl (l' := #[vR a0, vI p1, vI (2 : Int32), vI (3 : Int32), vI (0 : Int32), vI (1 : Int32)]) rfl ?_
        show Steps p.tables e below (T26.setTop (mkF m 73 #[vR a0, vI p1, vI (2 : Int32), vI (3 : Int32), vI (0 : Int32), vI (1 : Int32)] [])) _
        refine XS.goto X26.here hx rfl (pc0 := 73) (pc' := 79) rfl (hb hby d6_73) (by decide) (by decide) ?_
        show Steps p.tables e below (T26.setTop (mkF m 79 #[vR a0, vI p1, vI (2 : Int32), vI (3 : Int32), vI (0 : Int32), vI (1 : Int32)] [])) _
        refine XS.goto X26.here hx rfl (pc0 := 79) (pc' := 15) rfl (hb hby d6_79) (by decide) (by decide) ?_
        show Steps p.tables e below (T26.setTop (mkF m 15 #[vR a0, vI p1, vI (2 : Int32), vI (3 : Int32), vI (0 : Int32), vI (1 : Int32)] [])) _
        refine XS.iload X26.here hx rfl (hb hby d6_15) rfl ?_
        show Steps p.tables e below (T26.setTop (mkF m 17 #[vR a0, vI p1, vI (2 : Int32), vI (3 : Int32), vI (0 : Int32), vI (1 : Int32)] [(.int (0 : Int32))])) _
        refine XS.ifNo X26.here hx rfl (hb hby d6_17) rfl ((if0 _ _).trans (teq (rfl : (0 : Int32) = (0 : Int32))).2) ?_
        show Steps p.tables e below (T26.setTop (mkF m 20 #[vR a0, vI p1, vI (2 : Int32), vI (3 : Int32), vI (0 : Int32), vI (1 : Int32)] [])) _
        refine XS.iloadN X26.here hx rfl (hb hby d6_20) rfl ?_
        show Steps p.tables e below (T26.setTop (mkF m 21 #[vR a0, vI p1, vI (2 : Int32), vI (3 : Int32), vI (0 : Int32), vI (1 : Int32)] [(.int (2 : Int32))])) _
        refine XS.iloadN X26.here hx rfl (hb hby d6_21) rfl ?_
        show Steps p.tables e below (T26.setTop (mkF m 22 #[vR a0, vI p1, vI (2 : Int32), vI (3 : Int32), vI (0 : Int32), vI (1 : Int32)] [(.int (3 : Int32)), (.int (2 : Int32))])) _
        refine XS.icmpNo X26.here hx rfl (hb hby d6_22) rfl (flt (by decide : ¬ ((3 : Int32) < (2 : Int32)))).2.2.1 ?_
        show Steps p.tables e below (T26.setTop (mkF m 25 #[vR a0, vI p1, vI (2 : Int32), vI (3 : Int32), vI (0 : Int32), vI (1 : Int32)] [])) _
        refine XS.iloadN X26.here hx rfl (hb hby d6_25) rfl ?_
        show Steps p.tables e below (T26.setTop (mkF m 26 #[vR a0, vI p1, vI (2 : Int32), vI (3 : Int32), vI (0 : Int32), vI (1 : Int32)] [(.int (2 : Int32))])) _
        refine XS.iloadN X26.here hx rfl (hb hby d6_26) rfl ?_
        show Steps p.tables e below (T26.setTop (mkF m 27 #[vR a0, vI p1, vI (2 : Int32), vI (3 : Int32), vI (0 : Int32), vI (1 : Int32)] [(.int (3 : Int32)), (.int (2 : Int32))])) _
        refine XS.iadd X26.here hx rfl (hb hby d6_27) rfl ?_
        show Steps p.tables e below (T26.setTop (mkF m 28 #[vR a0, vI p1, vI (2 : Int32), vI (3 : Int32), vI (0 : Int32), vI (1 : Int32)] [(.int (5 : Int32))])) _
        refine XS.iconst X26.here hx rfl (hb hby d6_28) ?_
        show Steps p.tables e below (T26.setTop (mkF m 29 #[vR a0, vI p1, vI (2 : Int32), vI (3 : Int32), vI (0 : Int32), vI (1 : Int32)] [(.int (1 : Int32)), (.int (5 : Int32))])) _
        refine XS.iushr X26.here hx rfl (hb hby d6_29) rfl ?_
        show Steps p.tables e below (T26.setTop (mkF m 30 #[vR a0, vI p1, vI (2 : Int32), vI (3 : Int32), vI (0 : Int32), vI (1 : Int32)] [(.int (2 : Int32))])) _
        refine XS.istore X26.here hx rfl (hb hby d6_30) rfl (l' := #[vR a0, vI p1, vI (2 : Int32), vI (3 : Int32), vI (0 : Int32), vI (2 : Int32)]) rfl ?_
        show Steps p.tables e below (T26.setTop (mkF m 32 #[vR a0, vI p1, vI (2 : Int32), vI (3 : Int32), vI (0 : Int32), vI (2 : Int32)] [])) _
        refine XS.iloadN X26.here hx rfl (hb hby d6_32) rfl ?_
        show Steps p.tables e below (T26.setTop (mkF m 33 #[vR a0, vI p1, vI (2 : Int32), vI (3 : Int32), vI (0 : Int32), vI (2 : Int32)] [(.int p1)])) _
        refine XS.aloadN X26.here hx rfl (hb hby d6_33) rfl rfl ?_
        show Steps p.tables e below (T26.setTop (mkF m 34 #[vR a0, vI p1, vI (2 : Int32), vI (3 : Int32), vI (0 : Int32), vI (2 : Int32)] [(.ref a0), (.int p1)])) _
        exact k)
      obtain ⟨T32, X32, e32, st32⟩ := getF X26 hx hZ hown (host := "") (Or.inl (hw _ (List.mem_of_getElem? (i := 24) rfl))) Via.refl e26 F0 (g := (mkF m 34 #[vR a0, vI p1, vI (2 : Int32), vI (3 : Int32), vI (0 : Int32), vI (2 : Int32)] [(.ref a0), (.int p1)])) rfl rfl (hb hby d6_34)
      have pre32 : Go p.tables e below S0 T32 (mkF m 37 #[vR a0, vI p1, vI (2 : Int32), vI (3 : Int32), vI (0 : Int32), vI (2 : Int32)] [(.ref r), (.int p1)]) := fun t k => pre31 t (st32 t k)
      have pre33 : Go p.tables e below S0 T32 (mkF m 41 #[vR a0, vI p1, vI (2 : Int32), vI (3 : Int32), vI (0 : Int32), vI (2 : Int32)] [(.int (4 : Int32)), (.ref r), (.int p1)]) := fun t k => pre32 t (by
        refine XS.iconst X32.here hx rfl (hb hby d6_37) ?_
        show Steps p.tables e below (T32.setTop (mkF m 38 #[vR a0, vI p1, vI (2 : Int32), vI (3 : Int32), vI (0 : Int32), vI (2 : Int32)] [(.int (2 : Int32)), (.ref r), (.int p1)])) _
        refine XS.iload X32.here hx rfl (hb hby d6_38) rfl ?_
        show Steps p.tables e below (T32.setTop (mkF m 40 #[vR a0, vI p1, vI (2 : Int32), vI (3 : Int32), vI (0 : Int32), vI (2 : Int32)] [(.int (2 : Int32)), (.int (2 : Int32)), (.ref r), (.int p1)])) _
        refine XS.imul X32.here hx rfl (hb hby d6_40) rfl ?_
        show Steps p.tables e below (T32.setTop (mkF m 41 #[vR a0, vI p1, vI (2 : Int32), vI (3 : Int32), vI (0 : Int32), vI (2 : Int32)] [(.int (4 : Int32)), (.ref r), (.int p1)])) _
        exact k)
      obtain ⟨cl34, Ar34, q34, S34, M34, H34, G34⟩ := id V0
      have in34 : ¬ ((4 : Int32) < 0 ∨ cl34.slots.size ≤ ((4 : Int32)).toNatClampNeg) := inb_of S34 ⟨by decide, by decide⟩
      have at34 : cl34.slots[((4 : Int32)).toNatClampNeg]? = some (.int x4) := H34.at in34 rfl
      have pre35 : Go p.tables e below S0 T32 (mkF m 42 #[vR a0, vI p1, vI (2 : Int32), vI (3 : Int32), vI (0 : Int32), vI (2 : Int32)] [(.int x4), (.int p1)]) := fun t k => pre33 t (by
        refine X32.iaload hx (j := (4 : Int32)) (v := (.int x4)) (by rw [e32]; exact Ar34.1) (State.isArrayOf_alike hZ.alike Ar34.2.1) Ar34.2.2 in34 at34 (g := (mkF m 41 #[vR a0, vI p1, vI (2 : Int32), vI (3 : Int32), vI (0 : Int32), vI (2 : Int32)] [(.int (4 : Int32)), (.ref r), (.int p1)])) rfl rfl (hb hby d6_41) _ ?_
        show Steps p.tables e below (T32.setTop (mkF m 42 #[vR a0, vI p1, vI (2 : Int32), vI (3 : Int32), vI (0 : Int32), vI (2 : Int32)] [(.int x4), (.int p1)])) _
        exact k)
      by_cases c42_36 : p1 < x4
      · skip
        have pre37 : Go p.tables e below S0 T32 (mkF m 84 #[vR a0, vI p1, vI (2 : Int32), vI (1 : Int32), vI (0 : Int32), vI (2 : Int32)] [(.int (0 : Int32))]) := fun t k => pre35 t (by
          refine XS.icmpNo X32.here hx rfl (hb hby d6_42) rfl (tlt c42_36).2.1 ?_
          show Steps p.tables e below (T32.setTop (mkF m 45 #[vR a0, vI p1, vI (2 : Int32), vI (3 : Int32), vI (0 : Int32), vI (2 : Int32)] [])) _
          refine XS.iload X32.here hx rfl (hb hby d6_45) rfl ?_
          show Steps p.tables e below (T32.setTop (mkF m 47 #[vR a0, vI p1, vI (2 : Int32), vI (3 : Int32), vI (0 : Int32), vI (2 : Int32)] [(.int (2 : Int32))])) _
          refine XS.iconst X32.here hx rfl (hb hby d6_47) ?_
          show Steps p.tables e below (T32.setTop (mkF m 48 #[vR a0, vI p1, vI (2 : Int32), vI (3 : Int32), vI (0 : Int32), vI (2 : Int32)] [(.int (1 : Int32)), (.int (2 : Int32))])) _
          refine XS.isub X32.here hx rfl (hb hby d6_48) rfl ?_
          show Steps p.tables e below (T32.setTop (mkF m 49 #[vR a0, vI p1, vI (2 : Int32), vI (3 : Int32), vI (0 : Int32), vI (2 : Int32)] [(.int (1 : Int32))])) _
          refine XS.istoreN X32.here hx rfl (hb hby d6_49) rfl (l' := #[vR a0, vI p1, vI (2 : Int32), vI (1 : Int32), vI (0 : Int32), vI (2 : Int32)]) rfl ?_
          show Steps p.tables e below (T32.setTop (mkF m 50 #[vR a0, vI p1, vI (2 : Int32), vI (1 : Int32), vI (0 : Int32), vI (2 : Int32)] [])) _
          refine XS.goto X32.here hx rfl (pc0 := 50) (pc' := 79) rfl (hb hby d6_50) (by decide) (by decide) ?_
          show Steps p.tables e below (T32.setTop (mkF m 79 #[vR a0, vI p1, vI (2 : Int32), vI (1 : Int32), vI (0 : Int32), vI (2 : Int32)] [])) _
          refine XS.goto X32.here hx rfl (pc0 := 79) (pc' := 15) rfl (hb hby d6_79) (by decide) (by decide) ?_
          show Steps p.tables e below (T32.setTop (mkF m 15 #[vR a0, vI p1, vI (2 : Int32), vI (1 : Int32), vI (0 : Int32), vI (2 : Int32)] [])) _
          refine XS.iload X32.here hx rfl (hb hby d6_15) rfl ?_
          show Steps p.tables e below (T32.setTop (mkF m 17 #[vR a0, vI p1, vI (2 : Int32), vI (1 : Int32), vI (0 : Int32), vI (2 : Int32)] [(.int (0 : Int32))])) _
          refine XS.ifNo X32.here hx rfl (hb hby d6_17) rfl ((if0 _ _).trans (teq (rfl : (0 : Int32) = (0 : Int32))).2) ?_
          show Steps p.tables e below (T32.setTop (mkF m 20 #[vR a0, vI p1, vI (2 : Int32), vI (1 : Int32), vI (0 : Int32), vI (2 : Int32)] [])) _
          refine XS.iloadN X32.here hx rfl (hb hby d6_20) rfl ?_
          show Steps p.tables e below (T32.setTop (mkF m 21 #[vR a0, vI p1, vI (2 : Int32), vI (1 : Int32), vI (0 : Int32), vI (2 : Int32)] [(.int (2 : Int32))])) _
          refine XS.iloadN X32.here hx rfl (hb hby d6_21) rfl ?_
          show Steps p.tables e below (T32.setTop (mkF m 22 #[vR a0, vI p1, vI (2 : Int32), vI (1 : Int32), vI (0 : Int32), vI (2 : Int32)] [(.int (1 : Int32)), (.int (2 : Int32))])) _
          refine XS.icmpYes X32.here hx rfl (pc0 := 22) (pc' := 82) rfl (hb hby d6_22) rfl (tlt (by decide : (1 : Int32) < (2 : Int32))).2.2.1 (by decide) (by decide) ?_
          show Steps p.tables e below (T32.setTop (mkF m 82 #[vR a0, vI p1, vI (2 : Int32), vI (1 : Int32), vI (0 : Int32), vI (2 : Int32)] [])) _
          refine XS.iload X32.here hx rfl (hb hby d6_82) rfl ?_
          show Steps p.tables e below (T32.setTop (mkF m 84 #[vR a0, vI p1, vI (2 : Int32), vI (1 : Int32), vI (0 : Int32), vI (2 : Int32)] [(.int (0 : Int32))])) _
          exact k)
        obtain ⟨fs, hr, hrun, hended, hW, hsame⟩ := X32.leave (v := some (.int (0 : Int32))) (fun h => by rw [Bd.returns] at h; cases h)
        exact ⟨_, _, pre37.fin hS0 (retN X32 hx (t := .boolean) Bd.returns (by simp) (hb hby d6_84) hr), hrun, hended, _, _, rfl, (by
          show Q6_4 Z a0 p1 r k0 x0 x1 x2 x3 x4 x5 x6 x7 h0 n0 _ T32.heap _
          rw [e32]
          exact ⟨congrArg (fun z => some (Value.int z)) (by unfold own_in4; rw [if_neg (by simp only [Int32.lt_iff_toInt_lt] at c42_9 c65_30 c42_36 ⊢; omega)]), N0, rfl⟩), ⟨_, rfl⟩, hW, hsame.mono (by decide) (by decide)⟩
      · skip
        have pre38 : Go p.tables e below S0 T32 (mkF m 55 #[vR a0, vI p1, vI (2 : Int32), vI (3 : Int32), vI (0 : Int32), vI (2 : Int32)] [(.ref a0), (.int p1)]) := fun t k => pre35 t (by
          refine XS.icmpYes X32.here hx rfl (pc0 := 42) (pc' := 53) rfl (hb hby d6_42) rfl (flt c42_36).2.1 (by decide) (by decide) ?_
          show Steps p.tables e below (T32.setTop (mkF m 53 #[vR a0, vI p1, vI (2 : Int32), vI (3 : Int32), vI (0 : Int32), vI (2 : Int32)] [])) _
          refine XS.iloadN X32.here hx rfl (hb hby d6_53) rfl ?_
          show Steps p.tables e below (T32.setTop (mkF m 54 #[vR a0, vI p1, vI (2 : Int32), vI (3 : Int32), vI (0 : Int32), vI (2 : Int32)] [(.int p1)])) _
          refine XS.aloadN X32.here hx rfl (hb hby d6_54) rfl rfl ?_
          show Steps p.tables e below (T32.setTop (mkF m 55 #[vR a0, vI p1, vI (2 : Int32), vI (3 : Int32), vI (0 : Int32), vI (2 : Int32)] [(.ref a0), (.int p1)])) _
          exact k)
        obtain ⟨T39, X39, e39, st39⟩ := getF X32 hx hZ hown (host := "") (Or.inl (hw _ (List.mem_of_getElem? (i := 24) rfl))) Via.refl e32 F0 (g := (mkF m 55 #[vR a0, vI p1, vI (2 : Int32), vI (3 : Int32), vI (0 : Int32), vI (2 : Int32)] [(.ref a0), (.int p1)])) rfl rfl (hb hby d6_55)
        have pre39 : Go p.tables e below S0 T39 (mkF m 58 #[vR a0, vI p1, vI (2 : Int32), vI (3 : Int32), vI (0 : Int32), vI (2 : Int32)] [(.ref r), (.int p1)]) := fun t k => pre38 t (st39 t k)
        have pre40 : Go p.tables e below S0 T39 (mkF m 64 #[vR a0, vI p1, vI (2 : Int32), vI (3 : Int32), vI (0 : Int32), vI (2 : Int32)] [(.int (5 : Int32)), (.ref r), (.int p1)]) := fun t k => pre39 t (by
          refine XS.iconst X39.here hx rfl (hb hby d6_58) ?_
          show Steps p.tables e below (T39.setTop (mkF m 59 #[vR a0, vI p1, vI (2 : Int32), vI (3 : Int32), vI (0 : Int32), vI (2 : Int32)] [(.int (2 : Int32)), (.ref r), (.int p1)])) _
          refine XS.iload X39.here hx rfl (hb hby d6_59) rfl ?_
          show Steps p.tables e below (T39.setTop (mkF m 61 #[vR a0, vI p1, vI (2 : Int32), vI (3 : Int32), vI (0 : Int32), vI (2 : Int32)] [(.int (2 : Int32)), (.int (2 : Int32)), (.ref r), (.int p1)])) _
          refine XS.imul X39.here hx rfl (hb hby d6_61) rfl ?_
          show Steps p.tables e below (T39.setTop (mkF m 62 #[vR a0, vI p1, vI (2 : Int32), vI (3 : Int32), vI (0 : Int32), vI (2 : Int32)] [(.int (4 : Int32)), (.ref r), (.int p1)])) _
          refine XS.iconst X39.here hx rfl (hb hby d6_62) ?_
          show Steps p.tables e below (T39.setTop (mkF m 63 #[vR a0, vI p1, vI (2 : Int32), vI (3 : Int32), vI (0 : Int32), vI (2 : Int32)] [(.int (1 : Int32)), (.int (4 : Int32)), (.ref r), (.int p1)])) _
          refine XS.iadd X39.here hx rfl (hb hby d6_63) rfl ?_
          show Steps p.tables e below (T39.setTop (mkF m 64 #[vR a0, vI p1, vI (2 : Int32), vI (3 : Int32), vI (0 : Int32), vI (2 : Int32)] [(.int (5 : Int32)), (.ref r), (.int p1)])) _
          exact k)
        obtain ⟨cl41, Ar41, q41, S41, M41, H41, G41⟩ := id V0
        have in41 : ¬ ((5 : Int32) < 0 ∨ cl41.slots.size ≤ ((5 : Int32)).toNatClampNeg) := inb_of S41 ⟨by decide, by decide⟩
        have at41 : cl41.slots[((5 : Int32)).toNatClampNeg]? = some (.int x5) := H41.at in41 rfl
        have pre42 : Go p.tables e below S0 T39 (mkF m 65 #[vR a0, vI p1, vI (2 : Int32), vI (3 : Int32), vI (0 : Int32), vI (2 : Int32)] [(.int x5), (.int p1)]) := fun t k => pre40 t (by
          refine X39.iaload hx (j := (5 : Int32)) (v := (.int x5)) (by rw [e39]; exact Ar41.1) (State.isArrayOf_alike hZ.alike Ar41.2.1) Ar41.2.2 in41 at41 (g := (mkF m 64 #[vR a0, vI p1, vI (2 : Int32), vI (3 : Int32), vI (0 : Int32), vI (2 : Int32)] [(.int (5 : Int32)), (.ref r), (.int p1)])) rfl rfl (hb hby d6_64) _ ?_
          show Steps p.tables e below (T39.setTop (mkF m 65 #[vR a0, vI p1, vI (2 : Int32), vI (3 : Int32), vI (0 : Int32), vI (2 : Int32)] [(.int x5), (.int p1)])) _
          exact k)
        by_cases c65_43 : x5 < p1
        · skip
          have pre44 : Go p.tables e below S0 T39 (mkF m 34 #[vR a0, vI p1, vI (3 : Int32), vI (3 : Int32), vI (0 : Int32), vI (3 : Int32)] [(.ref a0), (.int p1)]) := fun t k => pre42 t (by
            refine XS.icmpNo X39.here hx rfl (hb hby d6_65) rfl (tlt c65_43).2.2.2 ?_
            show Steps p.tables e below (T39.setTop (mkF m 68 #[vR a0, vI p1, vI (2 : Int32), vI (3 : Int32), vI (0 : Int32), vI (2 : Int32)] [])) _
            refine XS.iload X39.here hx rfl (hb hby d6_68) rfl ?_
            show Steps p.tables e below (T39.setTop (mkF m 70 #[vR a0, vI p1, vI (2 : Int32), vI (3 : Int32), vI (0 : Int32), vI (2 : Int32)] [(.int (2 : Int32))])) _
            refine XS.iconst X39.here hx rfl (hb hby d6_70) ?_
            show Steps p.tables e below (T39.setTop (mkF m 71 #[vR a0, vI p1, vI (2 : Int32), vI (3 : Int32), vI (0 : Int32), vI (2 : Int32)] [(.int (1 : Int32)), (.int (2 : Int32))])) _
            refine XS.iadd X39.here hx rfl (hb hby d6_71) rfl ?_
            show Steps p.tables e below (T39.setTop (mkF m 72 #[vR a0, vI p1, vI (2 : Int32), vI (3 : Int32), vI (0 : Int32), vI (2 : Int32)] [(.int (3 : Int32))])) _
            refine XS.istoreN X39.here hx rfl (hb hby d6_72) rfl (l' := #[vR a0, vI p1, vI (3 : Int32), vI (3 : Int32), vI (0 : Int32), vI (2 : Int32)]) rfl ?_
            show Steps p.tables e below (T39.setTop (mkF m 73 #[vR a0, vI p1, vI (3 : Int32), vI (3 : Int32), vI (0 : Int32), vI (2 : Int32)] [])) _
            refine XS.goto X39.here hx rfl (pc0 := 73) (pc' := 79) rfl (hb hby d6_73) (by decide) (by decide) ?_
            show Steps p.tables e below (T39.setTop (mkF m 79 #[vR a0, vI p1, vI (3 : Int32), vI (3 : Int32), vI (0 : Int32), vI (2 : Int32)] [])) _
            refine XS.goto X39.here hx rfl (pc0 := 79) (pc' := 15) rfl (hb hby d6_79) (by decide) (by decide) ?_
            show Steps p.tables e below (T39.setTop (mkF m 15 #[vR a0, vI p1, vI (3 : Int32), vI (3 : Int32), vI (0 : Int32), vI (2 : Int32)] [])) _
            refine XS.iload X39.here hx rfl (hb hby d6_15) rfl ?_
            show Steps p.tables e below (T39.setTop (mkF m 17 #[vR a0, vI p1, vI (3 : Int32), vI (3 : Int32), vI (0 : Int32), vI (2 : Int32)] [(.int (0 : Int32))])) _
            refine XS.ifNo X39.here hx rfl (hb hby d6_17) rfl ((if0 _ _).trans (teq (rfl : (0 : Int32) = (0 : Int32))).2) ?_
            show Steps p.tables e below (T39.setTop (mkF m 20 #[vR a0, vI p1, vI (3 : Int32), vI (3 : Int32), vI (0 : Int32), vI (2 : Int32)] [])) _
            refine XS.iloadN X39.here hx rfl (hb hby d6_20) rfl ?_
            show Steps p.tables e below (T39.setTop (mkF m 21 #[vR a0, vI p1, vI (3 : Int32), vI (3 : Int32), vI (0 : Int32), vI (2 : Int32)] [(.int (3 : Int32))])) _
            refine XS.iloadN X39.here hx rfl (hb hby d6_21) rfl ?_
            show Steps p.tables e below (T39.setTop (mkF m 22 #[vR a0, vI p1, vI (3 : Int32), vI (3 : Int32), vI (0 : Int32), vI (2 : Int32)] [(.int (3 : Int32)), (.int (3 : Int32))])) _
            refine XS.icmpNo X39.here hx rfl (hb hby d6_22) rfl (flt (by decide : ¬ ((3 : Int32) < (3 : Int32)))).2.2.1 ?_
            show Steps p.tables e below (T39.setTop (mkF m 25 #[vR a0, vI p1, vI (3 : Int32), vI (3 : Int32), vI (0 : Int32), vI (2 : Int32)] [])) _
            refine XS.iloadN X39.here hx rfl (hb hby d6_25) rfl ?_
            show Steps p.tables e below (T39.setTop (mkF m 26 #[vR a0, vI p1, vI (3 : Int32), vI (3 : Int32), vI (0 : Int32), vI (2 : Int32)] [(.int (3 : Int32))])) _
            refine XS.iloadN X39.here hx rfl (hb hby d6_26) rfl ?_
            show Steps p.tables e below (T39.setTop (mkF m 27 #[vR a0, vI p1, vI (3 : Int32), vI (3 : Int32), vI (0 : Int32), vI (2 : Int32)] [(.int (3 : Int32)), (.int (3 : Int32))])) _
            refine XS.iadd X39.here hx rfl (hb hby d6_27) rfl ?_
            show Steps p.tables e below (T39.setTop (mkF m 28 #[vR a0, vI p1, vI (3 : Int32), vI (3 : Int32), vI (0 : Int32), vI (2 : Int32)] [(.int (6 : Int32))])) _
            refine XS.iconst X39.here hx rfl (hb hby d6_28) ?_
            show Steps p.tables e below (T39.setTop (mkF m 29 #[vR a0, vI p1, vI (3 : Int32), vI (3 : Int32), vI (0 : Int32), vI (2 : Int32)] [(.int (1 : Int32)), (.int (6 : Int32))])) _
            refine XS.iushr X39.here hx rfl (hb hby d6_29) rfl ?_
            show Steps p.tables e below (T39.setTop (mkF m 30 #[vR a0, vI p1, vI (3 : Int32), vI (3 : Int32), vI (0 : Int32), vI (2 : Int32)] [(.int (3 : Int32))])) _
            refine XS.istore X39.here hx rfl (hb hby d6_30) rfl (l' := #[vR a0, vI p1, vI (3 : Int32), vI (3 : Int32), vI (0 : Int32), vI (3 : Int32)]) rfl ?_
            show Steps p.tables e below (T39.setTop (mkF m 32 #[vR a0, vI p1, vI (3 : Int32), vI (3 : Int32), vI (0 : Int32), vI (3 : Int32)] [])) _
            refine XS.iloadN X39.here hx rfl (hb hby d6_32) rfl ?_
            show Steps p.tables e below (T39.setTop (mkF m 33 #[vR a0, vI p1, vI (3 : Int32), vI (3 : Int32), vI (0 : Int32), vI (3 : Int32)] [(.int p1)])) _
            refine XS.aloadN X39.here hx rfl (hb hby d6_33) rfl rfl ?_
            show Steps p.tables e below (T39.setTop (mkF m 34 #[vR a0, vI p1, vI (3 : Int32), vI (3 : Int32), vI (0 : Int32), vI (3 : Int32)] [(.ref a0), (.int p1)])) _
            exact k)
          obtain ⟨T45, X45, e45, st45⟩ := getF X39 hx hZ hown (host := "") (Or.inl (hw _ (List.mem_of_getElem? (i := 24) rfl))) Via.refl e39 F0 (g := (mkF m 34 #[vR a0, vI p1, vI (3 : Int32), vI (3 : Int32), vI (0 : Int32), vI (3 : Int32)] [(.ref a0), (.int p1)])) rfl rfl (hb hby d6_34)
          have pre45 : Go p.tables e below S0 T45 (mkF m 37 #[vR a0, vI p1, vI (3 : Int32), vI (3 : Int32), vI (0 : Int32), vI (3 : Int32)] [(.ref r), (.int p1)]) := fun t k => pre44 t (st45 t k)
          have pre46 : Go p.tables e below S0 T45 (mkF m 41 #[vR a0, vI p1, vI (3 : Int32), vI (3 : Int32), vI (0 : Int32), vI (3 : Int32)] [(.int (6 : Int32)), (.ref r), (.int p1)]) := fun t k => pre45 t (by
            refine XS.iconst X45.here hx rfl (hb hby d6_37) ?_
            show Steps p.tables e below (T45.setTop (mkF m 38 #[vR a0, vI p1, vI (3 : Int32), vI (3 : Int32), vI (0 : Int32), vI (3 : Int32)] [(.int (2 : Int32)), (.ref r), (.int p1)])) _
            refine XS.iload X45.here hx rfl (hb hby d6_38) rfl ?_
            show Steps p.tables e below (T45.setTop (mkF m 40 #[vR a0, vI p1, vI (3 : Int32), vI (3 : Int32), vI (0 : Int32), vI (3 : Int32)] [(.int (3 : Int32)), (.int (2 : Int32)), (.ref r), (.int p1)])) _
            refine XS.imul X45.here hx rfl (hb hby d6_40) rfl ?_
            show Steps p.tables e below (T45.setTop (mkF m 41 #[vR a0, vI p1, vI (3 : Int32), vI (3 : Int32), vI (0 : Int32), vI (3 : Int32)] [(.int (6 : Int32)), (.ref r), (.int p1)])) _
            exact k)
          obtain ⟨cl47, Ar47, q47, S47, M47, H47, G47⟩ := id V0
          have in47 : ¬ ((6 : Int32) < 0 ∨ cl47.slots.size ≤ ((6 : Int32)).toNatClampNeg) := inb_of S47 ⟨by decide, by decide⟩
          have at47 : cl47.slots[((6 : Int32)).toNatClampNeg]? = some (.int x6) := H47.at in47 rfl
          have pre48 : Go p.tables e below S0 T45 (mkF m 42 #[vR a0, vI p1, vI (3 : Int32), vI (3 : Int32), vI (0 : Int32), vI (3 : Int32)] [(.int x6), (.int p1)]) := fun t k => pre46 t (by
            refine X45.iaload hx (j := (6 : Int32)) (v := (.int x6)) (by rw [e45]; exact Ar47.1) (State.isArrayOf_alike hZ.alike Ar47.2.1) Ar47.2.2 in47 at47 (g := (mkF m 41 #[vR a0, vI p1, vI (3 : Int32), vI (3 : Int32), vI (0 : Int32), vI (3 : Int32)] [(.int (6 : Int32)), (.ref r), (.int p1)])) rfl rfl (hb hby d6_41) _ ?_
            show Steps p.tables e below (T45.setTop (mkF m 42 #[vR a0, vI p1, vI (3 : Int32), vI (3 : Int32), vI (0 : Int32), vI (3 : Int32)] [(.int x6), (.int p1)])) _
            exact k)
          by_cases c42_49 : p1 < x6
          · skip
            have pre50 : Go p.tables e below S0 T45 (mkF m 84 #[vR a0, vI p1, vI (3 : Int32), vI (2 : Int32), vI (0 : Int32), vI (3 : Int32)] [(.int (0 : Int32))]) := fun t k => pre48 t (by
              refine XS.icmpNo X45.here hx rfl (hb hby d6_42) rfl (tlt c42_49).2.1 ?_
              show Steps p.tables e below (T45.setTop (mkF m 45 #[vR a0, vI p1, vI (3 : Int32), vI (3 : Int32), vI (0 : Int32), vI (3 : Int32)] [])) _
              refine XS.iload X45.here hx rfl (hb hby d6_45) rfl ?_
              show Steps p.tables e below (T45.setTop (mkF m 47 #[vR a0, vI p1, vI (3 : Int32), vI (3 : Int32), vI (0 : Int32), vI (3 : Int32)] [(.int (3 : Int32))])) _
              refine XS.iconst X45.here hx rfl (hb hby d6_47) ?_
              show Steps p.tables e below (T45.setTop (mkF m 48 #[vR a0, vI p1, vI (3 : Int32), vI (3 : Int32), vI (0 : Int32), vI (3 : Int32)] [(.int (1 : Int32)), (.int (3 : Int32))])) _
              refine XS.isub X45.here hx rfl (hb hby d6_48) rfl ?_
              show Steps p.tables e below (T45.setTop (mkF m 49 #[vR a0, vI p1, vI (3 : Int32), vI (3 : Int32), vI (0 : Int32), vI (3 : Int32)] [(.int (2 : Int32))])) _
              refine XS.istoreN X45.here hx rfl (hb hby d6_49) rfl (l' := #[vR a0, vI p1, vI (3 : Int32), vI (2 : Int32), vI (0 : Int32), vI (3 : Int32)]) rfl ?_
              show Steps p.tables e below (T45.setTop (mkF m 50 #[vR a0, vI p1, vI (3 : Int32), vI (2 : Int32), vI (0 : Int32), vI (3 : Int32)] [])) _
              refine XS.goto X45.here hx rfl (pc0 := 50) (pc' := 79) rfl (hb hby d6_50) (by decide) (by decide) ?_
              show Steps p.tables e below (T45.setTop (mkF m 79 #[vR a0, vI p1, vI (3 : Int32), vI (2 : Int32), vI (0 : Int32), vI (3 : Int32)] [])) _
              refine XS.goto X45.here hx rfl (pc0 := 79) (pc' := 15) rfl (hb hby d6_79) (by decide) (by decide) ?_
              show Steps p.tables e below (T45.setTop (mkF m 15 #[vR a0, vI p1, vI (3 : Int32), vI (2 : Int32), vI (0 : Int32), vI (3 : Int32)] [])) _
              refine XS.iload X45.here hx rfl (hb hby d6_15) rfl ?_
              show Steps p.tables e below (T45.setTop (mkF m 17 #[vR a0, vI p1, vI (3 : Int32), vI (2 : Int32), vI (0 : Int32), vI (3 : Int32)] [(.int (0 : Int32))])) _
              refine XS.ifNo X45.here hx rfl (hb hby d6_17) rfl ((if0 _ _).trans (teq (rfl : (0 : Int32) = (0 : Int32))).2) ?_
              show Steps p.tables e below (T45.setTop (mkF m 20 #[vR a0, vI p1, vI (3 : Int32), vI (2 : Int32), vI (0 : Int32), vI (3 : Int32)] [])) _
              refine XS.iloadN X45.here hx rfl (hb hby d6_20) rfl ?_
              show Steps p.tables e below (T45.setTop (mkF m 21 #[vR a0, vI p1, vI (3 : Int32), vI (2 : Int32), vI (0 : Int32), vI (3 : Int32)] [(.int (3 : Int32))])) _
              refine XS.iloadN X45.here hx rfl (hb hby d6_21) rfl ?_
              show Steps p.tables e below (T45.setTop (mkF m 22 #[vR a0, vI p1, vI (3 : Int32), vI (2 : Int32), vI (0 : Int32), vI (3 : Int32)] [(.int (2 : Int32)), (.int (3 : Int32))])) _
              refine XS.icmpYes X45.here hx rfl (pc0 := 22) (pc' := 82) rfl (hb hby d6_22) rfl (tlt (by decide : (2 : Int32) < (3 : Int32))).2.2.1 (by decide) (by decide) ?_
              show Steps p.tables e below (T45.setTop (mkF m 82 #[vR a0, vI p1, vI (3 : Int32), vI (2 : Int32), vI (0 : Int32), vI (3 : Int32)] [])) _
              refine XS.iload X45.here hx rfl (hb hby d6_82) rfl ?_
              show Steps p.tables e below (T45.setTop (mkF m 84 #[vR a0, vI p1, vI (3 : Int32), vI (2 : Int32), vI (0 : Int32), vI (3 : Int32)] [(.int (0 : Int32))])) _
              exact k)
            obtain ⟨fs, hr, hrun, hended, hW, hsame⟩ := X45.leave (v := some (.int (0 : Int32))) (fun h => by rw [Bd.returns] at h; cases h)
            exact ⟨_, _, pre50.fin hS0 (retN X45 hx (t := .boolean) Bd.returns (by simp) (hb hby d6_84) hr), hrun, hended, _, _, rfl, (by
              show Q6_4 Z a0 p1 r k0 x0 x1 x2 x3 x4 x5 x6 x7 h0 n0 _ T45.heap _
              rw [e45]
              exact ⟨congrArg (fun z => some (Value.int z)) (by unfold own_in4; rw [if_neg (by simp only [Int32.lt_iff_toInt_lt] at c42_9 c65_30 c42_36 c65_43 c42_49 ⊢; omega)]), N0, rfl⟩), ⟨_, rfl⟩, hW, hsame.mono (by decide) (by decide)⟩
          · skip
            have pre51 : Go p.tables e below S0 T45 (mkF m 55 #[vR a0, vI p1, vI (3 : Int32), vI (3 : Int32), vI (0 : Int32), vI (3 : Int32)] [(.ref a0), (.int p1)]) := fun t k => pre48 t (by
              refine XS.icmpYes X45.here hx rfl (pc0 := 42) (pc' := 53) rfl (hb hby d6_42) rfl (flt c42_49).2.1 (by decide) (by decide) ?_
              show Steps p.tables e below (T45.setTop (mkF m 53 #[vR a0, vI p1, vI (3 : Int32), vI (3 : Int32), vI (0 : Int32), vI (3 : Int32)] [])) _
              refine XS.iloadN X45.here hx rfl (hb hby d6_53) rfl ?_
              show Steps p.tables e below (T45.setTop (mkF m 54 #[vR a0, vI p1, vI (3 : Int32), vI (3 : Int32), vI (0 : Int32), vI (3 : Int32)] [(.int p1)])) _
              refine XS.aloadN X45.here hx rfl (hb hby d6_54) rfl rfl ?_
              show Steps p.tables e below (T45.setTop (mkF m 55 #[vR a0, vI p1, vI (3 : Int32), vI (3 : Int32), vI (0 : Int32), vI (3 : Int32)] [(.ref a0), (.int p1)])) _
              exact k)
            obtain ⟨T52, X52, e52, st52⟩ := getF X45 hx hZ hown (host := "") (Or.inl (hw _ (List.mem_of_getElem? (i := 24) rfl))) Via.refl e45 F0 (g := (mkF m 55 #[vR a0, vI p1, vI (3 : Int32), vI (3 : Int32), vI (0 : Int32), vI (3 : Int32)] [(.ref a0), (.int p1)])) rfl rfl (hb hby d6_55)
            have pre52 : Go p.tables e below S0 T52 (mkF m 58 #[vR a0, vI p1, vI (3 : Int32), vI (3 : Int32), vI (0 : Int32), vI (3 : Int32)] [(.ref r), (.int p1)]) := fun t k => pre51 t (st52 t k)
            have pre53 : Go p.tables e below S0 T52 (mkF m 64 #[vR a0, vI p1, vI (3 : Int32), vI (3 : Int32), vI (0 : Int32), vI (3 : Int32)] [(.int (7 : Int32)), (.ref r), (.int p1)]) := fun t k => pre52 t (by
              refine XS.iconst X52.here hx rfl (hb hby d6_58) ?_
              show Steps p.tables e below (T52.setTop (mkF m 59 #[vR a0, vI p1, vI (3 : Int32), vI (3 : Int32), vI (0 : Int32), vI (3 : Int32)] [(.int (2 : Int32)), (.ref r), (.int p1)])) _
              refine XS.iload X52.here hx rfl (hb hby d6_59) rfl ?_
              show Steps p.tables e below (T52.setTop (mkF m 61 #[vR a0, vI p1, vI (3 : Int32), vI (3 : Int32), vI (0 : Int32), vI (3 : Int32)] [(.int (3 : Int32)), (.int (2 : Int32)), (.ref r), (.int p1)])) _
              refine XS.imul X52.here hx rfl (hb hby d6_61) rfl ?_
              show Steps p.tables e below (T52.setTop (mkF m 62 #[vR a0, vI p1, vI (3 : Int32), vI (3 : Int32), vI (0 : Int32), vI (3 : Int32)] [(.int (6 : Int32)), (.ref r), (.int p1)])) _
              refine XS.iconst X52.here hx rfl (hb hby d6_62) ?_
              show Steps p.tables e below (T52.setTop (mkF m 63 #[vR a0, vI p1, vI (3 : Int32), vI (3 : Int32), vI (0 : Int32), vI (3 : Int32)] [(.int (1 : Int32)), (.int (6 : Int32)), (.ref r), (.int p1)])) _
              refine XS.iadd X52.here hx rfl (hb hby d6_63) rfl ?_
              show Steps p.tables e below (T52.setTop (mkF m 64 #[vR a0, vI p1, vI (3 : Int32), vI (3 : Int32), vI (0 : Int32), vI (3 : Int32)] [(.int (7 : Int32)), (.ref r), (.int p1)])) _
              exact k)
            obtain ⟨cl54, Ar54, q54, S54, M54, H54, G54⟩ := id V0
            have in54 : ¬ ((7 : Int32) < 0 ∨ cl54.slots.size ≤ ((7 : Int32)).toNatClampNeg) := inb_of S54 ⟨by decide, by decide⟩
            have at54 : cl54.slots[((7 : Int32)).toNatClampNeg]? = some (.int x7) := H54.at in54 rfl
            have pre55 : Go p.tables e below S0 T52 (mkF m 65 #[vR a0, vI p1, vI (3 : Int32), vI (3 : Int32), vI (0 : Int32), vI (3 : Int32)] [(.int x7), (.int p1)]) := fun t k => pre53 t (by
              refine X52.iaload hx (j := (7 : Int32)) (v := (.int x7)) (by rw [e52]; exact Ar54.1) (State.isArrayOf_alike hZ.alike Ar54.2.1) Ar54.2.2 in54 at54 (g := (mkF m 64 #[vR a0, vI p1, vI (3 : Int32), vI (3 : Int32), vI (0 : Int32), vI (3 : Int32)] [(.int (7 : Int32)), (.ref r), (.int p1)])) rfl rfl (hb hby d6_64) _ ?_
              show Steps p.tables e below (T52.setTop (mkF m 65 #[vR a0, vI p1, vI (3 : Int32), vI (3 : Int32), vI (0 : Int32), vI (3 : Int32)] [(.int x7), (.int p1)])) _
              exact k)
            by_cases c65_56 : x7 < p1
            · skip
              have pre57 : Go p.tables e below S0 T52 (mkF m 84 #[vR a0, vI p1, vI (4 : Int32), vI (3 : Int32), vI (0 : Int32), vI (3 : Int32)] [(.int (0 : Int32))]) := fun t k => pre55 t (by
                refine XS.icmpNo X52.here hx rfl (hb hby d6_65) rfl (tlt c65_56).2.2.2 ?_
                show Steps p.tables e below (T52.setTop (mkF m 68 #[vR a0, vI p1, vI (3 : Int32), vI (3 : Int32), vI (0 : Int32), vI (3 : Int32)] [])) _
                refine XS.iload X52.here hx rfl (hb hby d6_68) rfl ?_
                show Steps p.tables e below (T52.setTop (mkF m 70 #[vR a0, vI p1, vI (3 : Int32), vI (3 : Int32), vI (0 : Int32), vI (3 : Int32)] [(.int (3 : Int32))])) _
                refine XS.iconst X52.here hx rfl (hb hby d6_70) ?_
                show Steps p.tables e below (T52.setTop (mkF m 71 #[vR a0, vI p1, vI (3 : Int32), vI (3 : Int32), vI (0 : Int32), vI (3 : Int32)] [(.int (1 : Int32)), (.int (3 : Int32))])) _
                refine XS.iadd X52.here hx rfl (hb hby d6_71) rfl ?_
                show Steps p.tables e below (T52.setTop (mkF m 72 #[vR a0, vI p1, vI (3 : Int32), vI (3 : Int32), vI (0 : Int32), vI (3 : Int32)] [(.int (4 : Int32))])) _
                refine XS.istoreN X52.here hx rfl (hb hby d6_72) rfl (l' := #[vR a0, vI p1, vI (4 : Int32), vI (3 : Int32), vI (0 : Int32), vI (3 : Int32)]) rfl ?_
                show Steps p.tables e below (T52.setTop (mkF m 73 #[vR a0, vI p1, vI (4 : Int32), vI (3 : Int32), vI (0 : Int32), vI (3 : Int32)] [])) _
                refine XS.goto X52.here hx rfl (pc0 := 73) (pc' := 79) rfl (hb hby d6_73) (by decide) (by decide) ?_
                show Steps p.tables e below (T52.setTop (mkF m 79 #[vR a0, vI p1, vI (4 : Int32), vI (3 : Int32), vI (0 : Int32), vI (3 : Int32)] [])) _
                refine XS.goto X52.here hx rfl (pc0 := 79) (pc' := 15) rfl (hb hby d6_79) (by decide) (by decide) ?_
                show Steps p.tables e below (T52.setTop (mkF m 15 #[vR a0, vI p1, vI (4 : Int32), vI (3 : Int32), vI (0 : Int32), vI (3 : Int32)] [])) _
                refine XS.iload X52.here hx rfl (hb hby d6_15) rfl ?_
                show Steps p.tables e below (T52.setTop (mkF m 17 #[vR a0, vI p1, vI (4 : Int32), vI (3 : Int32), vI (0 : Int32), vI (3 : Int32)] [(.int (0 : Int32))])) _
                refine XS.ifNo X52.here hx rfl (hb hby d6_17) rfl ((if0 _ _).trans (teq (rfl : (0 : Int32) = (0 : Int32))).2) ?_
                show Steps p.tables e below (T52.setTop (mkF m 20 #[vR a0, vI p1, vI (4 : Int32), vI (3 : Int32), vI (0 : Int32), vI (3 : Int32)] [])) _
                refine XS.iloadN X52.here hx rfl (hb hby d6_20) rfl ?_
                show Steps p.tables e below (T52.setTop (mkF m 21 #[vR a0, vI p1, vI (4 : Int32), vI (3 : Int32), vI (0 : Int32), vI (3 : Int32)] [(.int (4 : Int32))])) _
                refine XS.iloadN X52.here hx rfl (hb hby d6_21) rfl ?_
                show Steps p.tables e below (T52.setTop (mkF m 22 #[vR a0, vI p1, vI (4 : Int32), vI (3 : Int32), vI (0 : Int32), vI (3 : Int32)] [(.int (3 : Int32)), (.int (4 : Int32))])) _
                refine XS.icmpYes X52.here hx rfl (pc0 := 22) (pc' := 82) rfl (hb hby d6_22) rfl (tlt (by decide : (3 : Int32) < (4 : Int32))).2.2.1 (by decide) (by decide) ?_
                show Steps p.tables e below (T52.setTop (mkF m 82 #[vR a0, vI p1, vI (4 : Int32), vI (3 : Int32), vI (0 : Int32), vI (3 : Int32)] [])) _
                refine XS.iload X52.here hx rfl (hb hby d6_82) rfl ?_
                show Steps p.tables e below (T52.setTop (mkF m 84 #[vR a0, vI p1, vI (4 : Int32), vI (3 : Int32), vI (0 : Int32), vI (3 : Int32)] [(.int (0 : Int32))])) _
                exact k)
              obtain ⟨fs, hr, hrun, hended, hW, hsame⟩ := X52.leave (v := some (.int (0 : Int32))) (fun h => by rw [Bd.returns] at h; cases h)
              exact ⟨_, _, pre57.fin hS0 (retN X52 hx (t := .boolean) Bd.returns (by simp) (hb hby d6_84) hr), hrun, hended, _, _, rfl, (by
                show Q6_4 Z a0 p1 r k0 x0 x1 x2 x3 x4 x5 x6 x7 h0 n0 _ T52.heap _
                rw [e52]
                exact ⟨congrArg (fun z => some (Value.int z)) (by unfold own_in4; rw [if_neg (by simp only [Int32.lt_iff_toInt_lt] at c42_9 c65_30 c42_36 c65_43 c42_49 c65_56 ⊢; omega)]), N0, rfl⟩), ⟨_, rfl⟩, hW, hsame.mono (by decide) (by decide)⟩
            · skip
              have pre58 : Go p.tables e below S0 T52 (mkF m 84 #[vR a0, vI p1, vI (3 : Int32), vI (3 : Int32), vI (1 : Int32), vI (3 : Int32)] [(.int (1 : Int32))]) := fun t k => pre55 t (by
                refine XS.icmpYes X52.here hx rfl (pc0 := 65) (pc' := 76) rfl (hb hby d6_65) rfl (flt c65_56).2.2.2 (by decide) (by decide) ?_
                show Steps p.tables e below (T52.setTop (mkF m 76 #[vR a0, vI p1, vI (3 : Int32), vI (3 : Int32), vI (0 : Int32), vI (3 : Int32)] [])) _
                refine XS.iconst X52.here hx rfl (hb hby d6_76) ?_
                show Steps p.tables e below (T52.setTop (mkF m 77 #[vR a0, vI p1, vI (3 : Int32), vI (3 : Int32), vI (0 : Int32), vI (3 : Int32)] [(.int (1 : Int32))])) _
                refine XS.istore X52.here hx rfl (hb hby d6_77) rfl (l' := #[vR a0, vI p1, vI (3 : Int32), vI (3 : Int32), vI (1 : Int32), vI (3 : Int32)]) rfl ?_
                show Steps p.tables e below (T52.setTop (mkF m 79 #[vR a0, vI p1, vI (3 : Int32), vI (3 : Int32), vI (1 : Int32), vI (3 : Int32)] [])) _
                refine XS.goto X52.here hx rfl (pc0 := 79) (pc' := 15) rfl (hb hby d6_79) (by decide) (by decide) ?_
                show Steps p.tables e below (T52.setTop (mkF m 15 #[vR a0, vI p1, vI (3 : Int32), vI (3 : Int32), vI (1 : Int32), vI (3 : Int32)] [])) _
                refine XS.iload X52.here hx rfl (hb hby d6_15) rfl ?_
                show Steps p.tables e below (T52.setTop (mkF m 17 #[vR a0, vI p1, vI (3 : Int32), vI (3 : Int32), vI (1 : Int32), vI (3 : Int32)] [(.int (1 : Int32))])) _
                refine XS.ifYes X52.here hx rfl (pc0 := 17) (pc' := 82) rfl (hb hby d6_17) rfl ((if0 _ _).trans (feq (by decide : ¬ ((1 : Int32) = (0 : Int32)))).2) (by decide) (by decide) ?_
                show Steps p.tables e below (T52.setTop (mkF m 82 #[vR a0, vI p1, vI (3 : Int32), vI (3 : Int32), vI (1 : Int32), vI (3 : Int32)] [])) _
                refine XS.iload X52.here hx rfl (hb hby d6_82) rfl ?_
                show Steps p.tables e below (T52.setTop (mkF m 84 #[vR a0, vI p1, vI (3 : Int32), vI (3 : Int32), vI (1 : Int32), vI (3 : Int32)] [(.int (1 : Int32))])) _
                exact k)
              obtain ⟨fs, hr, hrun, hended, hW, hsame⟩ := X52.leave (v := some (.int (1 : Int32))) (fun h => by rw [Bd.returns] at h; cases h)
              exact ⟨_, _, pre58.fin hS0 (retN X52 hx (t := .boolean) Bd.returns (by simp) (hb hby d6_84) hr), hrun, hended, _, _, rfl, (by
                show Q6_4 Z a0 p1 r k0 x0 x1 x2 x3 x4 x5 x6 x7 h0 n0 _ T52.heap _
                rw [e52]
                exact ⟨congrArg (fun z => some (Value.int z)) (by unfold own_in4; rw [if_pos (by simp only [Int32.lt_iff_toInt_lt] at c42_9 c65_30 c42_36 c65_43 c42_49 c65_56 ⊢; omega)]), N0, rfl⟩), ⟨_, rfl⟩, hW, hsame.mono (by decide) (by decide)⟩
        · skip
          have pre59 : Go p.tables e below S0 T39 (mkF m 84 #[vR a0, vI p1, vI (2 : Int32), vI (3 : Int32), vI (1 : Int32), vI (2 : Int32)] [(.int (1 : Int32))]) := fun t k => pre42 t (by
            refine XS.icmpYes X39.here hx rfl (pc0 := 65) (pc' := 76) rfl (hb hby d6_65) rfl (flt c65_43).2.2.2 (by decide) (by decide) ?_
            show Steps p.tables e below (T39.setTop (mkF m 76 #[vR a0, vI p1, vI (2 : Int32), vI (3 : Int32), vI (0 : Int32), vI (2 : Int32)] [])) _
            refine XS.iconst X39.here hx rfl (hb hby d6_76) ?_
            show Steps p.tables e below (T39.setTop (mkF m 77 #[vR a0, vI p1, vI (2 : Int32), vI (3 : Int32), vI (0 : Int32), vI (2 : Int32)] [(.int (1 : Int32))])) _
            refine XS.istore X39.here hx rfl (hb hby d6_77) rfl (l' := #[vR a0, vI p1, vI (2 : Int32), vI (3 : Int32), vI (1 : Int32), vI (2 : Int32)]) rfl ?_
            show Steps p.tables e below (T39.setTop (mkF m 79 #[vR a0, vI p1, vI (2 : Int32), vI (3 : Int32), vI (1 : Int32), vI (2 : Int32)] [])) _
            refine XS.goto X39.here hx rfl (pc0 := 79) (pc' := 15) rfl (hb hby d6_79) (by decide) (by decide) ?_
            show Steps p.tables e below (T39.setTop (mkF m 15 #[vR a0, vI p1, vI (2 : Int32), vI (3 : Int32), vI (1 : Int32), vI (2 : Int32)] [])) _
            refine XS.iload X39.here hx rfl (hb hby d6_15) rfl ?_
            show Steps p.tables e below (T39.setTop (mkF m 17 #[vR a0, vI p1, vI (2 : Int32), vI (3 : Int32), vI (1 : Int32), vI (2 : Int32)] [(.int (1 : Int32))])) _
            refine XS.ifYes X39.here hx rfl (pc0 := 17) (pc' := 82) rfl (hb hby d6_17) rfl ((if0 _ _).trans (feq (by decide : ¬ ((1 : Int32) = (0 : Int32)))).2) (by decide) (by decide) ?_
            show Steps p.tables e below (T39.setTop (mkF m 82 #[vR a0, vI p1, vI (2 : Int32), vI (3 : Int32), vI (1 : Int32), vI (2 : Int32)] [])) _
            refine XS.iload X39.here hx rfl (hb hby d6_82) rfl ?_
            show Steps p.tables e below (T39.setTop (mkF m 84 #[vR a0, vI p1, vI (2 : Int32), vI (3 : Int32), vI (1 : Int32), vI (2 : Int32)] [(.int (1 : Int32))])) _
            exact k)
          obtain ⟨fs, hr, hrun, hended, hW, hsame⟩ := X39.leave (v := some (.int (1 : Int32))) (fun h => by rw [Bd.returns] at h; cases h)
          exact ⟨_, _, pre59.fin hS0 (retN X39 hx (t := .boolean) Bd.returns (by simp) (hb hby d6_84) hr), hrun, hended, _, _, rfl, (by
            show Q6_4 Z a0 p1 r k0 x0 x1 x2 x3 x4 x5 x6 x7 h0 n0 _ T39.heap _
            rw [e39]
            exact ⟨congrArg (fun z => some (Value.int z)) (by unfold own_in4; rw [if_pos (by simp only [Int32.lt_iff_toInt_lt] at c42_9 c65_30 c42_36 c65_43 ⊢; omega)]), N0, rfl⟩), ⟨_, rfl⟩, hW, hsame.mono (by decide) (by decide)⟩
    · skip
      have pre60 : Go p.tables e below S0 T26 (mkF m 84 #[vR a0, vI p1, vI (0 : Int32), vI (3 : Int32), vI (1 : Int32), vI (1 : Int32)] [(.int (1 : Int32))]) := fun t k => pre29 t (by
        refine XS.icmpYes X26.here hx rfl (pc0 := 65) (pc' := 76) rfl (hb hby d6_65) rfl (flt c65_30).2.2.2 (by decide) (by decide) ?_
        show Steps p.tables e below (T26.setTop (mkF m 76 #[vR a0, vI p1, vI (0 : Int32), vI (3 : Int32), vI (0 : Int32), vI (1 : Int32)] [])) _
        refine XS.iconst X26.here hx rfl (hb hby d6_76) ?_
        show Steps p.tables e below (T26.setTop (mkF m 77 #[vR a0, vI p1, vI (0 : Int32), vI (3 : Int32), vI (0 : Int32), vI (1 : Int32)] [(.int (1 : Int32))])) _
        refine XS.istore X26.here hx rfl (hb hby d6_77) rfl (l' := #[vR a0, vI p1, vI (0 : Int32), vI (3 : Int32), vI (1 : Int32), vI (1 : Int32)]) rfl ?_
        show Steps p.tables e below (T26.setTop (mkF m 79 #[vR a0, vI p1, vI (0 : Int32), vI (3 : Int32), vI (1 : Int32), vI (1 : Int32)] [])) _
        refine XS.goto X26.here hx rfl (pc0 := 79) (pc' := 15) rfl (hb hby d6_79) (by decide) (by decide) ?_
        show Steps p.tables e below (T26.setTop (mkF m 15 #[vR a0, vI p1, vI (0 : Int32), vI (3 : Int32), vI (1 : Int32), vI (1 : Int32)] [])) _
        refine XS.iload X26.here hx rfl (hb hby d6_15) rfl ?_
        show Steps p.tables e below (T26.setTop (mkF m 17 #[vR a0, vI p1, vI (0 : Int32), vI (3 : Int32), vI (1 : Int32), vI (1 : Int32)] [(.int (1 : Int32))])) _
        refine XS.ifYes X26.here hx rfl (pc0 := 17) (pc' := 82) rfl (hb hby d6_17) rfl ((if0 _ _).trans (feq (by decide : ¬ ((1 : Int32) = (0 : Int32)))).2) (by decide) (by decide) ?_
        show Steps p.tables e below (T26.setTop (mkF m 82 #[vR a0, vI p1, vI (0 : Int32), vI (3 : Int32), vI (1 : Int32), vI (1 : Int32)] [])) _
        refine XS.iload X26.here hx rfl (hb hby d6_82) rfl ?_
        show Steps p.tables e below (T26.setTop (mkF m 84 #[vR a0, vI p1, vI (0 : Int32), vI (3 : Int32), vI (1 : Int32), vI (1 : Int32)] [(.int (1 : Int32))])) _
        exact k)
      obtain ⟨fs, hr, hrun, hended, hW, hsame⟩ := X26.leave (v := some (.int (1 : Int32))) (fun h => by rw [Bd.returns] at h; cases h)
      exact ⟨_, _, pre60.fin hS0 (retN X26 hx (t := .boolean) Bd.returns (by simp) (hb hby d6_84) hr), hrun, hended, _, _, rfl, (by
        show Q6_4 Z a0 p1 r k0 x0 x1 x2 x3 x4 x5 x6 x7 h0 n0 _ T26.heap _
        rw [e26]
        exact ⟨congrArg (fun z => some (Value.int z)) (by unfold own_in4; rw [if_pos (by simp only [Int32.lt_iff_toInt_lt] at c42_9 c65_30 ⊢; omega)]), N0, rfl⟩), ⟨_, rfl⟩, hW, hsame.mono (by decide) (by decide)⟩
theorem own_k {x i : Int32} (h : i = (x &&& (7 : Int32)) % (5 : Int32)) : i = (0 : Int32) ∨ i = (1 : Int32) ∨ i = (2 : Int32) ∨ i = (3 : Int32) ∨ i = (4 : Int32) := by
  have h0 := c_and x (7 : Int32) (by decide)
  have h1 := (c_iremV (x &&& (7 : Int32)) (5 : Int32)).1 h0.1 (by decide)
  rw [← h] at h1
  simp only [← Int32.toInt_inj, Int32.reduceToInt] at *
  omega
theorem own_base {x b : Int32} (h : b = own_max (own_min x (2147483583 : Int32)) (-2147483640 : Int32)) : b.toInt ≤ 2147483583 := by
  rw [h]; unfold own_max own_min
  repeat' split
  all_goals simp only [Int32.lt_iff_toInt_lt, Int32.reduceToInt] at *
  all_goals omega
theorem own_a {x y s : Int32} {B : Int} (hB : x.toInt ≤ B) (hb : B ≤ 2147483640) (h : s = x + (y &&& (7 : Int32))) : x.toInt ≤ s.toInt ∧ s.toInt ≤ B + 7 := by
  have a := c_and y (7 : Int32) (by decide)
  have t : (7 : Int32).toInt = 7 := rfl
  have c := c_iadd x (y &&& (7 : Int32))
  have r := rng32 s
  have r2 := rng32 x
  rw [← h] at c
  omega
theorem own_b {x y s : Int32} {B : Int} (hB : x.toInt ≤ B) (hb : B ≤ 2147483639) (h : s = x + ((y &&& (7 : Int32)) + (1 : Int32))) : x.toInt < s.toInt ∧ s.toInt ≤ B + 8 := by
  have a := c_and y (7 : Int32) (by decide)
  have t : (7 : Int32).toInt = 7 := rfl
  have t1 : (1 : Int32).toInt = 1 := rfl
  have d := c_iadd (y &&& (7 : Int32)) (1 : Int32)
  have c := c_iadd x ((y &&& (7 : Int32)) + (1 : Int32))
  have r := rng32 s
  have r2 := rng32 x
  have r3 := rng32 ((y &&& (7 : Int32)) + (1 : Int32))
  rw [← h] at c
  omega
theorem ef_0 (m : MethodId) (x0 : Int32) (x1 : Int32) (x2 : Int32) (x3 : Int32) (x4 : Int32) (x5 : Int32) : entryFrame m #[(.int x0), (.int x1), (.int x2), (.int x3), (.int x4), (.int x5)] maxLocals = mkF m 0 #[.val (.int x0), .val (.int x1), .val (.int x2), .val (.int x3), .val (.int x4), .val (.int x5), .unset, .unset, .unset, .unset, .unset, .unset, .unset, .unset, .unset, .unset, .unset, .unset, .unset, .unset] [] := by first | (simp [entryFrame, mkF, argsToLocals, Value.category, maxLocals]; done) | rfl
theorem pn_2 : plainName "com/example/attest/attest/metadata/CharsContainsPinLaw" = true := by first | (simp [plainName, overriddenIn]; done) | decide +kernel
theorem pd_1 : parseMethodDescriptor "(II)I" = some ⟨[.int, .int], some .int⟩ := by decide +kernel
theorem pd_2 : parseMethodDescriptor "([I)V" = some ⟨[(.array .int)], none⟩ := by decide +kernel
theorem pd_3 : parseMethodDescriptor "(I)Z" = some ⟨[.int], some .boolean⟩ := by decide +kernel
def Q0 (Z : State) (p0 p1 p2 p3 p4 p5 : Int32) (h0 : Heap) (n0 : Nat) (v : Option Value) (h : Heap) (L : List Loc) : Prop := v = some (.int 1) ∧ Fr n0 L
set_option maxRecDepth 65536 in
set_option maxHeartbeats 40000000 in
theorem rm0 (l : Launch) (Z : State) (A0 : Array Value) (hw : ∀ d ∈ tables_1, d.before A0 Z = true) (ws : List Jvm.Cond) (p0 : Int32) (p1 : Int32) (p2 : Int32) (p3 : Int32) (p4 : Int32) (p5 : Int32)  (h0 : Heap) (n0 : Nat) (Z0 : n0 ≤ h0.size)  :
    MetFree l x (head1 (Jvm.Cond.code x code maxLocals ret :: ws) room_1) (fun a U => a = #[(.int p0), (.int p1), (.int p2), (.int p3), (.int p4), (.int p5)] ∧ Z.Warmed39 U.vm ∧ U.heap = h0) (fun _ _ _ _ _ => True) (fun _ U o U' => ∃ v L, o = .returned v ∧ Q0 Z p0 p1 p2 p3 p4 p5 h0 n0 v U'.heap L ∧ FrameEnd U o U' L 2 9) := by
  refine MetFree.of_bodySF (plainFor_of_name pn_2) hisR ?_
  intro p e s m args below meth c s₁ Bd hml0 hP hK
  obtain ⟨rfl, hZ, hh⟩ := hP
  have hx := Bd.exec
  have hby := Bd.bytes
  have hml : c.maxLocals = 20 := hml0
  have hown : s.vm.findClass "com/example/attest/attest/metadata/CharsContainsPinLaw" = some m.cls := findClass_of_methodNamed Bd.named
  have hnm := (name_of_methodNamed Bd.named Bd.method).1
  have X0 : Stand p l e room_1 s m #[(.int p0), (.int p1), (.int p2), (.int p3), (.int p4), (.int p5)] below meth c s₁ [] 0 0 := Stand.of_body Bd
  have e0 : s₁.heap = h0 := by rw [← hh, Bd.state]; rfl
  have N0 := Fr.nil n0
  obtain ⟨S0, hS0⟩ : ∃ z, z = s₁.setTop (entryFrame m #[(.int p0), (.int p1), (.int p2), (.int p3), (.int p4), (.int p5)] maxLocals) := ⟨_, rfl⟩
  have pre0 : Go p.tables e below S0 s₁ (mkF m 0 #[vI p0, vI p1, vI p2, vI p3, vI p4, vI p5, .unset, .unset, .unset, .unset, .unset, .unset, .unset, .unset, .unset, .unset, .unset, .unset, .unset, .unset] []) := fun t k => by rw [hS0]; exact castTop (ef_0 m p0 p1 p2 p3 p4 p5) k
  obtain ⟨v1, hv1, pre1⟩ : ∃ z : Int32, z = ((p3 &&& (7 : Int32)) % (5 : Int32)) ∧ Go p.tables e below S0 s₁ (mkF m 8 #[vI p0, vI p1, vI p2, vI p3, vI p4, vI p5, vI z, .unset, .unset, .unset, .unset, .unset, .unset, .unset, .unset, .unset, .unset, .unset, .unset, .unset] []) := ⟨_, rfl, fun t k => pre0 t (by
    refine XS.iloadN X0.here hx rfl (hb hby at_0) rfl ?_
    show Steps p.tables e below (s₁.setTop (mkF m 1 #[vI p0, vI p1, vI p2, vI p3, vI p4, vI p5, .unset, .unset, .unset, .unset, .unset, .unset, .unset, .unset, .unset, .unset, .unset, .unset, .unset, .unset] [(.int p3)])) _
    refine XS.bipush X0.here hx rfl (hb hby at_1) ?_
    show Steps p.tables e below (s₁.setTop (mkF m 3 #[vI p0, vI p1, vI p2, vI p3, vI p4, vI p5, .unset, .unset, .unset, .unset, .unset, .unset, .unset, .unset, .unset, .unset, .unset, .unset, .unset, .unset] [(.int (7 : Int32)), (.int p3)])) _
    refine XS.iand X0.here hx rfl (hb hby at_3) rfl ?_
    show Steps p.tables e below (s₁.setTop (mkF m 4 #[vI p0, vI p1, vI p2, vI p3, vI p4, vI p5, .unset, .unset, .unset, .unset, .unset, .unset, .unset, .unset, .unset, .unset, .unset, .unset, .unset, .unset] [(.int (p3 &&& (7 : Int32)))])) _
    refine XS.iconst X0.here hx rfl (hb hby at_4) ?_
    show Steps p.tables e below (s₁.setTop (mkF m 5 #[vI p0, vI p1, vI p2, vI p3, vI p4, vI p5, .unset, .unset, .unset, .unset, .unset, .unset, .unset, .unset, .unset, .unset, .unset, .unset, .unset, .unset] [(.int (5 : Int32)), (.int (p3 &&& (7 : Int32)))])) _
    refine iremM X0 hx rfl (hb hby at_5) rfl (by decide) ?_
    show Steps p.tables e below (s₁.setTop (mkF m 6 #[vI p0, vI p1, vI p2, vI p3, vI p4, vI p5, .unset, .unset, .unset, .unset, .unset, .unset, .unset, .unset, .unset, .unset, .unset, .unset, .unset, .unset] [(.int ((p3 &&& (7 : Int32)) % (5 : Int32)))])) _
    refine XS.istore X0.here hx rfl (hb hby at_6) rfl (l' := #[vI p0, vI p1, vI p2, vI p3, vI p4, vI p5, vI ((p3 &&& (7 : Int32)) % (5 : Int32)), .unset, .unset, .unset, .unset, .unset, .unset, .unset, .unset, .unset, .unset, .unset, .unset, .unset]) rfl ?_
    show Steps p.tables e below (s₁.setTop (mkF m 8 #[vI p0, vI p1, vI p2, vI p3, vI p4, vI p5, vI ((p3 &&& (7 : Int32)) % (5 : Int32)), .unset, .unset, .unset, .unset, .unset, .unset, .unset, .unset, .unset, .unset, .unset, .unset, .unset] [])) _
    exact k)⟩
  have pre2 : Go p.tables e below S0 s₁ (mkF m 11 #[vI p0, vI p1, vI p2, vI p3, vI p4, vI p5, vI v1, .unset, .unset, .unset, .unset, .unset, .unset, .unset, .unset, .unset, .unset, .unset, .unset, .unset] [(.int (2147483583 : Int32)), (.int p0)]) := fun t k => pre1 t (by
    refine XS.iloadN X0.here hx rfl (hb hby at_8) rfl ?_
    show Steps p.tables e below (s₁.setTop (mkF m 9 #[vI p0, vI p1, vI p2, vI p3, vI p4, vI p5, vI v1, .unset, .unset, .unset, .unset, .unset, .unset, .unset, .unset, .unset, .unset, .unset, .unset, .unset] [(.int p0)])) _
    refine X0.ldcInt hx hown (mvT hZ (hw _ (List.mem_of_getElem? (i := 0) rfl))) (g := (mkF m 9 #[vI p0, vI p1, vI p2, vI p3, vI p4, vI p5, vI v1, .unset, .unset, .unset, .unset, .unset, .unset, .unset, .unset, .unset, .unset, .unset, .unset, .unset] [(.int p0)])) rfl (hb hby at_9) _ ?_
    show Steps p.tables e below (s₁.setTop (mkF m 11 #[vI p0, vI p1, vI p2, vI p3, vI p4, vI p5, vI v1, .unset, .unset, .unset, .unset, .unset, .unset, .unset, .unset, .unset, .unset, .unset, .unset, .unset] [(.int (2147483583 : Int32)), (.int p0)])) _
    exact k)
  obtain ⟨_, _, ⟨T3, qL3, qk3, qn3⟩, -, X3, ⟨Lc3, hQ3, ql3, qy3, qz3⟩, st3⟩ := Jvm.LawKit.callS X0 hx (y := (⟨"java/lang/Math", "min", "(II)I"⟩ : MethodName)) hown (mvT hZ (hw _ (List.mem_of_getElem? (i := 1) rfl))) (mvT hZ (hw _ (List.mem_of_getElem? (i := 2) rfl))) (mvT hZ (hw _ (List.mem_of_getElem? (i := 3) rfl))) (mvT hZ (hw _ (List.mem_of_getElem? (i := 4) rfl))) (by decide) (backOf (W := 0) (rm1 l Z A0 hw [] p0 (2147483583 : Int32) h0 n0 Z0) hZ (hw _ (List.mem_of_getElem? (i := 4) rfl)) (hw _ (List.mem_of_getElem? (i := 3) rfl)) (by decide) (by decide)) (g := (mkF m 11 #[vI p0, vI p1, vI p2, vI p3, vI p4, vI p5, vI v1, .unset, .unset, .unset, .unset, .unset, .unset, .unset, .unset, .unset, .unset, .unset, .unset, .unset] [(.int (2147483583 : Int32)), (.int p0)])) rfl (by rw [hml]; rfl) (argsL := [(.int p0), (.int (2147483583 : Int32))]) (rest := []) (lenOf pd_1 rfl) rfl (by show 2 * 0 + _ ≤ _; exact Nat.le_of_eq rfl) (hb hby at_11) (fun _ _ => ⟨rfl, e0, (by decide : 0 + 0 ≤ _), (by decide : 0 + 0 ≤ _)⟩)
  dsimp only [Pt.U, Pt.locs, Pt.cells, Pt.slots] at X3 ql3 qy3 qz3 st3 hQ3
  subst ql3 qy3 qz3
  obtain ⟨rfl, Nq3, eq3⟩ := hQ3
  have N3 := Fr.app N0 Nq3
  have pre3 : Go p.tables e below S0 T3 (mkF m 14 #[vI p0, vI p1, vI p2, vI p3, vI p4, vI p5, vI v1, .unset, .unset, .unset, .unset, .unset, .unset, .unset, .unset, .unset, .unset, .unset, .unset, .unset] [(.int (own_min p0 (2147483583 : Int32)))]) := fun t k => pre2 t (st3 t k)
  have pre4 : Go p.tables e below S0 T3 (mkF m 16 #[vI p0, vI p1, vI p2, vI p3, vI p4, vI p5, vI v1, .unset, .unset, .unset, .unset, .unset, .unset, .unset, .unset, .unset, .unset, .unset, .unset, .unset] [(.int (-2147483640 : Int32)), (.int (own_min p0 (2147483583 : Int32)))]) := fun t k => pre3 t (by
    refine X3.ldcInt hx hown (mvT hZ (hw _ (List.mem_of_getElem? (i := 5) rfl))) (g := (mkF m 14 #[vI p0, vI p1, vI p2, vI p3, vI p4, vI p5, vI v1, .unset, .unset, .unset, .unset, .unset, .unset, .unset, .unset, .unset, .unset, .unset, .unset, .unset] [(.int (own_min p0 (2147483583 : Int32)))])) rfl (hb hby at_14) _ ?_
    show Steps p.tables e below (T3.setTop (mkF m 16 #[vI p0, vI p1, vI p2, vI p3, vI p4, vI p5, vI v1, .unset, .unset, .unset, .unset, .unset, .unset, .unset, .unset, .unset, .unset, .unset, .unset, .unset] [(.int (-2147483640 : Int32)), (.int (own_min p0 (2147483583 : Int32)))])) _
    exact k)
  obtain ⟨_, _, ⟨T5, qL5, qk5, qn5⟩, -, X5, ⟨Lc5, hQ5, ql5, qy5, qz5⟩, st5⟩ := Jvm.LawKit.callS X3 hx (y := (⟨"java/lang/Math", "max", "(II)I"⟩ : MethodName)) hown (mvT hZ (hw _ (List.mem_of_getElem? (i := 6) rfl))) (mvT hZ (hw _ (List.mem_of_getElem? (i := 7) rfl))) (mvT hZ (hw _ (List.mem_of_getElem? (i := 3) rfl))) (mvT hZ (hw _ (List.mem_of_getElem? (i := 8) rfl))) (by decide) (backOf (W := 0) (rm2 l Z A0 hw [] (own_min p0 (2147483583 : Int32)) (-2147483640 : Int32) h0 n0 Z0) hZ (hw _ (List.mem_of_getElem? (i := 8) rfl)) (hw _ (List.mem_of_getElem? (i := 3) rfl)) (by decide) (by decide)) (g := (mkF m 16 #[vI p0, vI p1, vI p2, vI p3, vI p4, vI p5, vI v1, .unset, .unset, .unset, .unset, .unset, .unset, .unset, .unset, .unset, .unset, .unset, .unset, .unset] [(.int (-2147483640 : Int32)), (.int (own_min p0 (2147483583 : Int32)))])) rfl (by rw [hml]; rfl) (argsL := [(.int (own_min p0 (2147483583 : Int32))), (.int (-2147483640 : Int32))]) (rest := []) (lenOf pd_1 rfl) rfl (by show 2 * 0 + _ ≤ _; exact Nat.le_of_eq rfl) (hb hby at_16) (fun _ _ => ⟨rfl, eq3, (by decide : 0 + 0 ≤ _), (by decide : 0 + 0 ≤ _)⟩)
  dsimp only [Pt.U, Pt.locs, Pt.cells, Pt.slots] at X5 ql5 qy5 qz5 st5 hQ5
  subst ql5 qy5 qz5
  obtain ⟨rfl, Nq5, eq5⟩ := hQ5
  have N5 := Fr.app N3 Nq5
  have pre5 : Go p.tables e below S0 T5 (mkF m 19 #[vI p0, vI p1, vI p2, vI p3, vI p4, vI p5, vI v1, .unset, .unset, .unset, .unset, .unset, .unset, .unset, .unset, .unset, .unset, .unset, .unset, .unset] [(.int (own_max (own_min p0 (2147483583 : Int32)) (-2147483640 : Int32)))]) := fun t k => pre4 t (st5 t k)
  obtain ⟨v6, hv6, pre6⟩ : ∃ z : Int32, z = (own_max (own_min p0 (2147483583 : Int32)) (-2147483640 : Int32)) ∧ Go p.tables e below S0 T5 (mkF m 21 #[vI p0, vI p1, vI p2, vI p3, vI p4, vI p5, vI v1, vI z, .unset, .unset, .unset, .unset, .unset, .unset, .unset, .unset, .unset, .unset, .unset, .unset] []) := ⟨_, rfl, fun t k => pre5 t (by
    refine XS.istore X5.here hx rfl (hb hby at_19) rfl (l' := #[vI p0, vI p1, vI p2, vI p3, vI p4, vI p5, vI v1, vI (own_max (own_min p0 (2147483583 : Int32)) (-2147483640 : Int32)), .unset, .unset, .unset, .unset, .unset, .unset, .unset, .unset, .unset, .unset, .unset, .unset]) rfl ?_
    show Steps p.tables e below (T5.setTop (mkF m 21 #[vI p0, vI p1, vI p2, vI p3, vI p4, vI p5, vI v1, vI (own_max (own_min p0 (2147483583 : Int32)) (-2147483640 : Int32)), .unset, .unset, .unset, .unset, .unset, .unset, .unset, .unset, .unset, .unset, .unset, .unset] [])) _
    exact k)⟩
  have B0 := own_base hv6
  obtain ⟨v7, hv7, pre7⟩ : ∃ z : Int32, z = (v6 + (p2 &&& (7 : Int32))) ∧ Go p.tables e below S0 T5 (mkF m 34 #[vI p0, vI p1, vI p2, vI p3, vI p4, vI p5, vI v1, vI v6, vI v6, vI z, .unset, .unset, .unset, .unset, .unset, .unset, .unset, .unset, .unset, .unset] []) := ⟨_, rfl, fun t k => pre6 t (by
    refine XS.iload X5.here hx rfl (hb hby at_21) rfl ?_
    show Steps p.tables e below (T5.setTop (mkF m 23 #[vI p0, vI p1, vI p2, vI p3, vI p4, vI p5, vI v1, vI v6, .unset, .unset, .unset, .unset, .unset, .unset, .unset, .unset, .unset, .unset, .unset, .unset] [(.int v6)])) _
    refine XS.istore X5.here hx rfl (hb hby at_23) rfl (l' := #[vI p0, vI p1, vI p2, vI p3, vI p4, vI p5, vI v1, vI v6, vI v6, .unset, .unset, .unset, .unset, .unset, .unset, .unset, .unset, .unset, .unset, .unset]) rfl ?_
    show Steps p.tables e below (T5.setTop (mkF m 25 #[vI p0, vI p1, vI p2, vI p3, vI p4, vI p5, vI v1, vI v6, vI v6, .unset, .unset, .unset, .unset, .unset, .unset, .unset, .unset, .unset, .unset, .unset] [])) _
    refine XS.iload X5.here hx rfl (hb hby at_25) rfl ?_
    show Steps p.tables e below (T5.setTop (mkF m 27 #[vI p0, vI p1, vI p2, vI p3, vI p4, vI p5, vI v1, vI v6, vI v6, .unset, .unset, .unset, .unset, .unset, .unset, .unset, .unset, .unset, .unset, .unset] [(.int v6)])) _
    refine XS.iloadN X5.here hx rfl (hb hby at_27) rfl ?_
    show Steps p.tables e below (T5.setTop (mkF m 28 #[vI p0, vI p1, vI p2, vI p3, vI p4, vI p5, vI v1, vI v6, vI v6, .unset, .unset, .unset, .unset, .unset, .unset, .unset, .unset, .unset, .unset, .unset] [(.int p2), (.int v6)])) _
    refine XS.bipush X5.here hx rfl (hb hby at_28) ?_
    show Steps p.tables e below (T5.setTop (mkF m 30 #[vI p0, vI p1, vI p2, vI p3, vI p4, vI p5, vI v1, vI v6, vI v6, .unset, .unset, .unset, .unset, .unset, .unset, .unset, .unset, .unset, .unset, .unset] [(.int (7 : Int32)), (.int p2), (.int v6)])) _
    refine XS.iand X5.here hx rfl (hb hby at_30) rfl ?_
    show Steps p.tables e below (T5.setTop (mkF m 31 #[vI p0, vI p1, vI p2, vI p3, vI p4, vI p5, vI v1, vI v6, vI v6, .unset, .unset, .unset, .unset, .unset, .unset, .unset, .unset, .unset, .unset, .unset] [(.int (p2 &&& (7 : Int32))), (.int v6)])) _
    refine XS.iadd X5.here hx rfl (hb hby at_31) rfl ?_
    show Steps p.tables e below (T5.setTop (mkF m 32 #[vI p0, vI p1, vI p2, vI p3, vI p4, vI p5, vI v1, vI v6, vI v6, .unset, .unset, .unset, .unset, .unset, .unset, .unset, .unset, .unset, .unset, .unset] [(.int (v6 + (p2 &&& (7 : Int32))))])) _
    refine XS.istore X5.here hx rfl (hb hby at_32) rfl (l' := #[vI p0, vI p1, vI p2, vI p3, vI p4, vI p5, vI v1, vI v6, vI v6, vI (v6 + (p2 &&& (7 : Int32))), .unset, .unset, .unset, .unset, .unset, .unset, .unset, .unset, .unset, .unset]) rfl ?_
    show Steps p.tables e below (T5.setTop (mkF m 34 #[vI p0, vI p1, vI p2, vI p3, vI p4, vI p5, vI v1, vI v6, vI v6, vI (v6 + (p2 &&& (7 : Int32))), .unset, .unset, .unset, .unset, .unset, .unset, .unset, .unset, .unset, .unset] [])) _
    exact k)⟩
  have s0 := own_a B0 (by omega) hv7
  have sorted1 := s0.1
  obtain ⟨v8, hv8, pre8⟩ : ∃ z : Int32, z = (v7 + ((p1 &&& (7 : Int32)) + (1 : Int32))) ∧ Go p.tables e below S0 T5 (mkF m 45 #[vI p0, vI p1, vI p2, vI p3, vI p4, vI p5, vI v1, vI v6, vI v6, vI v7, vI z, .unset, .unset, .unset, .unset, .unset, .unset, .unset, .unset, .unset] []) := ⟨_, rfl, fun t k => pre7 t (by
    refine XS.iload X5.here hx rfl (hb hby at_34) rfl ?_
    show Steps p.tables e below (T5.setTop (mkF m 36 #[vI p0, vI p1, vI p2, vI p3, vI p4, vI p5, vI v1, vI v6, vI v6, vI v7, .unset, .unset, .unset, .unset, .unset, .unset, .unset, .unset, .unset, .unset] [(.int v7)])) _
    refine XS.iloadN X5.here hx rfl (hb hby at_36) rfl ?_
    show Steps p.tables e below (T5.setTop (mkF m 37 #[vI p0, vI p1, vI p2, vI p3, vI p4, vI p5, vI v1, vI v6, vI v6, vI v7, .unset, .unset, .unset, .unset, .unset, .unset, .unset, .unset, .unset, .unset] [(.int p1), (.int v7)])) _
    refine XS.bipush X5.here hx rfl (hb hby at_37) ?_
    show Steps p.tables e below (T5.setTop (mkF m 39 #[vI p0, vI p1, vI p2, vI p3, vI p4, vI p5, vI v1, vI v6, vI v6, vI v7, .unset, .unset, .unset, .unset, .unset, .unset, .unset, .unset, .unset, .unset] [(.int (7 : Int32)), (.int p1), (.int v7)])) _
    refine XS.iand X5.here hx rfl (hb hby at_39) rfl ?_
    show Steps p.tables e below (T5.setTop (mkF m 40 #[vI p0, vI p1, vI p2, vI p3, vI p4, vI p5, vI v1, vI v6, vI v6, vI v7, .unset, .unset, .unset, .unset, .unset, .unset, .unset, .unset, .unset, .unset] [(.int (p1 &&& (7 : Int32))), (.int v7)])) _
    refine XS.iconst X5.here hx rfl (hb hby at_40) ?_
    show Steps p.tables e below (T5.setTop (mkF m 41 #[vI p0, vI p1, vI p2, vI p3, vI p4, vI p5, vI v1, vI v6, vI v6, vI v7, .unset, .unset, .unset, .unset, .unset, .unset, .unset, .unset, .unset, .unset] [(.int (1 : Int32)), (.int (p1 &&& (7 : Int32))), (.int v7)])) _
    refine XS.iadd X5.here hx rfl (hb hby at_41) rfl ?_
    show Steps p.tables e below (T5.setTop (mkF m 42 #[vI p0, vI p1, vI p2, vI p3, vI p4, vI p5, vI v1, vI v6, vI v6, vI v7, .unset, .unset, .unset, .unset, .unset, .unset, .unset, .unset, .unset, .unset] [(.int ((p1 &&& (7 : Int32)) + (1 : Int32))), (.int v7)])) _
    refine XS.iadd X5.here hx rfl (hb hby at_42) rfl ?_
    show Steps p.tables e below (T5.setTop (mkF m 43 #[vI p0, vI p1, vI p2, vI p3, vI p4, vI p5, vI v1, vI v6, vI v6, vI v7, .unset, .unset, .unset, .unset, .unset, .unset, .unset, .unset, .unset, .unset] [(.int (v7 + ((p1 &&& (7 : Int32)) + (1 : Int32))))])) _
    refine XS.istore X5.here hx rfl (hb hby at_43) rfl (l' := #[vI p0, vI p1, vI p2, vI p3, vI p4, vI p5, vI v1, vI v6, vI v6, vI v7, vI (v7 + ((p1 &&& (7 : Int32)) + (1 : Int32))), .unset, .unset, .unset, .unset, .unset, .unset, .unset, .unset, .unset]) rfl ?_
    show Steps p.tables e below (T5.setTop (mkF m 45 #[vI p0, vI p1, vI p2, vI p3, vI p4, vI p5, vI v1, vI v6, vI v6, vI v7, vI (v7 + ((p1 &&& (7 : Int32)) + (1 : Int32))), .unset, .unset, .unset, .unset, .unset, .unset, .unset, .unset, .unset] [])) _
    exact k)⟩
  have s1 := own_b s0.2 (by omega) hv8
  obtain ⟨v9, hv9, pre9⟩ : ∃ z : Int32, z = (v8 + (((p2.toUInt32 >>> ((3 : Int32) &&& 31).toUInt32).toInt32) &&& (7 : Int32))) ∧ Go p.tables e below S0 T5 (mkF m 56 #[vI p0, vI p1, vI p2, vI p3, vI p4, vI p5, vI v1, vI v6, vI v6, vI v7, vI v8, vI z, .unset, .unset, .unset, .unset, .unset, .unset, .unset, .unset] []) := ⟨_, rfl, fun t k => pre8 t (by
    refine XS.iload X5.here hx rfl (hb hby at_45) rfl ?_
    show Steps p.tables e below (T5.setTop (mkF m 47 #[vI p0, vI p1, vI p2, vI p3, vI p4, vI p5, vI v1, vI v6, vI v6, vI v7, vI v8, .unset, .unset, .unset, .unset, .unset, .unset, .unset, .unset, .unset] [(.int v8)])) _
    refine XS.iloadN X5.here hx rfl (hb hby at_47) rfl ?_
    show Steps p.tables e below (T5.setTop (mkF m 48 #[vI p0, vI p1, vI p2, vI p3, vI p4, vI p5, vI v1, vI v6, vI v6, vI v7, vI v8, .unset, .unset, .unset, .unset, .unset, .unset, .unset, .unset, .unset] [(.int p2), (.int v8)])) _
    refine XS.iconst X5.here hx rfl (hb hby at_48) ?_
    show Steps p.tables e below (T5.setTop (mkF m 49 #[vI p0, vI p1, vI p2, vI p3, vI p4, vI p5, vI v1, vI v6, vI v6, vI v7, vI v8, .unset, .unset, .unset, .unset, .unset, .unset, .unset, .unset, .unset] [(.int (3 : Int32)), (.int p2), (.int v8)])) _
    refine XS.iushr X5.here hx rfl (hb hby at_49) rfl ?_
    show Steps p.tables e below (T5.setTop (mkF m 50 #[vI p0, vI p1, vI p2, vI p3, vI p4, vI p5, vI v1, vI v6, vI v6, vI v7, vI v8, .unset, .unset, .unset, .unset, .unset, .unset, .unset, .unset, .unset] [(.int ((p2.toUInt32 >>> ((3 : Int32) &&& 31).toUInt32).toInt32)), (.int v8)])) _
    refine XS.bipush X5.here hx rfl (hb hby at_50) ?_
    show Steps p.tables e below (T5.setTop (mkF m 52 #[vI p0, vI p1, vI p2, vI p3, vI p4, vI p5, vI v1, vI v6, vI v6, vI v7, vI v8, .unset, .unset, .unset, .unset, .unset, .unset, .unset, .unset, .unset] [(.int (7 : Int32)), (.int ((p2.toUInt32 >>> ((3 : Int32) &&& 31).toUInt32).toInt32)), (.int v8)])) _
    refine XS.iand X5.here hx rfl (hb hby at_52) rfl ?_
    show Steps p.tables e below (T5.setTop (mkF m 53 #[vI p0, vI p1, vI p2, vI p3, vI p4, vI p5, vI v1, vI v6, vI v6, vI v7, vI v8, .unset, .unset, .unset, .unset, .unset, .unset, .unset, .unset, .unset] [(.int (((p2.toUInt32 >>> ((3 : Int32) &&& 31).toUInt32).toInt32) &&& (7 : Int32))), (.int v8)])) _
    refine XS.iadd X5.here hx rfl (hb hby at_53) rfl ?_
    show Steps p.tables e below (T5.setTop (mkF m 54 #[vI p0, vI p1, vI p2, vI p3, vI p4, vI p5, vI v1, vI v6, vI v6, vI v7, vI v8, .unset, .unset, .unset, .unset, .unset, .unset, .unset, .unset, .unset] [(.int (v8 + (((p2.toUInt32 >>> ((3 : Int32) &&& 31).toUInt32).toInt32) &&& (7 : Int32))))])) _
    refine XS.istore X5.here hx rfl (hb hby at_54) rfl (l' := #[vI p0, vI p1, vI p2, vI p3, vI p4, vI p5, vI v1, vI v6, vI v6, vI v7, vI v8, vI (v8 + (((p2.toUInt32 >>> ((3 : Int32) &&& 31).toUInt32).toInt32) &&& (7 : Int32))), .unset, .unset, .unset, .unset, .unset, .unset, .unset, .unset]) rfl ?_
    show Steps p.tables e below (T5.setTop (mkF m 56 #[vI p0, vI p1, vI p2, vI p3, vI p4, vI p5, vI v1, vI v6, vI v6, vI v7, vI v8, vI (v8 + (((p2.toUInt32 >>> ((3 : Int32) &&& 31).toUInt32).toInt32) &&& (7 : Int32))), .unset, .unset, .unset, .unset, .unset, .unset, .unset, .unset] [])) _
    exact k)⟩
  have s2 := own_a s1.2 (by omega) hv9
  have sorted2 := And.intro s0.1 (And.intro s1.1 (s2.1))
  obtain ⟨v10, hv10, pre10⟩ : ∃ z : Int32, z = (v9 + ((((p1.toUInt32 >>> ((3 : Int32) &&& 31).toUInt32).toInt32) &&& (7 : Int32)) + (1 : Int32))) ∧ Go p.tables e below S0 T5 (mkF m 69 #[vI p0, vI p1, vI p2, vI p3, vI p4, vI p5, vI v1, vI v6, vI v6, vI v7, vI v8, vI v9, vI z, .unset, .unset, .unset, .unset, .unset, .unset, .unset] []) := ⟨_, rfl, fun t k => pre9 t (by
    refine XS.iload X5.here hx rfl (hb hby at_56) rfl ?_
    show Steps p.tables e below (T5.setTop (mkF m 58 #[vI p0, vI p1, vI p2, vI p3, vI p4, vI p5, vI v1, vI v6, vI v6, vI v7, vI v8, vI v9, .unset, .unset, .unset, .unset, .unset, .unset, .unset, .unset] [(.int v9)])) _
    refine XS.iloadN X5.here hx rfl (hb hby at_58) rfl ?_
    show Steps p.tables e below (T5.setTop (mkF m 59 #[vI p0, vI p1, vI p2, vI p3, vI p4, vI p5, vI v1, vI v6, vI v6, vI v7, vI v8, vI v9, .unset, .unset, .unset, .unset, .unset, .unset, .unset, .unset] [(.int p1), (.int v9)])) _
    refine XS.iconst X5.here hx rfl (hb hby at_59) ?_
    show Steps p.tables e below (T5.setTop (mkF m 60 #[vI p0, vI p1, vI p2, vI p3, vI p4, vI p5, vI v1, vI v6, vI v6, vI v7, vI v8, vI v9, .unset, .unset, .unset, .unset, .unset, .unset, .unset, .unset] [(.int (3 : Int32)), (.int p1), (.int v9)])) _
    refine XS.iushr X5.here hx rfl (hb hby at_60) rfl ?_
    show Steps p.tables e below (T5.setTop (mkF m 61 #[vI p0, vI p1, vI p2, vI p3, vI p4, vI p5, vI v1, vI v6, vI v6, vI v7, vI v8, vI v9, .unset, .unset, .unset, .unset, .unset, .unset, .unset, .unset] [(.int ((p1.toUInt32 >>> ((3 : Int32) &&& 31).toUInt32).toInt32)), (.int v9)])) _
    refine XS.bipush X5.here hx rfl (hb hby at_61) ?_
    show Steps p.tables e below (T5.setTop (mkF m 63 #[vI p0, vI p1, vI p2, vI p3, vI p4, vI p5, vI v1, vI v6, vI v6, vI v7, vI v8, vI v9, .unset, .unset, .unset, .unset, .unset, .unset, .unset, .unset] [(.int (7 : Int32)), (.int ((p1.toUInt32 >>> ((3 : Int32) &&& 31).toUInt32).toInt32)), (.int v9)])) _
    refine XS.iand X5.here hx rfl (hb hby at_63) rfl ?_
    show Steps p.tables e below (T5.setTop (mkF m 64 #[vI p0, vI p1, vI p2, vI p3, vI p4, vI p5, vI v1, vI v6, vI v6, vI v7, vI v8, vI v9, .unset, .unset, .unset, .unset, .unset, .unset, .unset, .unset] [(.int (((p1.toUInt32 >>> ((3 : Int32) &&& 31).toUInt32).toInt32) &&& (7 : Int32))), (.int v9)])) _
    refine XS.iconst X5.here hx rfl (hb hby at_64) ?_
    show Steps p.tables e below (T5.setTop (mkF m 65 #[vI p0, vI p1, vI p2, vI p3, vI p4, vI p5, vI v1, vI v6, vI v6, vI v7, vI v8, vI v9, .unset, .unset, .unset, .unset, .unset, .unset, .unset, .unset] [(.int (1 : Int32)), (.int (((p1.toUInt32 >>> ((3 : Int32) &&& 31).toUInt32).toInt32) &&& (7 : Int32))), (.int v9)])) _
    refine XS.iadd X5.here hx rfl (hb hby at_65) rfl ?_
    show Steps p.tables e below (T5.setTop (mkF m 66 #[vI p0, vI p1, vI p2, vI p3, vI p4, vI p5, vI v1, vI v6, vI v6, vI v7, vI v8, vI v9, .unset, .unset, .unset, .unset, .unset, .unset, .unset, .unset] [(.int ((((p1.toUInt32 >>> ((3 : Int32) &&& 31).toUInt32).toInt32) &&& (7 : Int32)) + (1 : Int32))), (.int v9)])) _
    refine XS.iadd X5.here hx rfl (hb hby at_66) rfl ?_
    show Steps p.tables e below (T5.setTop (mkF m 67 #[vI p0, vI p1, vI p2, vI p3, vI p4, vI p5, vI v1, vI v6, vI v6, vI v7, vI v8, vI v9, .unset, .unset, .unset, .unset, .unset, .unset, .unset, .unset] [(.int (v9 + ((((p1.toUInt32 >>> ((3 : Int32) &&& 31).toUInt32).toInt32) &&& (7 : Int32)) + (1 : Int32))))])) _
    refine XS.istore X5.here hx rfl (hb hby at_67) rfl (l' := #[vI p0, vI p1, vI p2, vI p3, vI p4, vI p5, vI v1, vI v6, vI v6, vI v7, vI v8, vI v9, vI (v9 + ((((p1.toUInt32 >>> ((3 : Int32) &&& 31).toUInt32).toInt32) &&& (7 : Int32)) + (1 : Int32))), .unset, .unset, .unset, .unset, .unset, .unset, .unset]) rfl ?_
    show Steps p.tables e below (T5.setTop (mkF m 69 #[vI p0, vI p1, vI p2, vI p3, vI p4, vI p5, vI v1, vI v6, vI v6, vI v7, vI v8, vI v9, vI (v9 + ((((p1.toUInt32 >>> ((3 : Int32) &&& 31).toUInt32).toInt32) &&& (7 : Int32)) + (1 : Int32))), .unset, .unset, .unset, .unset, .unset, .unset, .unset] [])) _
    exact k)⟩
  have s3 := own_b s2.2 (by omega) hv10
  obtain ⟨v11, hv11, pre11⟩ : ∃ z : Int32, z = (v10 + (((p2.toUInt32 >>> ((6 : Int32) &&& 31).toUInt32).toInt32) &&& (7 : Int32))) ∧ Go p.tables e below S0 T5 (mkF m 81 #[vI p0, vI p1, vI p2, vI p3, vI p4, vI p5, vI v1, vI v6, vI v6, vI v7, vI v8, vI v9, vI v10, vI z, .unset, .unset, .unset, .unset, .unset, .unset] []) := ⟨_, rfl, fun t k => pre10 t (by
    refine XS.iload X5.here hx rfl (hb hby at_69) rfl ?_
    show Steps p.tables e below (T5.setTop (mkF m 71 #[vI p0, vI p1, vI p2, vI p3, vI p4, vI p5, vI v1, vI v6, vI v6, vI v7, vI v8, vI v9, vI v10, .unset, .unset, .unset, .unset, .unset, .unset, .unset] [(.int v10)])) _
    refine XS.iloadN X5.here hx rfl (hb hby at_71) rfl ?_
    show Steps p.tables e below (T5.setTop (mkF m 72 #[vI p0, vI p1, vI p2, vI p3, vI p4, vI p5, vI v1, vI v6, vI v6, vI v7, vI v8, vI v9, vI v10, .unset, .unset, .unset, .unset, .unset, .unset, .unset] [(.int p2), (.int v10)])) _
    refine XS.bipush X5.here hx rfl (hb hby at_72) ?_
    show Steps p.tables e below (T5.setTop (mkF m 74 #[vI p0, vI p1, vI p2, vI p3, vI p4, vI p5, vI v1, vI v6, vI v6, vI v7, vI v8, vI v9, vI v10, .unset, .unset, .unset, .unset, .unset, .unset, .unset] [(.int (6 : Int32)), (.int p2), (.int v10)])) _
    refine XS.iushr X5.here hx rfl (hb hby at_74) rfl ?_
    show Steps p.tables e below (T5.setTop (mkF m 75 #[vI p0, vI p1, vI p2, vI p3, vI p4, vI p5, vI v1, vI v6, vI v6, vI v7, vI v8, vI v9, vI v10, .unset, .unset, .unset, .unset, .unset, .unset, .unset] [(.int ((p2.toUInt32 >>> ((6 : Int32) &&& 31).toUInt32).toInt32)), (.int v10)])) _
    refine XS.bipush X5.here hx rfl (hb hby at_75) ?_
    show Steps p.tables e below (T5.setTop (mkF m 77 #[vI p0, vI p1, vI p2, vI p3, vI p4, vI p5, vI v1, vI v6, vI v6, vI v7, vI v8, vI v9, vI v10, .unset, .unset, .unset, .unset, .unset, .unset, .unset] [(.int (7 : Int32)), (.int ((p2.toUInt32 >>> ((6 : Int32) &&& 31).toUInt32).toInt32)), (.int v10)])) _
    refine XS.iand X5.here hx rfl (hb hby at_77) rfl ?_
    show Steps p.tables e below (T5.setTop (mkF m 78 #[vI p0, vI p1, vI p2, vI p3, vI p4, vI p5, vI v1, vI v6, vI v6, vI v7, vI v8, vI v9, vI v10, .unset, .unset, .unset, .unset, .unset, .unset, .unset] [(.int (((p2.toUInt32 >>> ((6 : Int32) &&& 31).toUInt32).toInt32) &&& (7 : Int32))), (.int v10)])) _
    refine XS.iadd X5.here hx rfl (hb hby at_78) rfl ?_
    show Steps p.tables e below (T5.setTop (mkF m 79 #[vI p0, vI p1, vI p2, vI p3, vI p4, vI p5, vI v1, vI v6, vI v6, vI v7, vI v8, vI v9, vI v10, .unset, .unset, .unset, .unset, .unset, .unset, .unset] [(.int (v10 + (((p2.toUInt32 >>> ((6 : Int32) &&& 31).toUInt32).toInt32) &&& (7 : Int32))))])) _
    refine XS.istore X5.here hx rfl (hb hby at_79) rfl (l' := #[vI p0, vI p1, vI p2, vI p3, vI p4, vI p5, vI v1, vI v6, vI v6, vI v7, vI v8, vI v9, vI v10, vI (v10 + (((p2.toUInt32 >>> ((6 : Int32) &&& 31).toUInt32).toInt32) &&& (7 : Int32))), .unset, .unset, .unset, .unset, .unset, .unset]) rfl ?_
    show Steps p.tables e below (T5.setTop (mkF m 81 #[vI p0, vI p1, vI p2, vI p3, vI p4, vI p5, vI v1, vI v6, vI v6, vI v7, vI v8, vI v9, vI v10, vI (v10 + (((p2.toUInt32 >>> ((6 : Int32) &&& 31).toUInt32).toInt32) &&& (7 : Int32))), .unset, .unset, .unset, .unset, .unset, .unset] [])) _
    exact k)⟩
  have s4 := own_a s3.2 (by omega) hv11
  have sorted3 := And.intro s0.1 (And.intro s1.1 (And.intro s2.1 (And.intro s3.1 (s4.1))))
  obtain ⟨v12, hv12, pre12⟩ : ∃ z : Int32, z = (v11 + ((((p1.toUInt32 >>> ((6 : Int32) &&& 31).toUInt32).toInt32) &&& (7 : Int32)) + (1 : Int32))) ∧ Go p.tables e below S0 T5 (mkF m 95 #[vI p0, vI p1, vI p2, vI p3, vI p4, vI p5, vI v1, vI v6, vI v6, vI v7, vI v8, vI v9, vI v10, vI v11, vI z, .unset, .unset, .unset, .unset, .unset] []) := ⟨_, rfl, fun t k => pre11 t (by
    refine XS.iload X5.here hx rfl (hb hby at_81) rfl ?_
    show Steps p.tables e below (T5.setTop (mkF m 83 #[vI p0, vI p1, vI p2, vI p3, vI p4, vI p5, vI v1, vI v6, vI v6, vI v7, vI v8, vI v9, vI v10, vI v11, .unset, .unset, .unset, .unset, .unset, .unset] [(.int v11)])) _
    refine XS.iloadN X5.here hx rfl (hb hby at_83) rfl ?_
    show Steps p.tables e below (T5.setTop (mkF m 84 #[vI p0, vI p1, vI p2, vI p3, vI p4, vI p5, vI v1, vI v6, vI v6, vI v7, vI v8, vI v9, vI v10, vI v11, .unset, .unset, .unset, .unset, .unset, .unset] [(.int p1), (.int v11)])) _
    refine XS.bipush X5.here hx rfl (hb hby at_84) ?_
    show Steps p.tables e below (T5.setTop (mkF m 86 #[vI p0, vI p1, vI p2, vI p3, vI p4, vI p5, vI v1, vI v6, vI v6, vI v7, vI v8, vI v9, vI v10, vI v11, .unset, .unset, .unset, .unset, .unset, .unset] [(.int (6 : Int32)), (.int p1), (.int v11)])) _
    refine XS.iushr X5.here hx rfl (hb hby at_86) rfl ?_
    show Steps p.tables e below (T5.setTop (mkF m 87 #[vI p0, vI p1, vI p2, vI p3, vI p4, vI p5, vI v1, vI v6, vI v6, vI v7, vI v8, vI v9, vI v10, vI v11, .unset, .unset, .unset, .unset, .unset, .unset] [(.int ((p1.toUInt32 >>> ((6 : Int32) &&& 31).toUInt32).toInt32)), (.int v11)])) _
    refine XS.bipush X5.here hx rfl (hb hby at_87) ?_
    show Steps p.tables e below (T5.setTop (mkF m 89 #[vI p0, vI p1, vI p2, vI p3, vI p4, vI p5, vI v1, vI v6, vI v6, vI v7, vI v8, vI v9, vI v10, vI v11, .unset, .unset, .unset, .unset, .unset, .unset] [(.int (7 : Int32)), (.int ((p1.toUInt32 >>> ((6 : Int32) &&& 31).toUInt32).toInt32)), (.int v11)])) _
    refine XS.iand X5.here hx rfl (hb hby at_89) rfl ?_
    show Steps p.tables e below (T5.setTop (mkF m 90 #[vI p0, vI p1, vI p2, vI p3, vI p4, vI p5, vI v1, vI v6, vI v6, vI v7, vI v8, vI v9, vI v10, vI v11, .unset, .unset, .unset, .unset, .unset, .unset] [(.int (((p1.toUInt32 >>> ((6 : Int32) &&& 31).toUInt32).toInt32) &&& (7 : Int32))), (.int v11)])) _
    refine XS.iconst X5.here hx rfl (hb hby at_90) ?_
    show Steps p.tables e below (T5.setTop (mkF m 91 #[vI p0, vI p1, vI p2, vI p3, vI p4, vI p5, vI v1, vI v6, vI v6, vI v7, vI v8, vI v9, vI v10, vI v11, .unset, .unset, .unset, .unset, .unset, .unset] [(.int (1 : Int32)), (.int (((p1.toUInt32 >>> ((6 : Int32) &&& 31).toUInt32).toInt32) &&& (7 : Int32))), (.int v11)])) _
    refine XS.iadd X5.here hx rfl (hb hby at_91) rfl ?_
    show Steps p.tables e below (T5.setTop (mkF m 92 #[vI p0, vI p1, vI p2, vI p3, vI p4, vI p5, vI v1, vI v6, vI v6, vI v7, vI v8, vI v9, vI v10, vI v11, .unset, .unset, .unset, .unset, .unset, .unset] [(.int ((((p1.toUInt32 >>> ((6 : Int32) &&& 31).toUInt32).toInt32) &&& (7 : Int32)) + (1 : Int32))), (.int v11)])) _
    refine XS.iadd X5.here hx rfl (hb hby at_92) rfl ?_
    show Steps p.tables e below (T5.setTop (mkF m 93 #[vI p0, vI p1, vI p2, vI p3, vI p4, vI p5, vI v1, vI v6, vI v6, vI v7, vI v8, vI v9, vI v10, vI v11, .unset, .unset, .unset, .unset, .unset, .unset] [(.int (v11 + ((((p1.toUInt32 >>> ((6 : Int32) &&& 31).toUInt32).toInt32) &&& (7 : Int32)) + (1 : Int32))))])) _
    refine XS.istore X5.here hx rfl (hb hby at_93) rfl (l' := #[vI p0, vI p1, vI p2, vI p3, vI p4, vI p5, vI v1, vI v6, vI v6, vI v7, vI v8, vI v9, vI v10, vI v11, vI (v11 + ((((p1.toUInt32 >>> ((6 : Int32) &&& 31).toUInt32).toInt32) &&& (7 : Int32)) + (1 : Int32))), .unset, .unset, .unset, .unset, .unset]) rfl ?_
    show Steps p.tables e below (T5.setTop (mkF m 95 #[vI p0, vI p1, vI p2, vI p3, vI p4, vI p5, vI v1, vI v6, vI v6, vI v7, vI v8, vI v9, vI v10, vI v11, vI (v11 + ((((p1.toUInt32 >>> ((6 : Int32) &&& 31).toUInt32).toInt32) &&& (7 : Int32)) + (1 : Int32))), .unset, .unset, .unset, .unset, .unset] [])) _
    exact k)⟩
  have s5 := own_b s4.2 (by omega) hv12
  obtain ⟨v13, hv13, pre13⟩ : ∃ z : Int32, z = (v12 + (((p2.toUInt32 >>> ((9 : Int32) &&& 31).toUInt32).toInt32) &&& (7 : Int32))) ∧ Go p.tables e below S0 T5 (mkF m 107 #[vI p0, vI p1, vI p2, vI p3, vI p4, vI p5, vI v1, vI v6, vI v6, vI v7, vI v8, vI v9, vI v10, vI v11, vI v12, vI z, .unset, .unset, .unset, .unset] []) := ⟨_, rfl, fun t k => pre12 t (by
    refine XS.iload X5.here hx rfl (hb hby at_95) rfl ?_
    show Steps p.tables e below (T5.setTop (mkF m 97 #[vI p0, vI p1, vI p2, vI p3, vI p4, vI p5, vI v1, vI v6, vI v6, vI v7, vI v8, vI v9, vI v10, vI v11, vI v12, .unset, .unset, .unset, .unset, .unset] [(.int v12)])) _
    refine XS.iloadN X5.here hx rfl (hb hby at_97) rfl ?_
    show Steps p.tables e below (T5.setTop (mkF m 98 #[vI p0, vI p1, vI p2, vI p3, vI p4, vI p5, vI v1, vI v6, vI v6, vI v7, vI v8, vI v9, vI v10, vI v11, vI v12, .unset, .unset, .unset, .unset, .unset] [(.int p2), (.int v12)])) _
    refine XS.bipush X5.here hx rfl (hb hby at_98) ?_
    show Steps p.tables e below (T5.setTop (mkF m 100 #[vI p0, vI p1, vI p2, vI p3, vI p4, vI p5, vI v1, vI v6, vI v6, vI v7, vI v8, vI v9, vI v10, vI v11, vI v12, .unset, .unset, .unset, .unset, .unset] [(.int (9 : Int32)), (.int p2), (.int v12)])) _
    refine XS.iushr X5.here hx rfl (hb hby at_100) rfl ?_
    show Steps p.tables e below (T5.setTop (mkF m 101 #[vI p0, vI p1, vI p2, vI p3, vI p4, vI p5, vI v1, vI v6, vI v6, vI v7, vI v8, vI v9, vI v10, vI v11, vI v12, .unset, .unset, .unset, .unset, .unset] [(.int ((p2.toUInt32 >>> ((9 : Int32) &&& 31).toUInt32).toInt32)), (.int v12)])) _
    refine XS.bipush X5.here hx rfl (hb hby at_101) ?_
    show Steps p.tables e below (T5.setTop (mkF m 103 #[vI p0, vI p1, vI p2, vI p3, vI p4, vI p5, vI v1, vI v6, vI v6, vI v7, vI v8, vI v9, vI v10, vI v11, vI v12, .unset, .unset, .unset, .unset, .unset] [(.int (7 : Int32)), (.int ((p2.toUInt32 >>> ((9 : Int32) &&& 31).toUInt32).toInt32)), (.int v12)])) _
    refine XS.iand X5.here hx rfl (hb hby at_103) rfl ?_
    show Steps p.tables e below (T5.setTop (mkF m 104 #[vI p0, vI p1, vI p2, vI p3, vI p4, vI p5, vI v1, vI v6, vI v6, vI v7, vI v8, vI v9, vI v10, vI v11, vI v12, .unset, .unset, .unset, .unset, .unset] [(.int (((p2.toUInt32 >>> ((9 : Int32) &&& 31).toUInt32).toInt32) &&& (7 : Int32))), (.int v12)])) _
    refine XS.iadd X5.here hx rfl (hb hby at_104) rfl ?_
    show Steps p.tables e below (T5.setTop (mkF m 105 #[vI p0, vI p1, vI p2, vI p3, vI p4, vI p5, vI v1, vI v6, vI v6, vI v7, vI v8, vI v9, vI v10, vI v11, vI v12, .unset, .unset, .unset, .unset, .unset] [(.int (v12 + (((p2.toUInt32 >>> ((9 : Int32) &&& 31).toUInt32).toInt32) &&& (7 : Int32))))])) _
    refine XS.istore X5.here hx rfl (hb hby at_105) rfl (l' := #[vI p0, vI p1, vI p2, vI p3, vI p4, vI p5, vI v1, vI v6, vI v6, vI v7, vI v8, vI v9, vI v10, vI v11, vI v12, vI (v12 + (((p2.toUInt32 >>> ((9 : Int32) &&& 31).toUInt32).toInt32) &&& (7 : Int32))), .unset, .unset, .unset, .unset]) rfl ?_
    show Steps p.tables e below (T5.setTop (mkF m 107 #[vI p0, vI p1, vI p2, vI p3, vI p4, vI p5, vI v1, vI v6, vI v6, vI v7, vI v8, vI v9, vI v10, vI v11, vI v12, vI (v12 + (((p2.toUInt32 >>> ((9 : Int32) &&& 31).toUInt32).toInt32) &&& (7 : Int32))), .unset, .unset, .unset, .unset] [])) _
    exact k)⟩
  have s6 := own_a s5.2 (by omega) hv13
  have sorted4 := And.intro s0.1 (And.intro s1.1 (And.intro s2.1 (And.intro s3.1 (And.intro s4.1 (And.intro s5.1 (s6.1))))))
  rcases own_k hv1 with rfl | rfl | rfl | rfl | rfl
  · skip
    have pre14 : Go p.tables e below S0 T5 (mkF m 113 #[vI p0, vI p1, vI p2, vI p3, vI p4, vI p5, vI (0 : Int32), vI v6, vI v6, vI v7, vI v8, vI v9, vI v10, vI v11, vI v12, vI v13, .unset, .unset, .unset, .unset] [(.int (0 : Int32))]) := fun t k => pre13 t (by
      refine XS.iload X5.here hx rfl (hb hby at_107) rfl ?_
      show Steps p.tables e below (T5.setTop (mkF m 109 #[vI p0, vI p1, vI p2, vI p3, vI p4, vI p5, vI (0 : Int32), vI v6, vI v6, vI v7, vI v8, vI v9, vI v10, vI v11, vI v12, vI v13, .unset, .unset, .unset, .unset] [(.int (0 : Int32))])) _
      refine XS.ifNo X5.here hx rfl (hb hby at_109) rfl ((if0 _ _).trans (teq (rfl : (0 : Int32) = (0 : Int32))).2) ?_
      show Steps p.tables e below (T5.setTop (mkF m 112 #[vI p0, vI p1, vI p2, vI p3, vI p4, vI p5, vI (0 : Int32), vI v6, vI v6, vI v7, vI v8, vI v9, vI v10, vI v11, vI v12, vI v13, .unset, .unset, .unset, .unset] [])) _
      refine XS.iconst X5.here hx rfl (hb hby at_112) ?_
      show Steps p.tables e below (T5.setTop (mkF m 113 #[vI p0, vI p1, vI p2, vI p3, vI p4, vI p5, vI (0 : Int32), vI v6, vI v6, vI v7, vI v8, vI v9, vI v10, vI v11, vI v12, vI v13, .unset, .unset, .unset, .unset] [(.int (0 : Int32))])) _
      exact k)
    obtain ⟨T15, h15, kA15, X15, e15, E15, A15, st15⟩ := newP X5 hx hZ (hw _ (List.mem_of_getElem? (i := 9) rfl)) eq5 (g := (mkF m 113 #[vI p0, vI p1, vI p2, vI p3, vI p4, vI p5, vI (0 : Int32), vI v6, vI v6, vI v7, vI v8, vI v9, vI v10, vI v11, vI v12, vI v13, .unset, .unset, .unset, .unset] [(.int (0 : Int32))])) rfl (hb hby at_113) rfl (by decide) (cap := 0) (by decide) (by decide) (by decide) (by decide)
    obtain ⟨b15, g15⟩ : ∃ z, z = h0.size := ⟨_, rfl⟩
    rw [← g15] at A15 st15
    have pre15 : Go p.tables e below S0 T15 (mkF m 115 #[vI p0, vI p1, vI p2, vI p3, vI p4, vI p5, vI (0 : Int32), vI v6, vI v6, vI v7, vI v8, vI v9, vI v10, vI v11, vI v12, vI v13, .unset, .unset, .unset, .unset] [(.ref b15)]) := fun t k => pre14 t (st15 t k)
    have bo15 : n0 ≤ b15 := Nat.le_trans Z0 (Nat.le_of_eq g15.symm)
    have zz17 : n0 ≤ h15.size := Nat.le_trans Z0 E15.1
    have av15 : Arv Z h15 b15 kA15 .int (0 : Int32) [] (.int (0 : Int32)) := Arv.new A15 (by decide)
    have pre18 : Go p.tables e below S0 T15 (mkF m 275 #[vI p0, vI p1, vI p2, vI p3, vI p4, vI p5, vI (0 : Int32), vI v6, vI v6, vI v7, vI v8, vI v9, vI v10, vI v11, vI v12, vI v13, vR b15, .unset, .unset, .unset] [(.int (p5 &&& (1 : Int32)))]) := fun t k => pre15 t (by
      refine XS.astore X15.here hx rfl (hb hby at_115) rfl rfl (l' := #[vI p0, vI p1, vI p2, vI p3, vI p4, vI p5, vI (0 : Int32), vI v6, vI v6, vI v7, vI v8, vI v9, vI v10, vI v11, vI v12, vI v13, vR b15, .unset, .unset, .unset]) rfl ?_
      show Steps p.tables e below (T15.setTop (mkF m 117 #[vI p0, vI p1, vI p2, vI p3, vI p4, vI p5, vI (0 : Int32), vI v6, vI v6, vI v7, vI v8, vI v9, vI v10, vI v11, vI v12, vI v13, vR b15, .unset, .unset, .unset] [])) _
      refine XS.goto X15.here hx rfl (pc0 := 117) (pc' := 271) rfl (hb hby at_117) (by decide) (by decide) ?_
      show Steps p.tables e below (T15.setTop (mkF m 271 #[vI p0, vI p1, vI p2, vI p3, vI p4, vI p5, vI (0 : Int32), vI v6, vI v6, vI v7, vI v8, vI v9, vI v10, vI v11, vI v12, vI v13, vR b15, .unset, .unset, .unset] [])) _
      refine XS.iload X15.here hx rfl (hb hby at_271) rfl ?_
      show Steps p.tables e below (T15.setTop (mkF m 273 #[vI p0, vI p1, vI p2, vI p3, vI p4, vI p5, vI (0 : Int32), vI v6, vI v6, vI v7, vI v8, vI v9, vI v10, vI v11, vI v12, vI v13, vR b15, .unset, .unset, .unset] [(.int p5)])) _
      refine XS.iconst X15.here hx rfl (hb hby at_273) ?_
      show Steps p.tables e below (T15.setTop (mkF m 274 #[vI p0, vI p1, vI p2, vI p3, vI p4, vI p5, vI (0 : Int32), vI v6, vI v6, vI v7, vI v8, vI v9, vI v10, vI v11, vI v12, vI v13, vR b15, .unset, .unset, .unset] [(.int (1 : Int32)), (.int p5)])) _
      refine XS.iand X15.here hx rfl (hb hby at_274) rfl ?_
      show Steps p.tables e below (T15.setTop (mkF m 275 #[vI p0, vI p1, vI p2, vI p3, vI p4, vI p5, vI (0 : Int32), vI v6, vI v6, vI v7, vI v8, vI v9, vI v10, vI v11, vI v12, vI v13, vR b15, .unset, .unset, .unset] [(.int (p5 &&& (1 : Int32)))])) _
      exact k)
    refine cps (A := ∃ (j293_s0_22 : Int32), (Go p.tables e below S0 T15 (mkF m 293 #[vI p0, vI p1, vI p2, vI p3, vI p4, vI p5, vI (0 : Int32), vI v6, vI v6, vI v7, vI v8, vI v9, vI v10, vI v11, vI v12, vI v13, vR b15, .unset, .unset, .unset] [(.int j293_s0_22)]))) (fun tail24 => ?_) ?_
    · skip
      by_cases c275_19 : (p5 &&& (1 : Int32)) = (0 : Int32)
      · skip
        have pre20 : Go p.tables e below S0 T15 (mkF m 293 #[vI p0, vI p1, vI p2, vI p3, vI p4, vI p5, vI (0 : Int32), vI v6, vI v6, vI v7, vI v8, vI v9, vI v10, vI v11, vI v12, vI v13, vR b15, .unset, .unset, .unset] [(.int ((v6 + (p4 &&& (63 : Int32))) - (4 : Int32)))]) := fun t k => pre18 t (by
          refine XS.ifYes X15.here hx rfl (pc0 := 275) (pc' := 283) rfl (hb hby at_275) rfl ((if0 _ _).trans (teq c275_19).1) (by decide) (by decide) ?_
          show Steps p.tables e below (T15.setTop (mkF m 283 #[vI p0, vI p1, vI p2, vI p3, vI p4, vI p5, vI (0 : Int32), vI v6, vI v6, vI v7, vI v8, vI v9, vI v10, vI v11, vI v12, vI v13, vR b15, .unset, .unset, .unset] [])) _
          refine XS.iload X15.here hx rfl (hb hby at_283) rfl ?_
          show Steps p.tables e below (T15.setTop (mkF m 285 #[vI p0, vI p1, vI p2, vI p3, vI p4, vI p5, vI (0 : Int32), vI v6, vI v6, vI v7, vI v8, vI v9, vI v10, vI v11, vI v12, vI v13, vR b15, .unset, .unset, .unset] [(.int v6)])) _
          refine XS.iload X15.here hx rfl (hb hby at_285) rfl ?_
          show Steps p.tables e below (T15.setTop (mkF m 287 #[vI p0, vI p1, vI p2, vI p3, vI p4, vI p5, vI (0 : Int32), vI v6, vI v6, vI v7, vI v8, vI v9, vI v10, vI v11, vI v12, vI v13, vR b15, .unset, .unset, .unset] [(.int p4), (.int v6)])) _
          refine XS.bipush X15.here hx rfl (hb hby at_287) ?_
          show Steps p.tables e below (T15.setTop (mkF m 289 #[vI p0, vI p1, vI p2, vI p3, vI p4, vI p5, vI (0 : Int32), vI v6, vI v6, vI v7, vI v8, vI v9, vI v10, vI v11, vI v12, vI v13, vR b15, .unset, .unset, .unset] [(.int (63 : Int32)), (.int p4), (.int v6)])) _
          refine XS.iand X15.here hx rfl (hb hby at_289) rfl ?_
          show Steps p.tables e below (T15.setTop (mkF m 290 #[vI p0, vI p1, vI p2, vI p3, vI p4, vI p5, vI (0 : Int32), vI v6, vI v6, vI v7, vI v8, vI v9, vI v10, vI v11, vI v12, vI v13, vR b15, .unset, .unset, .unset] [(.int (p4 &&& (63 : Int32))), (.int v6)])) _
          refine XS.iadd X15.here hx rfl (hb hby at_290) rfl ?_
          show Steps p.tables e below (T15.setTop (mkF m 291 #[vI p0, vI p1, vI p2, vI p3, vI p4, vI p5, vI (0 : Int32), vI v6, vI v6, vI v7, vI v8, vI v9, vI v10, vI v11, vI v12, vI v13, vR b15, .unset, .unset, .unset] [(.int (v6 + (p4 &&& (63 : Int32))))])) _
          refine XS.iconst X15.here hx rfl (hb hby at_291) ?_
          show Steps p.tables e below (T15.setTop (mkF m 292 #[vI p0, vI p1, vI p2, vI p3, vI p4, vI p5, vI (0 : Int32), vI v6, vI v6, vI v7, vI v8, vI v9, vI v10, vI v11, vI v12, vI v13, vR b15, .unset, .unset, .unset] [(.int (4 : Int32)), (.int (v6 + (p4 &&& (63 : Int32))))])) _
          refine XS.isub X15.here hx rfl (hb hby at_292) rfl ?_
          show Steps p.tables e below (T15.setTop (mkF m 293 #[vI p0, vI p1, vI p2, vI p3, vI p4, vI p5, vI (0 : Int32), vI v6, vI v6, vI v7, vI v8, vI v9, vI v10, vI v11, vI v12, vI v13, vR b15, .unset, .unset, .unset] [(.int ((v6 + (p4 &&& (63 : Int32))) - (4 : Int32)))])) _
          exact k)
        exact tail24 ⟨((v6 + (p4 &&& (63 : Int32))) - (4 : Int32)), pre20⟩
      · skip
        have pre21 : Go p.tables e below S0 T15 (mkF m 293 #[vI p0, vI p1, vI p2, vI p3, vI p4, vI p5, vI (0 : Int32), vI v6, vI v6, vI v7, vI v8, vI v9, vI v10, vI v11, vI v12, vI v13, vR b15, .unset, .unset, .unset] [(.int p4)]) := fun t k => pre18 t (by
          refine XS.ifNo X15.here hx rfl (hb hby at_275) rfl ((if0 _ _).trans (feq c275_19).1) ?_
          show Steps p.tables e below (T15.setTop (mkF m 278 #[vI p0, vI p1, vI p2, vI p3, vI p4, vI p5, vI (0 : Int32), vI v6, vI v6, vI v7, vI v8, vI v9, vI v10, vI v11, vI v12, vI v13, vR b15, .unset, .unset, .unset] [])) _
          refine XS.iload X15.here hx rfl (hb hby at_278) rfl ?_
          show Steps p.tables e below (T15.setTop (mkF m 280 #[vI p0, vI p1, vI p2, vI p3, vI p4, vI p5, vI (0 : Int32), vI v6, vI v6, vI v7, vI v8, vI v9, vI v10, vI v11, vI v12, vI v13, vR b15, .unset, .unset, .unset] [(.int p4)])) _
          refine XS.goto X15.here hx rfl (pc0 := 280) (pc' := 293) rfl (hb hby at_280) (by decide) (by decide) ?_
          show Steps p.tables e below (T15.setTop (mkF m 293 #[vI p0, vI p1, vI p2, vI p3, vI p4, vI p5, vI (0 : Int32), vI v6, vI v6, vI v7, vI v8, vI v9, vI v10, vI v11, vI v12, vI v13, vR b15, .unset, .unset, .unset] [(.int p4)])) _
          exact k)
        exact tail24 ⟨p4, pre21⟩
    rintro ⟨j293_s0_22, pre23⟩
    have pre25 : Go p.tables e below S0 T15 (mkF m 295 #[vI p0, vI p1, vI p2, vI p3, vI p4, vI p5, vI (0 : Int32), vI v6, vI v6, vI v7, vI v8, vI v9, vI v10, vI v11, vI v12, vI v13, vR b15, vI j293_s0_22, .unset, .unset] []) := fun t k => pre23 t (by
      refine XS.istore X15.here hx rfl (hb hby at_293) rfl (l' := #[vI p0, vI p1, vI p2, vI p3, vI p4, vI p5, vI (0 : Int32), vI v6, vI v6, vI v7, vI v8, vI v9, vI v10, vI v11, vI v12, vI v13, vR b15, vI j293_s0_22, .unset, .unset]) rfl ?_
      show Steps p.tables e below (T15.setTop (mkF m 295 #[vI p0, vI p1, vI p2, vI p3, vI p4, vI p5, vI (0 : Int32), vI v6, vI v6, vI v7, vI v8, vI v9, vI v10, vI v11, vI v12, vI v13, vR b15, vI j293_s0_22, .unset, .unset] [])) _
      exact k)
    obtain ⟨T26, h26, X26, e26, E26, A26, D26, -, st26⟩ := newO X15 hx hZ hown (hw _ (List.mem_of_getElem? (i := 10) rfl)) (hw _ (List.mem_of_getElem? (i := 11) rfl)) (hw _ (List.mem_of_getElem? (i := 12) rfl)) e15 (g := (mkF m 295 #[vI p0, vI p1, vI p2, vI p3, vI p4, vI p5, vI (0 : Int32), vI v6, vI v6, vI v7, vI v8, vI v9, vI v10, vI v11, vI v12, vI v13, vR b15, vI j293_s0_22, .unset, .unset] [])) rfl (hb hby at_295) (by decide) (by decide)
    obtain ⟨b26, g26⟩ : ∃ z, z = h15.size := ⟨_, rfl⟩
    rw [← g26] at A26 D26 st26
    have pre26 : Go p.tables e below S0 T26 (mkF m 298 #[vI p0, vI p1, vI p2, vI p3, vI p4, vI p5, vI (0 : Int32), vI v6, vI v6, vI v7, vI v8, vI v9, vI v10, vI v11, vI v12, vI v13, vR b15, vI j293_s0_22, .unset, .unset] [(.ref b26)]) := fun t k => pre25 t (st26 t k)
    have ne27 : b15 ≠ b26 := Nat.ne_of_lt (Nat.lt_of_lt_of_le av15.lt (Nat.le_of_eq g26.symm))
    have bo26 : n0 ≤ b26 := Nat.le_trans zz17 (Nat.le_of_eq g26.symm)
    have f28_1 := av15.ext E26
    have zz29 : n0 ≤ h26.size := Nat.le_trans zz17 E26.1
    have fn26_ranges : Fld Z h26 b26 "com/example/attest/attest/metadata/ScopeSyntax$Chars" "ranges" "[I" .null := D26 (Or.inr (hw _ (List.mem_of_getElem? (i := 25) rfl))) (ty := (.array .int)) (by decide)
    have pre30 : Go p.tables e below S0 T26 (mkF m 301 #[vI p0, vI p1, vI p2, vI p3, vI p4, vI p5, vI (0 : Int32), vI v6, vI v6, vI v7, vI v8, vI v9, vI v10, vI v11, vI v12, vI v13, vR b15, vI j293_s0_22, .unset, .unset] [(.ref b15), (.ref b26), (.ref b26)]) := fun t k => pre26 t (by
      refine XS.dup X26.here hx rfl (hb hby at_298) rfl rfl ?_
      show Steps p.tables e below (T26.setTop (mkF m 299 #[vI p0, vI p1, vI p2, vI p3, vI p4, vI p5, vI (0 : Int32), vI v6, vI v6, vI v7, vI v8, vI v9, vI v10, vI v11, vI v12, vI v13, vR b15, vI j293_s0_22, .unset, .unset] [(.ref b26), (.ref b26)])) _
      refine XS.aload X26.here hx rfl (hb hby at_299) rfl rfl ?_
      show Steps p.tables e below (T26.setTop (mkF m 301 #[vI p0, vI p1, vI p2, vI p3, vI p4, vI p5, vI (0 : Int32), vI v6, vI v6, vI v7, vI v8, vI v9, vI v10, vI v11, vI v12, vI v13, vR b15, vI j293_s0_22, .unset, .unset] [(.ref b15), (.ref b26), (.ref b26)])) _
      exact k)
    obtain ⟨_, _, ⟨T31, qL31, qk31, qn31⟩, -, X31, ⟨Lc31, hQ31, ql31, qy31, qz31⟩, st31⟩ := X26.specialBack hx (y := (⟨"com/example/attest/attest/metadata/ScopeSyntax$Chars", "<init>", "([I)V"⟩ : MethodName)) rfl hown (mvT hZ (hw _ (List.mem_of_getElem? (i := 13) rfl))) (mvT hZ (hw _ (List.mem_of_getElem? (i := 14) rfl))) (mvT hZ (hw _ (List.mem_of_getElem? (i := 15) rfl))) (by decide) (backOf (W := 1) (rm3 l Z A0 hw [] b26 b15 h26 n0 zz29 A26 fn26_ranges bo26) hZ (hw _ (List.mem_of_getElem? (i := 15) rfl)) (hw _ (List.mem_of_getElem? (i := 12) rfl)) (by decide) (by decide)) (g := (mkF m 301 #[vI p0, vI p1, vI p2, vI p3, vI p4, vI p5, vI (0 : Int32), vI v6, vI v6, vI v7, vI v8, vI v9, vI v10, vI v11, vI v12, vI v13, vR b15, vI j293_s0_22, .unset, .unset] [(.ref b15), (.ref b26), (.ref b26)])) rfl (by rw [hml]; rfl) (Steps.refl _) (a := b26) (argsL := [(.ref b15)]) (rest := [(.ref b26)]) (lenOf pd_2 rfl) rfl (by show 2 * 0 + _ ≤ _; exact Nat.le_of_eq rfl) (hb hby at_301) (fun _ _ => ⟨rfl, e26, (by decide : 2 + 0 ≤ _), (by decide : 1 + 0 ≤ _)⟩)
    dsimp only [Pt.U, Pt.locs, Pt.cells, Pt.slots] at X31 ql31 qy31 qz31 st31 hQ31
    subst ql31 qy31 qz31
    obtain ⟨rfl, Nq31, Kq31, nf31_0, nf31_1⟩ := hQ31
    have N31 := Fr.app N5 Nq31
    have pre31 : Go p.tables e below S0 T31 (mkF m 304 #[vI p0, vI p1, vI p2, vI p3, vI p4, vI p5, vI (0 : Int32), vI v6, vI v6, vI v7, vI v8, vI v9, vI v10, vI v11, vI v12, vI v13, vR b15, vI j293_s0_22, .unset, .unset] [(.ref b26)]) := fun t k => pre30 t (st31.trans k)
    have f32_1 := f28_1.keep Kq31 (ninS ne27 nin0)
    have zz33 : n0 ≤ T31.heap.size := Nat.le_trans zz29 Kq31.1
    have pre34 : Go p.tables e below S0 T31 (mkF m 306 #[vI p0, vI p1, vI p2, vI p3, vI p4, vI p5, vI (0 : Int32), vI v6, vI v6, vI v7, vI v8, vI v9, vI v10, vI v11, vI v12, vI v13, vR b15, vI j293_s0_22, .unset, .unset] [(.int j293_s0_22), (.ref b26)]) := fun t k => pre31 t (by
      refine XS.iload X31.here hx rfl (hb hby at_304) rfl ?_
      show Steps p.tables e below (T31.setTop (mkF m 306 #[vI p0, vI p1, vI p2, vI p3, vI p4, vI p5, vI (0 : Int32), vI v6, vI v6, vI v7, vI v8, vI v9, vI v10, vI v11, vI v12, vI v13, vR b15, vI j293_s0_22, .unset, .unset] [(.int j293_s0_22), (.ref b26)])) _
      exact k)
    obtain ⟨cq35, kq35, qa35, qb35, qc35⟩ := isOf hZ rfl nf31_0
    obtain ⟨_, _, ⟨T35, qL35, qk35, qn35⟩, -, X35, ⟨Lc35, hQ35, ql35, qy35, qz35⟩, st35⟩ := X31.virtualBack hx (y := (⟨"com/example/attest/attest/metadata/ScopeSyntax$Chars", "contains", "(I)Z"⟩ : MethodName)) (z := (⟨"com/example/attest/attest/metadata/ScopeSyntax$Chars", "contains", "(I)Z"⟩ : MethodName)) hown (mvT hZ (hw _ (List.mem_of_getElem? (i := 26) rfl))) (mvT hZ (hw _ (List.mem_of_getElem? (i := 27) rfl))) (notFace_of_selects (args := #[]) (mvT hZ (hw _ (List.mem_of_getElem? (i := 29) rfl)))) (mvT hZ (hw _ (List.mem_of_getElem? (i := 29) rfl))) (mvT hZ (hw _ (List.mem_of_getElem? (i := 28) rfl))) (by decide) (backOf (W := 0) (rm6_0 l Z A0 hw [] b26 j293_s0_22 b15 kA15 T31.heap n0 zz33 nf31_1 f32_1) hZ (hw _ (List.mem_of_getElem? (i := 30) rfl)) (hw _ (List.mem_of_getElem? (i := 12) rfl)) (by decide) (by decide)) qa35 qc35 (g := (mkF m 306 #[vI p0, vI p1, vI p2, vI p3, vI p4, vI p5, vI (0 : Int32), vI v6, vI v6, vI v7, vI v8, vI v9, vI v10, vI v11, vI v12, vI v13, vR b15, vI j293_s0_22, .unset, .unset] [(.int j293_s0_22), (.ref b26)])) rfl (by rw [hml]; rfl) (Steps.refl _) (argsL := [(.int j293_s0_22)]) (rest := []) (lenOf pd_3 rfl) rfl (by show 2 * 0 + _ ≤ _; exact Nat.le_of_eq rfl) (hb hby at_306) (fun _ _ => ⟨rfl, rfl, (by decide : 2 + 0 ≤ _), (by decide : 1 + 0 ≤ _)⟩)
    dsimp only [Pt.U, Pt.locs, Pt.cells, Pt.slots] at X35 ql35 qy35 qz35 st35 hQ35
    subst ql35 qy35 qz35
    obtain ⟨rfl, Nq35, eq35⟩ := hQ35
    have N35 := Fr.app N31 Nq35
    have pre35 : Go p.tables e below S0 T35 (mkF m 309 #[vI p0, vI p1, vI p2, vI p3, vI p4, vI p5, vI (0 : Int32), vI v6, vI v6, vI v7, vI v8, vI v9, vI v10, vI v11, vI v12, vI v13, vR b15, vI j293_s0_22, .unset, .unset] [(.int (own_in0 j293_s0_22))]) := fun t k => pre34 t (st35.trans k)
    have pre36 : Go p.tables e below S0 T35 (mkF m 401 #[vI p0, vI p1, vI p2, vI p3, vI p4, vI p5, vI (0 : Int32), vI v6, vI v6, vI v7, vI v8, vI v9, vI v10, vI v11, vI v12, vI v13, vR b15, vI j293_s0_22, vI (own_in0 j293_s0_22), vI (0 : Int32)] [(.int (0 : Int32)), (.int (own_in0 j293_s0_22))]) := fun t k => pre35 t (by
      refine XS.istore X35.here hx rfl (hb hby at_309) rfl (l' := #[vI p0, vI p1, vI p2, vI p3, vI p4, vI p5, vI (0 : Int32), vI v6, vI v6, vI v7, vI v8, vI v9, vI v10, vI v11, vI v12, vI v13, vR b15, vI j293_s0_22, vI (own_in0 j293_s0_22), .unset]) rfl ?_
      show Steps p.tables e below (T35.setTop (mkF m 311 #[vI p0, vI p1, vI p2, vI p3, vI p4, vI p5, vI (0 : Int32), vI v6, vI v6, vI v7, vI v8, vI v9, vI v10, vI v11, vI v12, vI v13, vR b15, vI j293_s0_22, vI (own_in0 j293_s0_22), .unset] [])) _
      refine XS.iload X35.here hx rfl (hb hby at_311) rfl ?_
      show Steps p.tables e below (T35.setTop (mkF m 313 #[vI p0, vI p1, vI p2, vI p3, vI p4, vI p5, vI (0 : Int32), vI v6, vI v6, vI v7, vI v8, vI v9, vI v10, vI v11, vI v12, vI v13, vR b15, vI j293_s0_22, vI (own_in0 j293_s0_22), .unset] [(.int (0 : Int32))])) _
      refine XS.ifYes X35.here hx rfl (pc0 := 313) (pc' := 330) rfl (hb hby at_313) rfl ((if0 _ _).trans (flt (by decide : ¬ ((0 : Int32) < (0 : Int32)))).2.2.2) (by decide) (by decide) ?_
      show Steps p.tables e below (T35.setTop (mkF m 330 #[vI p0, vI p1, vI p2, vI p3, vI p4, vI p5, vI (0 : Int32), vI v6, vI v6, vI v7, vI v8, vI v9, vI v10, vI v11, vI v12, vI v13, vR b15, vI j293_s0_22, vI (own_in0 j293_s0_22), .unset] [])) _
      refine XS.iload X35.here hx rfl (hb hby at_330) rfl ?_
      show Steps p.tables e below (T35.setTop (mkF m 332 #[vI p0, vI p1, vI p2, vI p3, vI p4, vI p5, vI (0 : Int32), vI v6, vI v6, vI v7, vI v8, vI v9, vI v10, vI v11, vI v12, vI v13, vR b15, vI j293_s0_22, vI (own_in0 j293_s0_22), .unset] [(.int (0 : Int32))])) _
      refine XS.iconst X35.here hx rfl (hb hby at_332) ?_
      show Steps p.tables e below (T35.setTop (mkF m 333 #[vI p0, vI p1, vI p2, vI p3, vI p4, vI p5, vI (0 : Int32), vI v6, vI v6, vI v7, vI v8, vI v9, vI v10, vI v11, vI v12, vI v13, vR b15, vI j293_s0_22, vI (own_in0 j293_s0_22), .unset] [(.int (1 : Int32)), (.int (0 : Int32))])) _
      refine XS.icmpYes X35.here hx rfl (pc0 := 333) (pc' := 350) rfl (hb hby at_333) rfl (flt (by decide : ¬ ((1 : Int32) < (0 : Int32)))).2.2.2 (by decide) (by decide) ?_
      show Steps p.tables e below (T35.setTop (mkF m 350 #[vI p0, vI p1, vI p2, vI p3, vI p4, vI p5, vI (0 : Int32), vI v6, vI v6, vI v7, vI v8, vI v9, vI v10, vI v11, vI v12, vI v13, vR b15, vI j293_s0_22, vI (own_in0 j293_s0_22), .unset] [])) _
      refine XS.iload X35.here hx rfl (hb hby at_350) rfl ?_
      show Steps p.tables e below (T35.setTop (mkF m 352 #[vI p0, vI p1, vI p2, vI p3, vI p4, vI p5, vI (0 : Int32), vI v6, vI v6, vI v7, vI v8, vI v9, vI v10, vI v11, vI v12, vI v13, vR b15, vI j293_s0_22, vI (own_in0 j293_s0_22), .unset] [(.int (0 : Int32))])) _
      refine XS.iconst X35.here hx rfl (hb hby at_352) ?_
      show Steps p.tables e below (T35.setTop (mkF m 353 #[vI p0, vI p1, vI p2, vI p3, vI p4, vI p5, vI (0 : Int32), vI v6, vI v6, vI v7, vI v8, vI v9, vI v10, vI v11, vI v12, vI v13, vR b15, vI j293_s0_22, vI (own_in0 j293_s0_22), .unset] [(.int (2 : Int32)), (.int (0 : Int32))])) _
      refine XS.icmpYes X35.here hx rfl (pc0 := 353) (pc' := 370) rfl (hb hby at_353) rfl (flt (by decide : ¬ ((2 : Int32) < (0 : Int32)))).2.2.2 (by decide) (by decide) ?_
      show Steps p.tables e below (T35.setTop (mkF m 370 #[vI p0, vI p1, vI p2, vI p3, vI p4, vI p5, vI (0 : Int32), vI v6, vI v6, vI v7, vI v8, vI v9, vI v10, vI v11, vI v12, vI v13, vR b15, vI j293_s0_22, vI (own_in0 j293_s0_22), .unset] [])) _
      refine XS.iload X35.here hx rfl (hb hby at_370) rfl ?_
      show Steps p.tables e below (T35.setTop (mkF m 372 #[vI p0, vI p1, vI p2, vI p3, vI p4, vI p5, vI (0 : Int32), vI v6, vI v6, vI v7, vI v8, vI v9, vI v10, vI v11, vI v12, vI v13, vR b15, vI j293_s0_22, vI (own_in0 j293_s0_22), .unset] [(.int (0 : Int32))])) _
      refine XS.iconst X35.here hx rfl (hb hby at_372) ?_
      show Steps p.tables e below (T35.setTop (mkF m 373 #[vI p0, vI p1, vI p2, vI p3, vI p4, vI p5, vI (0 : Int32), vI v6, vI v6, vI v7, vI v8, vI v9, vI v10, vI v11, vI v12, vI v13, vR b15, vI j293_s0_22, vI (own_in0 j293_s0_22), .unset] [(.int (3 : Int32)), (.int (0 : Int32))])) _
      refine XS.icmpYes X35.here hx rfl (pc0 := 373) (pc' := 394) rfl (hb hby at_373) rfl (flt (by decide : ¬ ((3 : Int32) < (0 : Int32)))).2.2.2 (by decide) (by decide) ?_
      show Steps p.tables e below (T35.setTop (mkF m 394 #[vI p0, vI p1, vI p2, vI p3, vI p4, vI p5, vI (0 : Int32), vI v6, vI v6, vI v7, vI v8, vI v9, vI v10, vI v11, vI v12, vI v13, vR b15, vI j293_s0_22, vI (own_in0 j293_s0_22), .unset] [])) _
      refine XS.iconst X35.here hx rfl (hb hby at_394) ?_
      show Steps p.tables e below (T35.setTop (mkF m 395 #[vI p0, vI p1, vI p2, vI p3, vI p4, vI p5, vI (0 : Int32), vI v6, vI v6, vI v7, vI v8, vI v9, vI v10, vI v11, vI v12, vI v13, vR b15, vI j293_s0_22, vI (own_in0 j293_s0_22), .unset] [(.int (0 : Int32))])) _
      refine XS.istore X35.here hx rfl (hb hby at_395) rfl (l' := #[vI p0, vI p1, vI p2, vI p3, vI p4, vI p5, vI (0 : Int32), vI v6, vI v6, vI v7, vI v8, vI v9, vI v10, vI v11, vI v12, vI v13, vR b15, vI j293_s0_22, vI (own_in0 j293_s0_22), vI (0 : Int32)]) rfl ?_
      show Steps p.tables e below (T35.setTop (mkF m 397 #[vI p0, vI p1, vI p2, vI p3, vI p4, vI p5, vI (0 : Int32), vI v6, vI v6, vI v7, vI v8, vI v9, vI v10, vI v11, vI v12, vI v13, vR b15, vI j293_s0_22, vI (own_in0 j293_s0_22), vI (0 : Int32)] [])) _
      refine XS.iload X35.here hx rfl (hb hby at_397) rfl ?_
      show Steps p.tables e below (T35.setTop (mkF m 399 #[vI p0, vI p1, vI p2, vI p3, vI p4, vI p5, vI (0 : Int32), vI v6, vI v6, vI v7, vI v8, vI v9, vI v10, vI v11, vI v12, vI v13, vR b15, vI j293_s0_22, vI (own_in0 j293_s0_22), vI (0 : Int32)] [(.int (own_in0 j293_s0_22))])) _
      refine XS.iload X35.here hx rfl (hb hby at_399) rfl ?_
      show Steps p.tables e below (T35.setTop (mkF m 401 #[vI p0, vI p1, vI p2, vI p3, vI p4, vI p5, vI (0 : Int32), vI v6, vI v6, vI v7, vI v8, vI v9, vI v10, vI v11, vI v12, vI v13, vR b15, vI j293_s0_22, vI (own_in0 j293_s0_22), vI (0 : Int32)] [(.int (0 : Int32)), (.int (own_in0 j293_s0_22))])) _
      exact k)
    have cc37 : (own_in0 j293_s0_22) = (0 : Int32) := rfl
    have pre38 : Go p.tables e below S0 T35 (mkF m 409 #[vI p0, vI p1, vI p2, vI p3, vI p4, vI p5, vI (0 : Int32), vI v6, vI v6, vI v7, vI v8, vI v9, vI v10, vI v11, vI v12, vI v13, vR b15, vI j293_s0_22, vI (own_in0 j293_s0_22), vI (0 : Int32)] [(.int (1 : Int32))]) := fun t k => pre36 t (by
      refine XS.icmpNo X35.here hx rfl (hb hby at_401) rfl (teq cc37).2 ?_
      show Steps p.tables e below (T35.setTop (mkF m 404 #[vI p0, vI p1, vI p2, vI p3, vI p4, vI p5, vI (0 : Int32), vI v6, vI v6, vI v7, vI v8, vI v9, vI v10, vI v11, vI v12, vI v13, vR b15, vI j293_s0_22, vI (own_in0 j293_s0_22), vI (0 : Int32)] [])) _
      refine XS.iconst X35.here hx rfl (hb hby at_404) ?_
      show Steps p.tables e below (T35.setTop (mkF m 405 #[vI p0, vI p1, vI p2, vI p3, vI p4, vI p5, vI (0 : Int32), vI v6, vI v6, vI v7, vI v8, vI v9, vI v10, vI v11, vI v12, vI v13, vR b15, vI j293_s0_22, vI (own_in0 j293_s0_22), vI (0 : Int32)] [(.int (1 : Int32))])) _
      refine XS.goto X35.here hx rfl (pc0 := 405) (pc' := 409) rfl (hb hby at_405) (by decide) (by decide) ?_
      show Steps p.tables e below (T35.setTop (mkF m 409 #[vI p0, vI p1, vI p2, vI p3, vI p4, vI p5, vI (0 : Int32), vI v6, vI v6, vI v7, vI v8, vI v9, vI v10, vI v11, vI v12, vI v13, vR b15, vI j293_s0_22, vI (own_in0 j293_s0_22), vI (0 : Int32)] [(.int (1 : Int32))])) _
      exact k)
    obtain ⟨fs, hr, hrun, hended, hW, hsame⟩ := X35.leave (v := some (.int (1 : Int32))) (fun h => by rw [Bd.returns] at h; cases h)
    exact ⟨_, _, pre38.fin hS0 (retN X35 hx (t := .boolean) Bd.returns (by simp) (hb hby at_409) hr), hrun, hended, _, _, rfl, (by
      show Q0 Z p0 p1 p2 p3 p4 p5 h0 n0 _ T35.heap _
      rw [eq35]
      exact ⟨rfl, N35⟩), ⟨_, rfl⟩, hW, hsame.mono (by decide) (by decide)⟩
  · skip
    have pre39 : Go p.tables e below S0 T5 (mkF m 127 #[vI p0, vI p1, vI p2, vI p3, vI p4, vI p5, vI (1 : Int32), vI v6, vI v6, vI v7, vI v8, vI v9, vI v10, vI v11, vI v12, vI v13, .unset, .unset, .unset, .unset] [(.int (2 : Int32))]) := fun t k => pre13 t (by
      refine XS.iload X5.here hx rfl (hb hby at_107) rfl ?_
      show Steps p.tables e below (T5.setTop (mkF m 109 #[vI p0, vI p1, vI p2, vI p3, vI p4, vI p5, vI (1 : Int32), vI v6, vI v6, vI v7, vI v8, vI v9, vI v10, vI v11, vI v12, vI v13, .unset, .unset, .unset, .unset] [(.int (1 : Int32))])) _
      refine XS.ifYes X5.here hx rfl (pc0 := 109) (pc' := 120) rfl (hb hby at_109) rfl ((if0 _ _).trans (feq (by decide : ¬ ((1 : Int32) = (0 : Int32)))).2) (by decide) (by decide) ?_
      show Steps p.tables e below (T5.setTop (mkF m 120 #[vI p0, vI p1, vI p2, vI p3, vI p4, vI p5, vI (1 : Int32), vI v6, vI v6, vI v7, vI v8, vI v9, vI v10, vI v11, vI v12, vI v13, .unset, .unset, .unset, .unset] [])) _
      refine XS.iload X5.here hx rfl (hb hby at_120) rfl ?_
      show Steps p.tables e below (T5.setTop (mkF m 122 #[vI p0, vI p1, vI p2, vI p3, vI p4, vI p5, vI (1 : Int32), vI v6, vI v6, vI v7, vI v8, vI v9, vI v10, vI v11, vI v12, vI v13, .unset, .unset, .unset, .unset] [(.int (1 : Int32))])) _
      refine XS.iconst X5.here hx rfl (hb hby at_122) ?_
      show Steps p.tables e below (T5.setTop (mkF m 123 #[vI p0, vI p1, vI p2, vI p3, vI p4, vI p5, vI (1 : Int32), vI v6, vI v6, vI v7, vI v8, vI v9, vI v10, vI v11, vI v12, vI v13, .unset, .unset, .unset, .unset] [(.int (1 : Int32)), (.int (1 : Int32))])) _
      refine XS.icmpNo X5.here hx rfl (hb hby at_123) rfl (teq (rfl : (1 : Int32) = (1 : Int32))).2 ?_
      show Steps p.tables e below (T5.setTop (mkF m 126 #[vI p0, vI p1, vI p2, vI p3, vI p4, vI p5, vI (1 : Int32), vI v6, vI v6, vI v7, vI v8, vI v9, vI v10, vI v11, vI v12, vI v13, .unset, .unset, .unset, .unset] [])) _
      refine XS.iconst X5.here hx rfl (hb hby at_126) ?_
      show Steps p.tables e below (T5.setTop (mkF m 127 #[vI p0, vI p1, vI p2, vI p3, vI p4, vI p5, vI (1 : Int32), vI v6, vI v6, vI v7, vI v8, vI v9, vI v10, vI v11, vI v12, vI v13, .unset, .unset, .unset, .unset] [(.int (2 : Int32))])) _
      exact k)
    obtain ⟨T40, h40, kA40, X40, e40, E40, A40, st40⟩ := newP X5 hx hZ (hw _ (List.mem_of_getElem? (i := 9) rfl)) eq5 (g := (mkF m 127 #[vI p0, vI p1, vI p2, vI p3, vI p4, vI p5, vI (1 : Int32), vI v6, vI v6, vI v7, vI v8, vI v9, vI v10, vI v11, vI v12, vI v13, .unset, .unset, .unset, .unset] [(.int (2 : Int32))])) rfl (hb hby at_127) rfl (by decide) (cap := 2) (by decide) (by decide) (by decide) (by decide)
    obtain ⟨b40, g40⟩ : ∃ z, z = h0.size := ⟨_, rfl⟩
    rw [← g40] at A40 st40
    have pre40 : Go p.tables e below S0 T40 (mkF m 129 #[vI p0, vI p1, vI p2, vI p3, vI p4, vI p5, vI (1 : Int32), vI v6, vI v6, vI v7, vI v8, vI v9, vI v10, vI v11, vI v12, vI v13, .unset, .unset, .unset, .unset] [(.ref b40)]) := fun t k => pre39 t (st40 t k)
    have bo40 : n0 ≤ b40 := Nat.le_trans Z0 (Nat.le_of_eq g40.symm)
    have zz42 : n0 ≤ h40.size := Nat.le_trans Z0 E40.1
    have av40 : Arv Z h40 b40 kA40 .int (2 : Int32) [(.int (0 : Int32)), (.int (0 : Int32))] (.int (0 : Int32)) := (Arv.new A40 (by decide)).pad (pad_rep [] (.int (0 : Int32)) 2)
    have pre43 : Go p.tables e below S0 T40 (mkF m 133 #[vI p0, vI p1, vI p2, vI p3, vI p4, vI p5, vI (1 : Int32), vI v6, vI v6, vI v7, vI v8, vI v9, vI v10, vI v11, vI v12, vI v13, .unset, .unset, .unset, .unset] [(.int v6), (.int (0 : Int32)), (.ref b40), (.ref b40)]) := fun t k => pre40 t (by
      refine XS.dup X40.here hx rfl (hb hby at_129) rfl rfl ?_
      show Steps p.tables e below (T40.setTop (mkF m 130 #[vI p0, vI p1, vI p2, vI p3, vI p4, vI p5, vI (1 : Int32), vI v6, vI v6, vI v7, vI v8, vI v9, vI v10, vI v11, vI v12, vI v13, .unset, .unset, .unset, .unset] [(.ref b40), (.ref b40)])) _
      refine XS.iconst X40.here hx rfl (hb hby at_130) ?_
      show Steps p.tables e below (T40.setTop (mkF m 131 #[vI p0, vI p1, vI p2, vI p3, vI p4, vI p5, vI (1 : Int32), vI v6, vI v6, vI v7, vI v8, vI v9, vI v10, vI v11, vI v12, vI v13, .unset, .unset, .unset, .unset] [(.int (0 : Int32)), (.ref b40), (.ref b40)])) _
      refine XS.iload X40.here hx rfl (hb hby at_131) rfl ?_
      show Steps p.tables e below (T40.setTop (mkF m 133 #[vI p0, vI p1, vI p2, vI p3, vI p4, vI p5, vI (1 : Int32), vI v6, vI v6, vI v7, vI v8, vI v9, vI v10, vI v11, vI v12, vI v13, .unset, .unset, .unset, .unset] [(.int v6), (.int (0 : Int32)), (.ref b40), (.ref b40)])) _
      exact k)
    obtain ⟨cl44, Ar44, q44, S44, M44, H44, G44⟩ := id av40
    have in44 : ¬ ((0 : Int32) < 0 ∨ cl44.slots.size ≤ ((0 : Int32)).toNatClampNeg) := inb_of S44 ⟨by decide, by decide⟩
    obtain ⟨T44, h44, X44, e44, W44, st44⟩ := stI X40 hx hZ e40 Ar44 (j := (0 : Int32)) in44 (g := (mkF m 133 #[vI p0, vI p1, vI p2, vI p3, vI p4, vI p5, vI (1 : Int32), vI v6, vI v6, vI v7, vI v8, vI v9, vI v10, vI v11, vI v12, vI v13, .unset, .unset, .unset, .unset] [(.int v6), (.int (0 : Int32)), (.ref b40), (.ref b40)])) rfl rfl (hb hby at_133)
    have pre44 : Go p.tables e below S0 T44 (mkF m 134 #[vI p0, vI p1, vI p2, vI p3, vI p4, vI p5, vI (1 : Int32), vI v6, vI v6, vI v7, vI v8, vI v9, vI v10, vI v11, vI v12, vI v13, .unset, .unset, .unset, .unset] [(.ref b40)]) := fun t k => pre43 t (st44 t k)
    have N44 := Fr.snoc X44 N5 bo40
    have av44 : Arv Z h44 b40 kA40 .int (2 : Int32) [(.int v6), (.int (0 : Int32))] (.int (0 : Int32)) := Arv.set Ar44 q44 S44 M44 H44 G44 rfl W44 0 rfl (Nat.le_of_ble_eq_true rfl)
    have zz46 : n0 ≤ h44.size := Nat.le_trans zz42 (Keep.of_wr W44).1
    have pre47 : Go p.tables e below S0 T44 (mkF m 138 #[vI p0, vI p1, vI p2, vI p3, vI p4, vI p5, vI (1 : Int32), vI v6, vI v6, vI v7, vI v8, vI v9, vI v10, vI v11, vI v12, vI v13, .unset, .unset, .unset, .unset] [(.int v7), (.int (1 : Int32)), (.ref b40), (.ref b40)]) := fun t k => pre44 t (by
      refine XS.dup X44.here hx rfl (hb hby at_134) rfl rfl ?_
      show Steps p.tables e below (T44.setTop (mkF m 135 #[vI p0, vI p1, vI p2, vI p3, vI p4, vI p5, vI (1 : Int32), vI v6, vI v6, vI v7, vI v8, vI v9, vI v10, vI v11, vI v12, vI v13, .unset, .unset, .unset, .unset] [(.ref b40), (.ref b40)])) _
      refine XS.iconst X44.here hx rfl (hb hby at_135) ?_
      show Steps p.tables e below (T44.setTop (mkF m 136 #[vI p0, vI p1, vI p2, vI p3, vI p4, vI p5, vI (1 : Int32), vI v6, vI v6, vI v7, vI v8, vI v9, vI v10, vI v11, vI v12, vI v13, .unset, .unset, .unset, .unset] [(.int (1 : Int32)), (.ref b40), (.ref b40)])) _
      refine XS.iload X44.here hx rfl (hb hby at_136) rfl ?_
      show Steps p.tables e below (T44.setTop (mkF m 138 #[vI p0, vI p1, vI p2, vI p3, vI p4, vI p5, vI (1 : Int32), vI v6, vI v6, vI v7, vI v8, vI v9, vI v10, vI v11, vI v12, vI v13, .unset, .unset, .unset, .unset] [(.int v7), (.int (1 : Int32)), (.ref b40), (.ref b40)])) _
      exact k)
    obtain ⟨cl48, Ar48, q48, S48, M48, H48, G48⟩ := id av44
    have in48 : ¬ ((1 : Int32) < 0 ∨ cl48.slots.size ≤ ((1 : Int32)).toNatClampNeg) := inb_of S48 ⟨by decide, by decide⟩
    obtain ⟨T48, h48, X48, e48, W48, st48⟩ := stI X44 hx hZ e44 Ar48 (j := (1 : Int32)) in48 (g := (mkF m 138 #[vI p0, vI p1, vI p2, vI p3, vI p4, vI p5, vI (1 : Int32), vI v6, vI v6, vI v7, vI v8, vI v9, vI v10, vI v11, vI v12, vI v13, .unset, .unset, .unset, .unset] [(.int v7), (.int (1 : Int32)), (.ref b40), (.ref b40)])) rfl rfl (hb hby at_138)
    have pre48 : Go p.tables e below S0 T48 (mkF m 139 #[vI p0, vI p1, vI p2, vI p3, vI p4, vI p5, vI (1 : Int32), vI v6, vI v6, vI v7, vI v8, vI v9, vI v10, vI v11, vI v12, vI v13, .unset, .unset, .unset, .unset] [(.ref b40)]) := fun t k => pre47 t (st48 t k)
    have N48 := Fr.snoc X48 N44 bo40
    have av48 : Arv Z h48 b40 kA40 .int (2 : Int32) [(.int v6), (.int v7)] (.int (0 : Int32)) := Arv.set Ar48 q48 S48 M48 H48 G48 rfl W48 1 rfl (Nat.le_of_ble_eq_true rfl)
    have zz50 : n0 ≤ h48.size := Nat.le_trans zz46 (Keep.of_wr W48).1
    have pre51 : Go p.tables e below S0 T48 (mkF m 275 #[vI p0, vI p1, vI p2, vI p3, vI p4, vI p5, vI (1 : Int32), vI v6, vI v6, vI v7, vI v8, vI v9, vI v10, vI v11, vI v12, vI v13, vR b40, .unset, .unset, .unset] [(.int (p5 &&& (1 : Int32)))]) := fun t k => pre48 t (by
      refine XS.astore X48.here hx rfl (hb hby at_139) rfl rfl (l' := #[vI p0, vI p1, vI p2, vI p3, vI p4, vI p5, vI (1 : Int32), vI v6, vI v6, vI v7, vI v8, vI v9, vI v10, vI v11, vI v12, vI v13, vR b40, .unset, .unset, .unset]) rfl ?_
      show Steps p.tables e below (T48.setTop (mkF m 141 #[vI p0, vI p1, vI p2, vI p3, vI p4, vI p5, vI (1 : Int32), vI v6, vI v6, vI v7, vI v8, vI v9, vI v10, vI v11, vI v12, vI v13, vR b40, .unset, .unset, .unset] [])) _
      refine XS.goto X48.here hx rfl (pc0 := 141) (pc' := 271) rfl (hb hby at_141) (by decide) (by decide) ?_
      show Steps p.tables e below (T48.setTop (mkF m 271 #[vI p0, vI p1, vI p2, vI p3, vI p4, vI p5, vI (1 : Int32), vI v6, vI v6, vI v7, vI v8, vI v9, vI v10, vI v11, vI v12, vI v13, vR b40, .unset, .unset, .unset] [])) _
      refine XS.iload X48.here hx rfl (hb hby at_271) rfl ?_
      show Steps p.tables e below (T48.setTop (mkF m 273 #[vI p0, vI p1, vI p2, vI p3, vI p4, vI p5, vI (1 : Int32), vI v6, vI v6, vI v7, vI v8, vI v9, vI v10, vI v11, vI v12, vI v13, vR b40, .unset, .unset, .unset] [(.int p5)])) _
      refine XS.iconst X48.here hx rfl (hb hby at_273) ?_
      show Steps p.tables e below (T48.setTop (mkF m 274 #[vI p0, vI p1, vI p2, vI p3, vI p4, vI p5, vI (1 : Int32), vI v6, vI v6, vI v7, vI v8, vI v9, vI v10, vI v11, vI v12, vI v13, vR b40, .unset, .unset, .unset] [(.int (1 : Int32)), (.int p5)])) _
      refine XS.iand X48.here hx rfl (hb hby at_274) rfl ?_
      show Steps p.tables e below (T48.setTop (mkF m 275 #[vI p0, vI p1, vI p2, vI p3, vI p4, vI p5, vI (1 : Int32), vI v6, vI v6, vI v7, vI v8, vI v9, vI v10, vI v11, vI v12, vI v13, vR b40, .unset, .unset, .unset] [(.int (p5 &&& (1 : Int32)))])) _
      exact k)
    refine cps (A := ∃ (j293_s0_55 : Int32), (Go p.tables e below S0 T48 (mkF m 293 #[vI p0, vI p1, vI p2, vI p3, vI p4, vI p5, vI (1 : Int32), vI v6, vI v6, vI v7, vI v8, vI v9, vI v10, vI v11, vI v12, vI v13, vR b40, .unset, .unset, .unset] [(.int j293_s0_55)]))) (fun tail57 => ?_) ?_
    · skip
      by_cases c275_52 : (p5 &&& (1 : Int32)) = (0 : Int32)
      · skip
        have pre53 : Go p.tables e below S0 T48 (mkF m 293 #[vI p0, vI p1, vI p2, vI p3, vI p4, vI p5, vI (1 : Int32), vI v6, vI v6, vI v7, vI v8, vI v9, vI v10, vI v11, vI v12, vI v13, vR b40, .unset, .unset, .unset] [(.int ((v6 + (p4 &&& (63 : Int32))) - (4 : Int32)))]) := fun t k => pre51 t (by
          refine XS.ifYes X48.here hx rfl (pc0 := 275) (pc' := 283) rfl (hb hby at_275) rfl ((if0 _ _).trans (teq c275_52).1) (by decide) (by decide) ?_
          show Steps p.tables e below (T48.setTop (mkF m 283 #[vI p0, vI p1, vI p2, vI p3, vI p4, vI p5, vI (1 : Int32), vI v6, vI v6, vI v7, vI v8, vI v9, vI v10, vI v11, vI v12, vI v13, vR b40, .unset, .unset, .unset] [])) _
          refine XS.iload X48.here hx rfl (hb hby at_283) rfl ?_
          show Steps p.tables e below (T48.setTop (mkF m 285 #[vI p0, vI p1, vI p2, vI p3, vI p4, vI p5, vI (1 : Int32), vI v6, vI v6, vI v7, vI v8, vI v9, vI v10, vI v11, vI v12, vI v13, vR b40, .unset, .unset, .unset] [(.int v6)])) _
          refine XS.iload X48.here hx rfl (hb hby at_285) rfl ?_
          show Steps p.tables e below (T48.setTop (mkF m 287 #[vI p0, vI p1, vI p2, vI p3, vI p4, vI p5, vI (1 : Int32), vI v6, vI v6, vI v7, vI v8, vI v9, vI v10, vI v11, vI v12, vI v13, vR b40, .unset, .unset, .unset] [(.int p4), (.int v6)])) _
          refine XS.bipush X48.here hx rfl (hb hby at_287) ?_
          show Steps p.tables e below (T48.setTop (mkF m 289 #[vI p0, vI p1, vI p2, vI p3, vI p4, vI p5, vI (1 : Int32), vI v6, vI v6, vI v7, vI v8, vI v9, vI v10, vI v11, vI v12, vI v13, vR b40, .unset, .unset, .unset] [(.int (63 : Int32)), (.int p4), (.int v6)])) _
          refine XS.iand X48.here hx rfl (hb hby at_289) rfl ?_
          show Steps p.tables e below (T48.setTop (mkF m 290 #[vI p0, vI p1, vI p2, vI p3, vI p4, vI p5, vI (1 : Int32), vI v6, vI v6, vI v7, vI v8, vI v9, vI v10, vI v11, vI v12, vI v13, vR b40, .unset, .unset, .unset] [(.int (p4 &&& (63 : Int32))), (.int v6)])) _
          refine XS.iadd X48.here hx rfl (hb hby at_290) rfl ?_
          show Steps p.tables e below (T48.setTop (mkF m 291 #[vI p0, vI p1, vI p2, vI p3, vI p4, vI p5, vI (1 : Int32), vI v6, vI v6, vI v7, vI v8, vI v9, vI v10, vI v11, vI v12, vI v13, vR b40, .unset, .unset, .unset] [(.int (v6 + (p4 &&& (63 : Int32))))])) _
          refine XS.iconst X48.here hx rfl (hb hby at_291) ?_
          show Steps p.tables e below (T48.setTop (mkF m 292 #[vI p0, vI p1, vI p2, vI p3, vI p4, vI p5, vI (1 : Int32), vI v6, vI v6, vI v7, vI v8, vI v9, vI v10, vI v11, vI v12, vI v13, vR b40, .unset, .unset, .unset] [(.int (4 : Int32)), (.int (v6 + (p4 &&& (63 : Int32))))])) _
          refine XS.isub X48.here hx rfl (hb hby at_292) rfl ?_
          show Steps p.tables e below (T48.setTop (mkF m 293 #[vI p0, vI p1, vI p2, vI p3, vI p4, vI p5, vI (1 : Int32), vI v6, vI v6, vI v7, vI v8, vI v9, vI v10, vI v11, vI v12, vI v13, vR b40, .unset, .unset, .unset] [(.int ((v6 + (p4 &&& (63 : Int32))) - (4 : Int32)))])) _
          exact k)
        exact tail57 ⟨((v6 + (p4 &&& (63 : Int32))) - (4 : Int32)), pre53⟩
      · skip
        have pre54 : Go p.tables e below S0 T48 (mkF m 293 #[vI p0, vI p1, vI p2, vI p3, vI p4, vI p5, vI (1 : Int32), vI v6, vI v6, vI v7, vI v8, vI v9, vI v10, vI v11, vI v12, vI v13, vR b40, .unset, .unset, .unset] [(.int p4)]) := fun t k => pre51 t (by
          refine XS.ifNo X48.here hx rfl (hb hby at_275) rfl ((if0 _ _).trans (feq c275_52).1) ?_
          show Steps p.tables e below (T48.setTop (mkF m 278 #[vI p0, vI p1, vI p2, vI p3, vI p4, vI p5, vI (1 : Int32), vI v6, vI v6, vI v7, vI v8, vI v9, vI v10, vI v11, vI v12, vI v13, vR b40, .unset, .unset, .unset] [])) _
          refine XS.iload X48.here hx rfl (hb hby at_278) rfl ?_
          show Steps p.tables e below (T48.setTop (mkF m 280 #[vI p0, vI p1, vI p2, vI p3, vI p4, vI p5, vI (1 : Int32), vI v6, vI v6, vI v7, vI v8, vI v9, vI v10, vI v11, vI v12, vI v13, vR b40, .unset, .unset, .unset] [(.int p4)])) _
          refine XS.goto X48.here hx rfl (pc0 := 280) (pc' := 293) rfl (hb hby at_280) (by decide) (by decide) ?_
          show Steps p.tables e below (T48.setTop (mkF m 293 #[vI p0, vI p1, vI p2, vI p3, vI p4, vI p5, vI (1 : Int32), vI v6, vI v6, vI v7, vI v8, vI v9, vI v10, vI v11, vI v12, vI v13, vR b40, .unset, .unset, .unset] [(.int p4)])) _
          exact k)
        exact tail57 ⟨p4, pre54⟩
    rintro ⟨j293_s0_55, pre56⟩
    have pre58 : Go p.tables e below S0 T48 (mkF m 295 #[vI p0, vI p1, vI p2, vI p3, vI p4, vI p5, vI (1 : Int32), vI v6, vI v6, vI v7, vI v8, vI v9, vI v10, vI v11, vI v12, vI v13, vR b40, vI j293_s0_55, .unset, .unset] []) := fun t k => pre56 t (by
      refine XS.istore X48.here hx rfl (hb hby at_293) rfl (l' := #[vI p0, vI p1, vI p2, vI p3, vI p4, vI p5, vI (1 : Int32), vI v6, vI v6, vI v7, vI v8, vI v9, vI v10, vI v11, vI v12, vI v13, vR b40, vI j293_s0_55, .unset, .unset]) rfl ?_
      show Steps p.tables e below (T48.setTop (mkF m 295 #[vI p0, vI p1, vI p2, vI p3, vI p4, vI p5, vI (1 : Int32), vI v6, vI v6, vI v7, vI v8, vI v9, vI v10, vI v11, vI v12, vI v13, vR b40, vI j293_s0_55, .unset, .unset] [])) _
      exact k)
    obtain ⟨T59, h59, X59, e59, E59, A59, D59, -, st59⟩ := newO X48 hx hZ hown (hw _ (List.mem_of_getElem? (i := 10) rfl)) (hw _ (List.mem_of_getElem? (i := 11) rfl)) (hw _ (List.mem_of_getElem? (i := 12) rfl)) e48 (g := (mkF m 295 #[vI p0, vI p1, vI p2, vI p3, vI p4, vI p5, vI (1 : Int32), vI v6, vI v6, vI v7, vI v8, vI v9, vI v10, vI v11, vI v12, vI v13, vR b40, vI j293_s0_55, .unset, .unset] [])) rfl (hb hby at_295) (by decide) (by decide)
    obtain ⟨b59, g59⟩ : ∃ z, z = h48.size := ⟨_, rfl⟩
    rw [← g59] at A59 D59 st59
    have pre59 : Go p.tables e below S0 T59 (mkF m 298 #[vI p0, vI p1, vI p2, vI p3, vI p4, vI p5, vI (1 : Int32), vI v6, vI v6, vI v7, vI v8, vI v9, vI v10, vI v11, vI v12, vI v13, vR b40, vI j293_s0_55, .unset, .unset] [(.ref b59)]) := fun t k => pre58 t (st59 t k)
    have ne60 : b40 ≠ b59 := Nat.ne_of_lt (Nat.lt_of_lt_of_le av48.lt (Nat.le_of_eq g59.symm))
    have bo59 : n0 ≤ b59 := Nat.le_trans zz50 (Nat.le_of_eq g59.symm)
    have f61_1 := av48.ext E59
    have zz62 : n0 ≤ h59.size := Nat.le_trans zz50 E59.1
    have fn59_ranges : Fld Z h59 b59 "com/example/attest/attest/metadata/ScopeSyntax$Chars" "ranges" "[I" .null := D59 (Or.inr (hw _ (List.mem_of_getElem? (i := 25) rfl))) (ty := (.array .int)) (by decide)
    have pre63 : Go p.tables e below S0 T59 (mkF m 301 #[vI p0, vI p1, vI p2, vI p3, vI p4, vI p5, vI (1 : Int32), vI v6, vI v6, vI v7, vI v8, vI v9, vI v10, vI v11, vI v12, vI v13, vR b40, vI j293_s0_55, .unset, .unset] [(.ref b40), (.ref b59), (.ref b59)]) := fun t k => pre59 t (by
      refine XS.dup X59.here hx rfl (hb hby at_298) rfl rfl ?_
      show Steps p.tables e below (T59.setTop (mkF m 299 #[vI p0, vI p1, vI p2, vI p3, vI p4, vI p5, vI (1 : Int32), vI v6, vI v6, vI v7, vI v8, vI v9, vI v10, vI v11, vI v12, vI v13, vR b40, vI j293_s0_55, .unset, .unset] [(.ref b59), (.ref b59)])) _
      refine XS.aload X59.here hx rfl (hb hby at_299) rfl rfl ?_
      show Steps p.tables e below (T59.setTop (mkF m 301 #[vI p0, vI p1, vI p2, vI p3, vI p4, vI p5, vI (1 : Int32), vI v6, vI v6, vI v7, vI v8, vI v9, vI v10, vI v11, vI v12, vI v13, vR b40, vI j293_s0_55, .unset, .unset] [(.ref b40), (.ref b59), (.ref b59)])) _
      exact k)
    obtain ⟨_, _, ⟨T64, qL64, qk64, qn64⟩, -, X64, ⟨Lc64, hQ64, ql64, qy64, qz64⟩, st64⟩ := X59.specialBack hx (y := (⟨"com/example/attest/attest/metadata/ScopeSyntax$Chars", "<init>", "([I)V"⟩ : MethodName)) rfl hown (mvT hZ (hw _ (List.mem_of_getElem? (i := 13) rfl))) (mvT hZ (hw _ (List.mem_of_getElem? (i := 14) rfl))) (mvT hZ (hw _ (List.mem_of_getElem? (i := 15) rfl))) (by decide) (backOf (W := 1) (rm3 l Z A0 hw [] b59 b40 h59 n0 zz62 A59 fn59_ranges bo59) hZ (hw _ (List.mem_of_getElem? (i := 15) rfl)) (hw _ (List.mem_of_getElem? (i := 12) rfl)) (by decide) (by decide)) (g := (mkF m 301 #[vI p0, vI p1, vI p2, vI p3, vI p4, vI p5, vI (1 : Int32), vI v6, vI v6, vI v7, vI v8, vI v9, vI v10, vI v11, vI v12, vI v13, vR b40, vI j293_s0_55, .unset, .unset] [(.ref b40), (.ref b59), (.ref b59)])) rfl (by rw [hml]; rfl) (Steps.refl _) (a := b59) (argsL := [(.ref b40)]) (rest := [(.ref b59)]) (lenOf pd_2 rfl) rfl (by show 2 * 0 + _ ≤ _; exact Nat.le_of_eq rfl) (hb hby at_301) (fun _ _ => ⟨rfl, e59, (by decide : 2 + 0 ≤ _), (by decide : 3 + 0 ≤ _)⟩)
    dsimp only [Pt.U, Pt.locs, Pt.cells, Pt.slots] at X64 ql64 qy64 qz64 st64 hQ64
    subst ql64 qy64 qz64
    obtain ⟨rfl, Nq64, Kq64, nf64_0, nf64_1⟩ := hQ64
    have N64 := Fr.app N48 Nq64
    have pre64 : Go p.tables e below S0 T64 (mkF m 304 #[vI p0, vI p1, vI p2, vI p3, vI p4, vI p5, vI (1 : Int32), vI v6, vI v6, vI v7, vI v8, vI v9, vI v10, vI v11, vI v12, vI v13, vR b40, vI j293_s0_55, .unset, .unset] [(.ref b59)]) := fun t k => pre63 t (st64.trans k)
    have f65_1 := f61_1.keep Kq64 (ninS ne60 nin0)
    have zz66 : n0 ≤ T64.heap.size := Nat.le_trans zz62 Kq64.1
    have pre67 : Go p.tables e below S0 T64 (mkF m 306 #[vI p0, vI p1, vI p2, vI p3, vI p4, vI p5, vI (1 : Int32), vI v6, vI v6, vI v7, vI v8, vI v9, vI v10, vI v11, vI v12, vI v13, vR b40, vI j293_s0_55, .unset, .unset] [(.int j293_s0_55), (.ref b59)]) := fun t k => pre64 t (by
      refine XS.iload X64.here hx rfl (hb hby at_304) rfl ?_
      show Steps p.tables e below (T64.setTop (mkF m 306 #[vI p0, vI p1, vI p2, vI p3, vI p4, vI p5, vI (1 : Int32), vI v6, vI v6, vI v7, vI v8, vI v9, vI v10, vI v11, vI v12, vI v13, vR b40, vI j293_s0_55, .unset, .unset] [(.int j293_s0_55), (.ref b59)])) _
      exact k)
    obtain ⟨cq68, kq68, qa68, qb68, qc68⟩ := isOf hZ rfl nf64_0
    obtain ⟨_, _, ⟨T68, qL68, qk68, qn68⟩, -, X68, ⟨Lc68, hQ68, ql68, qy68, qz68⟩, st68⟩ := X64.virtualBack hx (y := (⟨"com/example/attest/attest/metadata/ScopeSyntax$Chars", "contains", "(I)Z"⟩ : MethodName)) (z := (⟨"com/example/attest/attest/metadata/ScopeSyntax$Chars", "contains", "(I)Z"⟩ : MethodName)) hown (mvT hZ (hw _ (List.mem_of_getElem? (i := 26) rfl))) (mvT hZ (hw _ (List.mem_of_getElem? (i := 27) rfl))) (notFace_of_selects (args := #[]) (mvT hZ (hw _ (List.mem_of_getElem? (i := 29) rfl)))) (mvT hZ (hw _ (List.mem_of_getElem? (i := 29) rfl))) (mvT hZ (hw _ (List.mem_of_getElem? (i := 28) rfl))) (by decide) (backOf (W := 0) (rm6_1 l Z A0 hw [] b59 j293_s0_55 b40 kA40 v6 v7 T64.heap n0 zz66 nf64_1 f65_1 sorted1) hZ (hw _ (List.mem_of_getElem? (i := 30) rfl)) (hw _ (List.mem_of_getElem? (i := 12) rfl)) (by decide) (by decide)) qa68 qc68 (g := (mkF m 306 #[vI p0, vI p1, vI p2, vI p3, vI p4, vI p5, vI (1 : Int32), vI v6, vI v6, vI v7, vI v8, vI v9, vI v10, vI v11, vI v12, vI v13, vR b40, vI j293_s0_55, .unset, .unset] [(.int j293_s0_55), (.ref b59)])) rfl (by rw [hml]; rfl) (Steps.refl _) (argsL := [(.int j293_s0_55)]) (rest := []) (lenOf pd_3 rfl) rfl (by show 2 * 0 + _ ≤ _; exact Nat.le_of_eq rfl) (hb hby at_306) (fun _ _ => ⟨rfl, rfl, (by decide : 2 + 0 ≤ _), (by decide : 3 + 0 ≤ _)⟩)
    dsimp only [Pt.U, Pt.locs, Pt.cells, Pt.slots] at X68 ql68 qy68 qz68 st68 hQ68
    subst ql68 qy68 qz68
    obtain ⟨rfl, Nq68, eq68⟩ := hQ68
    have N68 := Fr.app N64 Nq68
    have pre68 : Go p.tables e below S0 T68 (mkF m 309 #[vI p0, vI p1, vI p2, vI p3, vI p4, vI p5, vI (1 : Int32), vI v6, vI v6, vI v7, vI v8, vI v9, vI v10, vI v11, vI v12, vI v13, vR b40, vI j293_s0_55, .unset, .unset] [(.int (own_in1 j293_s0_55 v6 v7))]) := fun t k => pre67 t (st68.trans k)
    have pre69 : Go p.tables e below S0 T68 (mkF m 320 #[vI p0, vI p1, vI p2, vI p3, vI p4, vI p5, vI (1 : Int32), vI v6, vI v6, vI v7, vI v8, vI v9, vI v10, vI v11, vI v12, vI v13, vR b40, vI j293_s0_55, vI (own_in1 j293_s0_55 v6 v7), .unset] [(.int j293_s0_55), (.int v6)]) := fun t k => pre68 t (by
      refine XS.istore X68.here hx rfl (hb hby at_309) rfl (l' := #[vI p0, vI p1, vI p2, vI p3, vI p4, vI p5, vI (1 : Int32), vI v6, vI v6, vI v7, vI v8, vI v9, vI v10, vI v11, vI v12, vI v13, vR b40, vI j293_s0_55, vI (own_in1 j293_s0_55 v6 v7), .unset]) rfl ?_
      show Steps p.tables e below (T68.setTop (mkF m 311 #[vI p0, vI p1, vI p2, vI p3, vI p4, vI p5, vI (1 : Int32), vI v6, vI v6, vI v7, vI v8, vI v9, vI v10, vI v11, vI v12, vI v13, vR b40, vI j293_s0_55, vI (own_in1 j293_s0_55 v6 v7), .unset] [])) _
      refine XS.iload X68.here hx rfl (hb hby at_311) rfl ?_
      show Steps p.tables e below (T68.setTop (mkF m 313 #[vI p0, vI p1, vI p2, vI p3, vI p4, vI p5, vI (1 : Int32), vI v6, vI v6, vI v7, vI v8, vI v9, vI v10, vI v11, vI v12, vI v13, vR b40, vI j293_s0_55, vI (own_in1 j293_s0_55 v6 v7), .unset] [(.int (1 : Int32))])) _
      refine XS.ifNo X68.here hx rfl (hb hby at_313) rfl ((if0 _ _).trans (tlt (by decide : (0 : Int32) < (1 : Int32))).2.2.2) ?_
      show Steps p.tables e below (T68.setTop (mkF m 316 #[vI p0, vI p1, vI p2, vI p3, vI p4, vI p5, vI (1 : Int32), vI v6, vI v6, vI v7, vI v8, vI v9, vI v10, vI v11, vI v12, vI v13, vR b40, vI j293_s0_55, vI (own_in1 j293_s0_55 v6 v7), .unset] [])) _
      refine XS.iload X68.here hx rfl (hb hby at_316) rfl ?_
      show Steps p.tables e below (T68.setTop (mkF m 318 #[vI p0, vI p1, vI p2, vI p3, vI p4, vI p5, vI (1 : Int32), vI v6, vI v6, vI v7, vI v8, vI v9, vI v10, vI v11, vI v12, vI v13, vR b40, vI j293_s0_55, vI (own_in1 j293_s0_55 v6 v7), .unset] [(.int v6)])) _
      refine XS.iload X68.here hx rfl (hb hby at_318) rfl ?_
      show Steps p.tables e below (T68.setTop (mkF m 320 #[vI p0, vI p1, vI p2, vI p3, vI p4, vI p5, vI (1 : Int32), vI v6, vI v6, vI v7, vI v8, vI v9, vI v10, vI v11, vI v12, vI v13, vR b40, vI j293_s0_55, vI (own_in1 j293_s0_55 v6 v7), .unset] [(.int j293_s0_55), (.int v6)])) _
      exact k)
    refine cps (A := ∃ (j395_s0_76 : Int32), (j395_s0_76 = own_in1 j293_s0_55 v6 v7) ∧ (Go p.tables e below S0 T68 (mkF m 395 #[vI p0, vI p1, vI p2, vI p3, vI p4, vI p5, vI (1 : Int32), vI v6, vI v6, vI v7, vI v8, vI v9, vI v10, vI v11, vI v12, vI v13, vR b40, vI j293_s0_55, vI (own_in1 j293_s0_55 v6 v7), .unset] [(.int j395_s0_76)]))) (fun tail79 => ?_) ?_
    · skip
      by_cases c320_70 : j293_s0_55 < v6
      · skip
        have pre71 : Go p.tables e below S0 T68 (mkF m 395 #[vI p0, vI p1, vI p2, vI p3, vI p4, vI p5, vI (1 : Int32), vI v6, vI v6, vI v7, vI v8, vI v9, vI v10, vI v11, vI v12, vI v13, vR b40, vI j293_s0_55, vI (own_in1 j293_s0_55 v6 v7), .unset] [(.int (0 : Int32))]) := fun t k => pre69 t (by
          refine XS.icmpYes X68.here hx rfl (pc0 := 320) (pc' := 330) rfl (hb hby at_320) rfl (tlt c320_70).2.2.1 (by decide) (by decide) ?_
          show Steps p.tables e below (T68.setTop (mkF m 330 #[vI p0, vI p1, vI p2, vI p3, vI p4, vI p5, vI (1 : Int32), vI v6, vI v6, vI v7, vI v8, vI v9, vI v10, vI v11, vI v12, vI v13, vR b40, vI j293_s0_55, vI (own_in1 j293_s0_55 v6 v7), .unset] [])) _
          refine XS.iload X68.here hx rfl (hb hby at_330) rfl ?_
          show Steps p.tables e below (T68.setTop (mkF m 332 #[vI p0, vI p1, vI p2, vI p3, vI p4, vI p5, vI (1 : Int32), vI v6, vI v6, vI v7, vI v8, vI v9, vI v10, vI v11, vI v12, vI v13, vR b40, vI j293_s0_55, vI (own_in1 j293_s0_55 v6 v7), .unset] [(.int (1 : Int32))])) _
          refine XS.iconst X68.here hx rfl (hb hby at_332) ?_
          show Steps p.tables e below (T68.setTop (mkF m 333 #[vI p0, vI p1, vI p2, vI p3, vI p4, vI p5, vI (1 : Int32), vI v6, vI v6, vI v7, vI v8, vI v9, vI v10, vI v11, vI v12, vI v13, vR b40, vI j293_s0_55, vI (own_in1 j293_s0_55 v6 v7), .unset] [(.int (1 : Int32)), (.int (1 : Int32))])) _
          refine XS.icmpYes X68.here hx rfl (pc0 := 333) (pc' := 350) rfl (hb hby at_333) rfl (flt (by decide : ¬ ((1 : Int32) < (1 : Int32)))).2.2.2 (by decide) (by decide) ?_
          show Steps p.tables e below (T68.setTop (mkF m 350 #[vI p0, vI p1, vI p2, vI p3, vI p4, vI p5, vI (1 : Int32), vI v6, vI v6, vI v7, vI v8, vI v9, vI v10, vI v11, vI v12, vI v13, vR b40, vI j293_s0_55, vI (own_in1 j293_s0_55 v6 v7), .unset] [])) _
          refine XS.iload X68.here hx rfl (hb hby at_350) rfl ?_
          show Steps p.tables e below (T68.setTop (mkF m 352 #[vI p0, vI p1, vI p2, vI p3, vI p4, vI p5, vI (1 : Int32), vI v6, vI v6, vI v7, vI v8, vI v9, vI v10, vI v11, vI v12, vI v13, vR b40, vI j293_s0_55, vI (own_in1 j293_s0_55 v6 v7), .unset] [(.int (1 : Int32))])) _
          refine XS.iconst X68.here hx rfl (hb hby at_352) ?_
          show Steps p.tables e below (T68.setTop (mkF m 353 #[vI p0, vI p1, vI p2, vI p3, vI p4, vI p5, vI (1 : Int32), vI v6, vI v6, vI v7, vI v8, vI v9, vI v10, vI v11, vI v12, vI v13, vR b40, vI j293_s0_55, vI (own_in1 j293_s0_55 v6 v7), .unset] [(.int (2 : Int32)), (.int (1 : Int32))])) _
          refine XS.icmpYes X68.here hx rfl (pc0 := 353) (pc' := 370) rfl (hb hby at_353) rfl (flt (by decide : ¬ ((2 : Int32) < (1 : Int32)))).2.2.2 (by decide) (by decide) ?_
          show Steps p.tables e below (T68.setTop (mkF m 370 #[vI p0, vI p1, vI p2, vI p3, vI p4, vI p5, vI (1 : Int32), vI v6, vI v6, vI v7, vI v8, vI v9, vI v10, vI v11, vI v12, vI v13, vR b40, vI j293_s0_55, vI (own_in1 j293_s0_55 v6 v7), .unset] [])) _
          refine XS.iload X68.here hx rfl (hb hby at_370) rfl ?_
          show Steps p.tables e below (T68.setTop (mkF m 372 #[vI p0, vI p1, vI p2, vI p3, vI p4, vI p5, vI (1 : Int32), vI v6, vI v6, vI v7, vI v8, vI v9, vI v10, vI v11, vI v12, vI v13, vR b40, vI j293_s0_55, vI (own_in1 j293_s0_55 v6 v7), .unset] [(.int (1 : Int32))])) _
          refine XS.iconst X68.here hx rfl (hb hby at_372) ?_
          show Steps p.tables e below (T68.setTop (mkF m 373 #[vI p0, vI p1, vI p2, vI p3, vI p4, vI p5, vI (1 : Int32), vI v6, vI v6, vI v7, vI v8, vI v9, vI v10, vI v11, vI v12, vI v13, vR b40, vI j293_s0_55, vI (own_in1 j293_s0_55 v6 v7), .unset] [(.int (3 : Int32)), (.int (1 : Int32))])) _
          refine XS.icmpYes X68.here hx rfl (pc0 := 373) (pc' := 394) rfl (hb hby at_373) rfl (flt (by decide : ¬ ((3 : Int32) < (1 : Int32)))).2.2.2 (by decide) (by decide) ?_
          show Steps p.tables e below (T68.setTop (mkF m 394 #[vI p0, vI p1, vI p2, vI p3, vI p4, vI p5, vI (1 : Int32), vI v6, vI v6, vI v7, vI v8, vI v9, vI v10, vI v11, vI v12, vI v13, vR b40, vI j293_s0_55, vI (own_in1 j293_s0_55 v6 v7), .unset] [])) _
          refine XS.iconst X68.here hx rfl (hb hby at_394) ?_
          show Steps p.tables e below (T68.setTop (mkF m 395 #[vI p0, vI p1, vI p2, vI p3, vI p4, vI p5, vI (1 : Int32), vI v6, vI v6, vI v7, vI v8, vI v9, vI v10, vI v11, vI v12, vI v13, vR b40, vI j293_s0_55, vI (own_in1 j293_s0_55 v6 v7), .unset] [(.int (0 : Int32))])) _
          exact k)
        exact tail79 ⟨(0 : Int32), (by simp [own_in1, c320_70]), pre71⟩
      · skip
        have pre72 : Go p.tables e below S0 T68 (mkF m 327 #[vI p0, vI p1, vI p2, vI p3, vI p4, vI p5, vI (1 : Int32), vI v6, vI v6, vI v7, vI v8, vI v9, vI v10, vI v11, vI v12, vI v13, vR b40, vI j293_s0_55, vI (own_in1 j293_s0_55 v6 v7), .unset] [(.int v7), (.int j293_s0_55)]) := fun t k => pre69 t (by
          refine XS.icmpNo X68.here hx rfl (hb hby at_320) rfl (flt c320_70).2.2.1 ?_
          show Steps p.tables e below (T68.setTop (mkF m 323 #[vI p0, vI p1, vI p2, vI p3, vI p4, vI p5, vI (1 : Int32), vI v6, vI v6, vI v7, vI v8, vI v9, vI v10, vI v11, vI v12, vI v13, vR b40, vI j293_s0_55, vI (own_in1 j293_s0_55 v6 v7), .unset] [])) _
          refine XS.iload X68.here hx rfl (hb hby at_323) rfl ?_
          show Steps p.tables e below (T68.setTop (mkF m 325 #[vI p0, vI p1, vI p2, vI p3, vI p4, vI p5, vI (1 : Int32), vI v6, vI v6, vI v7, vI v8, vI v9, vI v10, vI v11, vI v12, vI v13, vR b40, vI j293_s0_55, vI (own_in1 j293_s0_55 v6 v7), .unset] [(.int j293_s0_55)])) _
          refine XS.iload X68.here hx rfl (hb hby at_325) rfl ?_
          show Steps p.tables e below (T68.setTop (mkF m 327 #[vI p0, vI p1, vI p2, vI p3, vI p4, vI p5, vI (1 : Int32), vI v6, vI v6, vI v7, vI v8, vI v9, vI v10, vI v11, vI v12, vI v13, vR b40, vI j293_s0_55, vI (own_in1 j293_s0_55 v6 v7), .unset] [(.int v7), (.int j293_s0_55)])) _
          exact k)
        by_cases c327_73 : v7 < j293_s0_55
        · skip
          have pre74 : Go p.tables e below S0 T68 (mkF m 395 #[vI p0, vI p1, vI p2, vI p3, vI p4, vI p5, vI (1 : Int32), vI v6, vI v6, vI v7, vI v8, vI v9, vI v10, vI v11, vI v12, vI v13, vR b40, vI j293_s0_55, vI (own_in1 j293_s0_55 v6 v7), .unset] [(.int (0 : Int32))]) := fun t k => pre72 t (by
            refine XS.icmpNo X68.here hx rfl (hb hby at_327) rfl (tlt c327_73).2.2.2 ?_
            show Steps p.tables e below (T68.setTop (mkF m 330 #[vI p0, vI p1, vI p2, vI p3, vI p4, vI p5, vI (1 : Int32), vI v6, vI v6, vI v7, vI v8, vI v9, vI v10, vI v11, vI v12, vI v13, vR b40, vI j293_s0_55, vI (own_in1 j293_s0_55 v6 v7), .unset] [])) _
            refine XS.iload X68.here hx rfl (hb hby at_330) rfl ?_
            show Steps p.tables e below (T68.setTop (mkF m 332 #[vI p0, vI p1, vI p2, vI p3, vI p4, vI p5, vI (1 : Int32), vI v6, vI v6, vI v7, vI v8, vI v9, vI v10, vI v11, vI v12, vI v13, vR b40, vI j293_s0_55, vI (own_in1 j293_s0_55 v6 v7), .unset] [(.int (1 : Int32))])) _
            refine XS.iconst X68.here hx rfl (hb hby at_332) ?_
            show Steps p.tables e below (T68.setTop (mkF m 333 #[vI p0, vI p1, vI p2, vI p3, vI p4, vI p5, vI (1 : Int32), vI v6, vI v6, vI v7, vI v8, vI v9, vI v10, vI v11, vI v12, vI v13, vR b40, vI j293_s0_55, vI (own_in1 j293_s0_55 v6 v7), .unset] [(.int (1 : Int32)), (.int (1 : Int32))])) _
            refine XS.icmpYes X68.here hx rfl (pc0 := 333) (pc' := 350) rfl (hb hby at_333) rfl (flt (by decide : ¬ ((1 : Int32) < (1 : Int32)))).2.2.2 (by decide) (by decide) ?_
            show Steps p.tables e below (T68.setTop (mkF m 350 #[vI p0, vI p1, vI p2, vI p3, vI p4, vI p5, vI (1 : Int32), vI v6, vI v6, vI v7, vI v8, vI v9, vI v10, vI v11, vI v12, vI v13, vR b40, vI j293_s0_55, vI (own_in1 j293_s0_55 v6 v7), .unset] [])) _
            refine XS.iload X68.here hx rfl (hb hby at_350) rfl ?_
            show Steps p.tables e below (T68.setTop (mkF m 352 #[vI p0, vI p1, vI p2, vI p3, vI p4, vI p5, vI (1 : Int32), vI v6, vI v6, vI v7, vI v8, vI v9, vI v10, vI v11, vI v12, vI v13, vR b40, vI j293_s0_55, vI (own_in1 j293_s0_55 v6 v7), .unset] [(.int (1 : Int32))])) _
            refine XS.iconst X68.here hx rfl (hb hby at_352) ?_
            show Steps p.tables e below (T68.setTop (mkF m 353 #[vI p0, vI p1, vI p2, vI p3, vI p4, vI p5, vI (1 : Int32), vI v6, vI v6, vI v7, vI v8, vI v9, vI v10, vI v11, vI v12, vI v13, vR b40, vI j293_s0_55, vI (own_in1 j293_s0_55 v6 v7), .unset] [(.int (2 : Int32)), (.int (1 : Int32))])) _
            refine XS.icmpYes X68.here hx rfl (pc0 := 353) (pc' := 370) rfl (hb hby at_353) rfl (flt (by decide : ¬ ((2 : Int32) < (1 : Int32)))).2.2.2 (by decide) (by decide) ?_
            show Steps p.tables e below (T68.setTop (mkF m 370 #[vI p0, vI p1, vI p2, vI p3, vI p4, vI p5, vI (1 : Int32), vI v6, vI v6, vI v7, vI v8, vI v9, vI v10, vI v11, vI v12, vI v13, vR b40, vI j293_s0_55, vI (own_in1 j293_s0_55 v6 v7), .unset] [])) _
            refine XS.iload X68.here hx rfl (hb hby at_370) rfl ?_
            show Steps p.tables e below (T68.setTop (mkF m 372 #[vI p0, vI p1, vI p2, vI p3, vI p4, vI p5, vI (1 : Int32), vI v6, vI v6, vI v7, vI v8, vI v9, vI v10, vI v11, vI v12, vI v13, vR b40, vI j293_s0_55, vI (own_in1 j293_s0_55 v6 v7), .unset] [(.int (1 : Int32))])) _
            refine XS.iconst X68.here hx rfl (hb hby at_372) ?_
            show Steps p.tables e below (T68.setTop (mkF m 373 #[vI p0, vI p1, vI p2, vI p3, vI p4, vI p5, vI (1 : Int32), vI v6, vI v6, vI v7, vI v8, vI v9, vI v10, vI v11, vI v12, vI v13, vR b40, vI j293_s0_55, vI (own_in1 j293_s0_55 v6 v7), .unset] [(.int (3 : Int32)), (.int (1 : Int32))])) _
            refine XS.icmpYes X68.here hx rfl (pc0 := 373) (pc' := 394) rfl (hb hby at_373) rfl (flt (by decide : ¬ ((3 : Int32) < (1 : Int32)))).2.2.2 (by decide) (by decide) ?_
            show Steps p.tables e below (T68.setTop (mkF m 394 #[vI p0, vI p1, vI p2, vI p3, vI p4, vI p5, vI (1 : Int32), vI v6, vI v6, vI v7, vI v8, vI v9, vI v10, vI v11, vI v12, vI v13, vR b40, vI j293_s0_55, vI (own_in1 j293_s0_55 v6 v7), .unset] [])) _
            refine XS.iconst X68.here hx rfl (hb hby at_394) ?_
            show Steps p.tables e below (T68.setTop (mkF m 395 #[vI p0, vI p1, vI p2, vI p3, vI p4, vI p5, vI (1 : Int32), vI v6, vI v6, vI v7, vI v8, vI v9, vI v10, vI v11, vI v12, vI v13, vR b40, vI j293_s0_55, vI (own_in1 j293_s0_55 v6 v7), .unset] [(.int (0 : Int32))])) _
            exact k)
          exact tail79 ⟨(0 : Int32), (by simp [own_in1, c320_70, c327_73]), pre74⟩
        · skip
          have pre75 : Go p.tables e below S0 T68 (mkF m 395 #[vI p0, vI p1, vI p2, vI p3, vI p4, vI p5, vI (1 : Int32), vI v6, vI v6, vI v7, vI v8, vI v9, vI v10, vI v11, vI v12, vI v13, vR b40, vI j293_s0_55, vI (own_in1 j293_s0_55 v6 v7), .unset] [(.int (1 : Int32))]) := fun t k => pre72 t (by
            refine XS.icmpYes X68.here hx rfl (pc0 := 327) (pc' := 390) rfl (hb hby at_327) rfl (flt c327_73).2.2.2 (by decide) (by decide) ?_
            show Steps p.tables e below (T68.setTop (mkF m 390 #[vI p0, vI p1, vI p2, vI p3, vI p4, vI p5, vI (1 : Int32), vI v6, vI v6, vI v7, vI v8, vI v9, vI v10, vI v11, vI v12, vI v13, vR b40, vI j293_s0_55, vI (own_in1 j293_s0_55 v6 v7), .unset] [])) _
            refine XS.iconst X68.here hx rfl (hb hby at_390) ?_
            show Steps p.tables e below (T68.setTop (mkF m 391 #[vI p0, vI p1, vI p2, vI p3, vI p4, vI p5, vI (1 : Int32), vI v6, vI v6, vI v7, vI v8, vI v9, vI v10, vI v11, vI v12, vI v13, vR b40, vI j293_s0_55, vI (own_in1 j293_s0_55 v6 v7), .unset] [(.int (1 : Int32))])) _
            refine XS.goto X68.here hx rfl (pc0 := 391) (pc' := 395) rfl (hb hby at_391) (by decide) (by decide) ?_
            show Steps p.tables e below (T68.setTop (mkF m 395 #[vI p0, vI p1, vI p2, vI p3, vI p4, vI p5, vI (1 : Int32), vI v6, vI v6, vI v7, vI v8, vI v9, vI v10, vI v11, vI v12, vI v13, vR b40, vI j293_s0_55, vI (own_in1 j293_s0_55 v6 v7), .unset] [(.int (1 : Int32))])) _
            exact k)
          exact tail79 ⟨(1 : Int32), (by simp [own_in1, c320_70, c327_73]), pre75⟩
    rintro ⟨j395_s0_76, hj395_77, pre78⟩
    have key := hj395_77.symm
    have pre80 : Go p.tables e below S0 T68 (mkF m 401 #[vI p0, vI p1, vI p2, vI p3, vI p4, vI p5, vI (1 : Int32), vI v6, vI v6, vI v7, vI v8, vI v9, vI v10, vI v11, vI v12, vI v13, vR b40, vI j293_s0_55, vI (own_in1 j293_s0_55 v6 v7), vI j395_s0_76] [(.int j395_s0_76), (.int (own_in1 j293_s0_55 v6 v7))]) := fun t k => pre78 t (by
      refine XS.istore X68.here hx rfl (hb hby at_395) rfl (l' := #[vI p0, vI p1, vI p2, vI p3, vI p4, vI p5, vI (1 : Int32), vI v6, vI v6, vI v7, vI v8, vI v9, vI v10, vI v11, vI v12, vI v13, vR b40, vI j293_s0_55, vI (own_in1 j293_s0_55 v6 v7), vI j395_s0_76]) rfl ?_
      show Steps p.tables e below (T68.setTop (mkF m 397 #[vI p0, vI p1, vI p2, vI p3, vI p4, vI p5, vI (1 : Int32), vI v6, vI v6, vI v7, vI v8, vI v9, vI v10, vI v11, vI v12, vI v13, vR b40, vI j293_s0_55, vI (own_in1 j293_s0_55 v6 v7), vI j395_s0_76] [])) _
      refine XS.iload X68.here hx rfl (hb hby at_397) rfl ?_
      show Steps p.tables e below (T68.setTop (mkF m 399 #[vI p0, vI p1, vI p2, vI p3, vI p4, vI p5, vI (1 : Int32), vI v6, vI v6, vI v7, vI v8, vI v9, vI v10, vI v11, vI v12, vI v13, vR b40, vI j293_s0_55, vI (own_in1 j293_s0_55 v6 v7), vI j395_s0_76] [(.int (own_in1 j293_s0_55 v6 v7))])) _
      refine XS.iload X68.here hx rfl (hb hby at_399) rfl ?_
      show Steps p.tables e below (T68.setTop (mkF m 401 #[vI p0, vI p1, vI p2, vI p3, vI p4, vI p5, vI (1 : Int32), vI v6, vI v6, vI v7, vI v8, vI v9, vI v10, vI v11, vI v12, vI v13, vR b40, vI j293_s0_55, vI (own_in1 j293_s0_55 v6 v7), vI j395_s0_76] [(.int j395_s0_76), (.int (own_in1 j293_s0_55 v6 v7))])) _
      exact k)
    have cc81 : (own_in1 j293_s0_55 v6 v7) = j395_s0_76 := key
    have pre82 : Go p.tables e below S0 T68 (mkF m 409 #[vI p0, vI p1, vI p2, vI p3, vI p4, vI p5, vI (1 : Int32), vI v6, vI v6, vI v7, vI v8, vI v9, vI v10, vI v11, vI v12, vI v13, vR b40, vI j293_s0_55, vI (own_in1 j293_s0_55 v6 v7), vI j395_s0_76] [(.int (1 : Int32))]) := fun t k => pre80 t (by
      refine XS.icmpNo X68.here hx rfl (hb hby at_401) rfl (teq cc81).2 ?_
      show Steps p.tables e below (T68.setTop (mkF m 404 #[vI p0, vI p1, vI p2, vI p3, vI p4, vI p5, vI (1 : Int32), vI v6, vI v6, vI v7, vI v8, vI v9, vI v10, vI v11, vI v12, vI v13, vR b40, vI j293_s0_55, vI (own_in1 j293_s0_55 v6 v7), vI j395_s0_76] [])) _
      refine XS.iconst X68.here hx rfl (hb hby at_404) ?_
      show Steps p.tables e below (T68.setTop (mkF m 405 #[vI p0, vI p1, vI p2, vI p3, vI p4, vI p5, vI (1 : Int32), vI v6, vI v6, vI v7, vI v8, vI v9, vI v10, vI v11, vI v12, vI v13, vR b40, vI j293_s0_55, vI (own_in1 j293_s0_55 v6 v7), vI j395_s0_76] [(.int (1 : Int32))])) _
      refine XS.goto X68.here hx rfl (pc0 := 405) (pc' := 409) rfl (hb hby at_405) (by decide) (by decide) ?_
      show Steps p.tables e below (T68.setTop (mkF m 409 #[vI p0, vI p1, vI p2, vI p3, vI p4, vI p5, vI (1 : Int32), vI v6, vI v6, vI v7, vI v8, vI v9, vI v10, vI v11, vI v12, vI v13, vR b40, vI j293_s0_55, vI (own_in1 j293_s0_55 v6 v7), vI j395_s0_76] [(.int (1 : Int32))])) _
      exact k)
    obtain ⟨fs, hr, hrun, hended, hW, hsame⟩ := X68.leave (v := some (.int (1 : Int32))) (fun h => by rw [Bd.returns] at h; cases h)
    exact ⟨_, _, pre82.fin hS0 (retN X68 hx (t := .boolean) Bd.returns (by simp) (hb hby at_409) hr), hrun, hended, _, _, rfl, (by
      show Q0 Z p0 p1 p2 p3 p4 p5 h0 n0 _ T68.heap _
      rw [eq68]
      exact ⟨rfl, N68⟩), ⟨_, rfl⟩, hW, hsame.mono (by decide) (by decide)⟩
  · skip
    have pre83 : Go p.tables e below S0 T5 (mkF m 151 #[vI p0, vI p1, vI p2, vI p3, vI p4, vI p5, vI (2 : Int32), vI v6, vI v6, vI v7, vI v8, vI v9, vI v10, vI v11, vI v12, vI v13, .unset, .unset, .unset, .unset] [(.int (4 : Int32))]) := fun t k => pre13 t (by
      refine XS.iload X5.here hx rfl (hb hby at_107) rfl ?_
      show Steps p.tables e below (T5.setTop (mkF m 109 #[vI p0, vI p1, vI p2, vI p3, vI p4, vI p5, vI (2 : Int32), vI v6, vI v6, vI v7, vI v8, vI v9, vI v10, vI v11, vI v12, vI v13, .unset, .unset, .unset, .unset] [(.int (2 : Int32))])) _
      refine XS.ifYes X5.here hx rfl (pc0 := 109) (pc' := 120) rfl (hb hby at_109) rfl ((if0 _ _).trans (feq (by decide : ¬ ((2 : Int32) = (0 : Int32)))).2) (by decide) (by decide) ?_
      show Steps p.tables e below (T5.setTop (mkF m 120 #[vI p0, vI p1, vI p2, vI p3, vI p4, vI p5, vI (2 : Int32), vI v6, vI v6, vI v7, vI v8, vI v9, vI v10, vI v11, vI v12, vI v13, .unset, .unset, .unset, .unset] [])) _
      refine XS.iload X5.here hx rfl (hb hby at_120) rfl ?_
      show Steps p.tables e below (T5.setTop (mkF m 122 #[vI p0, vI p1, vI p2, vI p3, vI p4, vI p5, vI (2 : Int32), vI v6, vI v6, vI v7, vI v8, vI v9, vI v10, vI v11, vI v12, vI v13, .unset, .unset, .unset, .unset] [(.int (2 : Int32))])) _
      refine XS.iconst X5.here hx rfl (hb hby at_122) ?_
      show Steps p.tables e below (T5.setTop (mkF m 123 #[vI p0, vI p1, vI p2, vI p3, vI p4, vI p5, vI (2 : Int32), vI v6, vI v6, vI v7, vI v8, vI v9, vI v10, vI v11, vI v12, vI v13, .unset, .unset, .unset, .unset] [(.int (1 : Int32)), (.int (2 : Int32))])) _
      refine XS.icmpYes X5.here hx rfl (pc0 := 123) (pc' := 144) rfl (hb hby at_123) rfl (feq (by decide : ¬ ((2 : Int32) = (1 : Int32)))).2 (by decide) (by decide) ?_
      show Steps p.tables e below (T5.setTop (mkF m 144 #[vI p0, vI p1, vI p2, vI p3, vI p4, vI p5, vI (2 : Int32), vI v6, vI v6, vI v7, vI v8, vI v9, vI v10, vI v11, vI v12, vI v13, .unset, .unset, .unset, .unset] [])) _
      refine XS.iload X5.here hx rfl (hb hby at_144) rfl ?_
      show Steps p.tables e below (T5.setTop (mkF m 146 #[vI p0, vI p1, vI p2, vI p3, vI p4, vI p5, vI (2 : Int32), vI v6, vI v6, vI v7, vI v8, vI v9, vI v10, vI v11, vI v12, vI v13, .unset, .unset, .unset, .unset] [(.int (2 : Int32))])) _
      refine XS.iconst X5.here hx rfl (hb hby at_146) ?_
      show Steps p.tables e below (T5.setTop (mkF m 147 #[vI p0, vI p1, vI p2, vI p3, vI p4, vI p5, vI (2 : Int32), vI v6, vI v6, vI v7, vI v8, vI v9, vI v10, vI v11, vI v12, vI v13, .unset, .unset, .unset, .unset] [(.int (2 : Int32)), (.int (2 : Int32))])) _
      refine XS.icmpNo X5.here hx rfl (hb hby at_147) rfl (teq (rfl : (2 : Int32) = (2 : Int32))).2 ?_
      show Steps p.tables e below (T5.setTop (mkF m 150 #[vI p0, vI p1, vI p2, vI p3, vI p4, vI p5, vI (2 : Int32), vI v6, vI v6, vI v7, vI v8, vI v9, vI v10, vI v11, vI v12, vI v13, .unset, .unset, .unset, .unset] [])) _
      refine XS.iconst X5.here hx rfl (hb hby at_150) ?_
      show Steps p.tables e below (T5.setTop (mkF m 151 #[vI p0, vI p1, vI p2, vI p3, vI p4, vI p5, vI (2 : Int32), vI v6, vI v6, vI v7, vI v8, vI v9, vI v10, vI v11, vI v12, vI v13, .unset, .unset, .unset, .unset] [(.int (4 : Int32))])) _
      exact k)
    obtain ⟨T84, h84, kA84, X84, e84, E84, A84, st84⟩ := newP X5 hx hZ (hw _ (List.mem_of_getElem? (i := 9) rfl)) eq5 (g := (mkF m 151 #[vI p0, vI p1, vI p2, vI p3, vI p4, vI p5, vI (2 : Int32), vI v6, vI v6, vI v7, vI v8, vI v9, vI v10, vI v11, vI v12, vI v13, .unset, .unset, .unset, .unset] [(.int (4 : Int32))])) rfl (hb hby at_151) rfl (by decide) (cap := 4) (by decide) (by decide) (by decide) (by decide)
    obtain ⟨b84, g84⟩ : ∃ z, z = h0.size := ⟨_, rfl⟩
    rw [← g84] at A84 st84
    have pre84 : Go p.tables e below S0 T84 (mkF m 153 #[vI p0, vI p1, vI p2, vI p3, vI p4, vI p5, vI (2 : Int32), vI v6, vI v6, vI v7, vI v8, vI v9, vI v10, vI v11, vI v12, vI v13, .unset, .unset, .unset, .unset] [(.ref b84)]) := fun t k => pre83 t (st84 t k)
    have bo84 : n0 ≤ b84 := Nat.le_trans Z0 (Nat.le_of_eq g84.symm)
    have zz86 : n0 ≤ h84.size := Nat.le_trans Z0 E84.1
    have av84 : Arv Z h84 b84 kA84 .int (4 : Int32) [(.int (0 : Int32)), (.int (0 : Int32)), (.int (0 : Int32)), (.int (0 : Int32))] (.int (0 : Int32)) := (Arv.new A84 (by decide)).pad (pad_rep [] (.int (0 : Int32)) 4)
    have pre87 : Go p.tables e below S0 T84 (mkF m 157 #[vI p0, vI p1, vI p2, vI p3, vI p4, vI p5, vI (2 : Int32), vI v6, vI v6, vI v7, vI v8, vI v9, vI v10, vI v11, vI v12, vI v13, .unset, .unset, .unset, .unset] [(.int v6), (.int (0 : Int32)), (.ref b84), (.ref b84)]) := fun t k => pre84 t (by
      refine XS.dup X84.here hx rfl (hb hby at_153) rfl rfl ?_
      show Steps p.tables e below (T84.setTop (mkF m 154 #[vI p0, vI p1, vI p2, vI p3, vI p4, vI p5, vI (2 : Int32), vI v6, vI v6, vI v7, vI v8, vI v9, vI v10, vI v11, vI v12, vI v13, .unset, .unset, .unset, .unset] [(.ref b84), (.ref b84)])) _
      refine XS.iconst X84.here hx rfl (hb hby at_154) ?_
      show Steps p.tables e below (T84.setTop (mkF m 155 #[vI p0, vI p1, vI p2, vI p3, vI p4, vI p5, vI (2 : Int32), vI v6, vI v6, vI v7, vI v8, vI v9, vI v10, vI v11, vI v12, vI v13, .unset, .unset, .unset, .unset] [(.int (0 : Int32)), (.ref b84), (.ref b84)])) _
      refine XS.iload X84.here hx rfl (hb hby at_155) rfl ?_
      show Steps p.tables e below (T84.setTop (mkF m 157 #[vI p0, vI p1, vI p2, vI p3, vI p4, vI p5, vI (2 : Int32), vI v6, vI v6, vI v7, vI v8, vI v9, vI v10, vI v11, vI v12, vI v13, .unset, .unset, .unset, .unset] [(.int v6), (.int (0 : Int32)), (.ref b84), (.ref b84)])) _
      exact k)
    obtain ⟨cl88, Ar88, q88, S88, M88, H88, G88⟩ := id av84
    have in88 : ¬ ((0 : Int32) < 0 ∨ cl88.slots.size ≤ ((0 : Int32)).toNatClampNeg) := inb_of S88 ⟨by decide, by decide⟩
    obtain ⟨T88, h88, X88, e88, W88, st88⟩ := stI X84 hx hZ e84 Ar88 (j := (0 : Int32)) in88 (g := (mkF m 157 #[vI p0, vI p1, vI p2, vI p3, vI p4, vI p5, vI (2 : Int32), vI v6, vI v6, vI v7, vI v8, vI v9, vI v10, vI v11, vI v12, vI v13, .unset, .unset, .unset, .unset] [(.int v6), (.int (0 : Int32)), (.ref b84), (.ref b84)])) rfl rfl (hb hby at_157)
    have pre88 : Go p.tables e below S0 T88 (mkF m 158 #[vI p0, vI p1, vI p2, vI p3, vI p4, vI p5, vI (2 : Int32), vI v6, vI v6, vI v7, vI v8, vI v9, vI v10, vI v11, vI v12, vI v13, .unset, .unset, .unset, .unset] [(.ref b84)]) := fun t k => pre87 t (st88 t k)
    have N88 := Fr.snoc X88 N5 bo84
    have av88 : Arv Z h88 b84 kA84 .int (4 : Int32) [(.int v6), (.int (0 : Int32)), (.int (0 : Int32)), (.int (0 : Int32))] (.int (0 : Int32)) := Arv.set Ar88 q88 S88 M88 H88 G88 rfl W88 0 rfl (Nat.le_of_ble_eq_true rfl)
    have zz90 : n0 ≤ h88.size := Nat.le_trans zz86 (Keep.of_wr W88).1
    have pre91 : Go p.tables e below S0 T88 (mkF m 162 #[vI p0, vI p1, vI p2, vI p3, vI p4, vI p5, vI (2 : Int32), vI v6, vI v6, vI v7, vI v8, vI v9, vI v10, vI v11, vI v12, vI v13, .unset, .unset, .unset, .unset] [(.int v7), (.int (1 : Int32)), (.ref b84), (.ref b84)]) := fun t k => pre88 t (by
      refine XS.dup X88.here hx rfl (hb hby at_158) rfl rfl ?_
      show Steps p.tables e below (T88.setTop (mkF m 159 #[vI p0, vI p1, vI p2, vI p3, vI p4, vI p5, vI (2 : Int32), vI v6, vI v6, vI v7, vI v8, vI v9, vI v10, vI v11, vI v12, vI v13, .unset, .unset, .unset, .unset] [(.ref b84), (.ref b84)])) _
      refine XS.iconst X88.here hx rfl (hb hby at_159) ?_
      show Steps p.tables e below (T88.setTop (mkF m 160 #[vI p0, vI p1, vI p2, vI p3, vI p4, vI p5, vI (2 : Int32), vI v6, vI v6, vI v7, vI v8, vI v9, vI v10, vI v11, vI v12, vI v13, .unset, .unset, .unset, .unset] [(.int (1 : Int32)), (.ref b84), (.ref b84)])) _
      refine XS.iload X88.here hx rfl (hb hby at_160) rfl ?_
      show Steps p.tables e below (T88.setTop (mkF m 162 #[vI p0, vI p1, vI p2, vI p3, vI p4, vI p5, vI (2 : Int32), vI v6, vI v6, vI v7, vI v8, vI v9, vI v10, vI v11, vI v12, vI v13, .unset, .unset, .unset, .unset] [(.int v7), (.int (1 : Int32)), (.ref b84), (.ref b84)])) _
      exact k)
    obtain ⟨cl92, Ar92, q92, S92, M92, H92, G92⟩ := id av88
    have in92 : ¬ ((1 : Int32) < 0 ∨ cl92.slots.size ≤ ((1 : Int32)).toNatClampNeg) := inb_of S92 ⟨by decide, by decide⟩
    obtain ⟨T92, h92, X92, e92, W92, st92⟩ := stI X88 hx hZ e88 Ar92 (j := (1 : Int32)) in92 (g := (mkF m 162 #[vI p0, vI p1, vI p2, vI p3, vI p4, vI p5, vI (2 : Int32), vI v6, vI v6, vI v7, vI v8, vI v9, vI v10, vI v11, vI v12, vI v13, .unset, .unset, .unset, .unset] [(.int v7), (.int (1 : Int32)), (.ref b84), (.ref b84)])) rfl rfl (hb hby at_162)
    have pre92 : Go p.tables e below S0 T92 (mkF m 163 #[vI p0, vI p1, vI p2, vI p3, vI p4, vI p5, vI (2 : Int32), vI v6, vI v6, vI v7, vI v8, vI v9, vI v10, vI v11, vI v12, vI v13, .unset, .unset, .unset, .unset] [(.ref b84)]) := fun t k => pre91 t (st92 t k)
    have N92 := Fr.snoc X92 N88 bo84
    have av92 : Arv Z h92 b84 kA84 .int (4 : Int32) [(.int v6), (.int v7), (.int (0 : Int32)), (.int (0 : Int32))] (.int (0 : Int32)) := Arv.set Ar92 q92 S92 M92 H92 G92 rfl W92 1 rfl (Nat.le_of_ble_eq_true rfl)
    have zz94 : n0 ≤ h92.size := Nat.le_trans zz90 (Keep.of_wr W92).1
    have pre95 : Go p.tables e below S0 T92 (mkF m 167 #[vI p0, vI p1, vI p2, vI p3, vI p4, vI p5, vI (2 : Int32), vI v6, vI v6, vI v7, vI v8, vI v9, vI v10, vI v11, vI v12, vI v13, .unset, .unset, .unset, .unset] [(.int v8), (.int (2 : Int32)), (.ref b84), (.ref b84)]) := fun t k => pre92 t (by
      refine XS.dup X92.here hx rfl (hb hby at_163) rfl rfl ?_
      show Steps p.tables e below (T92.setTop (mkF m 164 #[vI p0, vI p1, vI p2, vI p3, vI p4, vI p5, vI (2 : Int32), vI v6, vI v6, vI v7, vI v8, vI v9, vI v10, vI v11, vI v12, vI v13, .unset, .unset, .unset, .unset] [(.ref b84), (.ref b84)])) _
      refine XS.iconst X92.here hx rfl (hb hby at_164) ?_
      show Steps p.tables e below (T92.setTop (mkF m 165 #[vI p0, vI p1, vI p2, vI p3, vI p4, vI p5, vI (2 : Int32), vI v6, vI v6, vI v7, vI v8, vI v9, vI v10, vI v11, vI v12, vI v13, .unset, .unset, .unset, .unset] [(.int (2 : Int32)), (.ref b84), (.ref b84)])) _
      refine XS.iload X92.here hx rfl (hb hby at_165) rfl ?_
      show Steps p.tables e below (T92.setTop (mkF m 167 #[vI p0, vI p1, vI p2, vI p3, vI p4, vI p5, vI (2 : Int32), vI v6, vI v6, vI v7, vI v8, vI v9, vI v10, vI v11, vI v12, vI v13, .unset, .unset, .unset, .unset] [(.int v8), (.int (2 : Int32)), (.ref b84), (.ref b84)])) _
      exact k)
    obtain ⟨cl96, Ar96, q96, S96, M96, H96, G96⟩ := id av92
    have in96 : ¬ ((2 : Int32) < 0 ∨ cl96.slots.size ≤ ((2 : Int32)).toNatClampNeg) := inb_of S96 ⟨by decide, by decide⟩
    obtain ⟨T96, h96, X96, e96, W96, st96⟩ := stI X92 hx hZ e92 Ar96 (j := (2 : Int32)) in96 (g := (mkF m 167 #[vI p0, vI p1, vI p2, vI p3, vI p4, vI p5, vI (2 : Int32), vI v6, vI v6, vI v7, vI v8, vI v9, vI v10, vI v11, vI v12, vI v13, .unset, .unset, .unset, .unset] [(.int v8), (.int (2 : Int32)), (.ref b84), (.ref b84)])) rfl rfl (hb hby at_167)
    have pre96 : Go p.tables e below S0 T96 (mkF m 168 #[vI p0, vI p1, vI p2, vI p3, vI p4, vI p5, vI (2 : Int32), vI v6, vI v6, vI v7, vI v8, vI v9, vI v10, vI v11, vI v12, vI v13, .unset, .unset, .unset, .unset] [(.ref b84)]) := fun t k => pre95 t (st96 t k)
    have N96 := Fr.snoc X96 N92 bo84
    have av96 : Arv Z h96 b84 kA84 .int (4 : Int32) [(.int v6), (.int v7), (.int v8), (.int (0 : Int32))] (.int (0 : Int32)) := Arv.set Ar96 q96 S96 M96 H96 G96 rfl W96 2 rfl (Nat.le_of_ble_eq_true rfl)
    have zz98 : n0 ≤ h96.size := Nat.le_trans zz94 (Keep.of_wr W96).1
    have pre99 : Go p.tables e below S0 T96 (mkF m 172 #[vI p0, vI p1, vI p2, vI p3, vI p4, vI p5, vI (2 : Int32), vI v6, vI v6, vI v7, vI v8, vI v9, vI v10, vI v11, vI v12, vI v13, .unset, .unset, .unset, .unset] [(.int v9), (.int (3 : Int32)), (.ref b84), (.ref b84)]) := fun t k => pre96 t (by
      refine XS.dup X96.here hx rfl (hb hby at_168) rfl rfl ?_
      show Steps p.tables e below (T96.setTop (mkF m 169 #[vI p0, vI p1, vI p2, vI p3, vI p4, vI p5, vI (2 : Int32), vI v6, vI v6, vI v7, vI v8, vI v9, vI v10, vI v11, vI v12, vI v13, .unset, .unset, .unset, .unset] [(.ref b84), (.ref b84)])) _
      refine XS.iconst X96.here hx rfl (hb hby at_169) ?_
      show Steps p.tables e below (T96.setTop (mkF m 170 #[vI p0, vI p1, vI p2, vI p3, vI p4, vI p5, vI (2 : Int32), vI v6, vI v6, vI v7, vI v8, vI v9, vI v10, vI v11, vI v12, vI v13, .unset, .unset, .unset, .unset] [(.int (3 : Int32)), (.ref b84), (.ref b84)])) _
      refine XS.iload X96.here hx rfl (hb hby at_170) rfl ?_
      show Steps p.tables e below (T96.setTop (mkF m 172 #[vI p0, vI p1, vI p2, vI p3, vI p4, vI p5, vI (2 : Int32), vI v6, vI v6, vI v7, vI v8, vI v9, vI v10, vI v11, vI v12, vI v13, .unset, .unset, .unset, .unset] [(.int v9), (.int (3 : Int32)), (.ref b84), (.ref b84)])) _
      exact k)
    obtain ⟨cl100, Ar100, q100, S100, M100, H100, G100⟩ := id av96
    have in100 : ¬ ((3 : Int32) < 0 ∨ cl100.slots.size ≤ ((3 : Int32)).toNatClampNeg) := inb_of S100 ⟨by decide, by decide⟩
    obtain ⟨T100, h100, X100, e100, W100, st100⟩ := stI X96 hx hZ e96 Ar100 (j := (3 : Int32)) in100 (g := (mkF m 172 #[vI p0, vI p1, vI p2, vI p3, vI p4, vI p5, vI (2 : Int32), vI v6, vI v6, vI v7, vI v8, vI v9, vI v10, vI v11, vI v12, vI v13, .unset, .unset, .unset, .unset] [(.int v9), (.int (3 : Int32)), (.ref b84), (.ref b84)])) rfl rfl (hb hby at_172)
    have pre100 : Go p.tables e below S0 T100 (mkF m 173 #[vI p0, vI p1, vI p2, vI p3, vI p4, vI p5, vI (2 : Int32), vI v6, vI v6, vI v7, vI v8, vI v9, vI v10, vI v11, vI v12, vI v13, .unset, .unset, .unset, .unset] [(.ref b84)]) := fun t k => pre99 t (st100 t k)
    have N100 := Fr.snoc X100 N96 bo84
    have av100 : Arv Z h100 b84 kA84 .int (4 : Int32) [(.int v6), (.int v7), (.int v8), (.int v9)] (.int (0 : Int32)) := Arv.set Ar100 q100 S100 M100 H100 G100 rfl W100 3 rfl (Nat.le_of_ble_eq_true rfl)
    have zz102 : n0 ≤ h100.size := Nat.le_trans zz98 (Keep.of_wr W100).1
    have pre103 : Go p.tables e below S0 T100 (mkF m 275 #[vI p0, vI p1, vI p2, vI p3, vI p4, vI p5, vI (2 : Int32), vI v6, vI v6, vI v7, vI v8, vI v9, vI v10, vI v11, vI v12, vI v13, vR b84, .unset, .unset, .unset] [(.int (p5 &&& (1 : Int32)))]) := fun t k => pre100 t (by
      refine XS.astore X100.here hx rfl (hb hby at_173) rfl rfl (l' := #[vI p0, vI p1, vI p2, vI p3, vI p4, vI p5, vI (2 : Int32), vI v6, vI v6, vI v7, vI v8, vI v9, vI v10, vI v11, vI v12, vI v13, vR b84, .unset, .unset, .unset]) rfl ?_
      show Steps p.tables e below (T100.setTop (mkF m 175 #[vI p0, vI p1, vI p2, vI p3, vI p4, vI p5, vI (2 : Int32), vI v6, vI v6, vI v7, vI v8, vI v9, vI v10, vI v11, vI v12, vI v13, vR b84, .unset, .unset, .unset] [])) _
      refine XS.goto X100.here hx rfl (pc0 := 175) (pc' := 271) rfl (hb hby at_175) (by decide) (by decide) ?_
      show Steps p.tables e below (T100.setTop (mkF m 271 #[vI p0, vI p1, vI p2, vI p3, vI p4, vI p5, vI (2 : Int32), vI v6, vI v6, vI v7, vI v8, vI v9, vI v10, vI v11, vI v12, vI v13, vR b84, .unset, .unset, .unset] [])) _
      refine XS.iload X100.here hx rfl (hb hby at_271) rfl ?_
      show Steps p.tables e below (T100.setTop (mkF m 273 #[vI p0, vI p1, vI p2, vI p3, vI p4, vI p5, vI (2 : Int32), vI v6, vI v6, vI v7, vI v8, vI v9, vI v10, vI v11, vI v12, vI v13, vR b84, .unset, .unset, .unset] [(.int p5)])) _
      refine XS.iconst X100.here hx rfl (hb hby at_273) ?_
      show Steps p.tables e below (T100.setTop (mkF m 274 #[vI p0, vI p1, vI p2, vI p3, vI p4, vI p5, vI (2 : Int32), vI v6, vI v6, vI v7, vI v8, vI v9, vI v10, vI v11, vI v12, vI v13, vR b84, .unset, .unset, .unset] [(.int (1 : Int32)), (.int p5)])) _
      refine XS.iand X100.here hx rfl (hb hby at_274) rfl ?_
      show Steps p.tables e below (T100.setTop (mkF m 275 #[vI p0, vI p1, vI p2, vI p3, vI p4, vI p5, vI (2 : Int32), vI v6, vI v6, vI v7, vI v8, vI v9, vI v10, vI v11, vI v12, vI v13, vR b84, .unset, .unset, .unset] [(.int (p5 &&& (1 : Int32)))])) _
      exact k)
    refine cps (A := ∃ (j293_s0_107 : Int32), (Go p.tables e below S0 T100 (mkF m 293 #[vI p0, vI p1, vI p2, vI p3, vI p4, vI p5, vI (2 : Int32), vI v6, vI v6, vI v7, vI v8, vI v9, vI v10, vI v11, vI v12, vI v13, vR b84, .unset, .unset, .unset] [(.int j293_s0_107)]))) (fun tail109 => ?_) ?_
    · skip
      by_cases c275_104 : (p5 &&& (1 : Int32)) = (0 : Int32)
      · skip
        have pre105 : Go p.tables e below S0 T100 (mkF m 293 #[vI p0, vI p1, vI p2, vI p3, vI p4, vI p5, vI (2 : Int32), vI v6, vI v6, vI v7, vI v8, vI v9, vI v10, vI v11, vI v12, vI v13, vR b84, .unset, .unset, .unset] [(.int ((v6 + (p4 &&& (63 : Int32))) - (4 : Int32)))]) := fun t k => pre103 t (by
          refine XS.ifYes X100.here hx rfl (pc0 := 275) (pc' := 283) rfl (hb hby at_275) rfl ((if0 _ _).trans (teq c275_104).1) (by decide) (by decide) ?_
          show Steps p.tables e below (T100.setTop (mkF m 283 #[vI p0, vI p1, vI p2, vI p3, vI p4, vI p5, vI (2 : Int32), vI v6, vI v6, vI v7, vI v8, vI v9, vI v10, vI v11, vI v12, vI v13, vR b84, .unset, .unset, .unset] [])) _
          refine XS.iload X100.here hx rfl (hb hby at_283) rfl ?_
          show Steps p.tables e below (T100.setTop (mkF m 285 #[vI p0, vI p1, vI p2, vI p3, vI p4, vI p5, vI (2 : Int32), vI v6, vI v6, vI v7, vI v8, vI v9, vI v10, vI v11, vI v12, vI v13, vR b84, .unset, .unset, .unset] [(.int v6)])) _
          refine XS.iload X100.here hx rfl (hb hby at_285) rfl ?_
          show Steps p.tables e below (T100.setTop (mkF m 287 #[vI p0, vI p1, vI p2, vI p3, vI p4, vI p5, vI (2 : Int32), vI v6, vI v6, vI v7, vI v8, vI v9, vI v10, vI v11, vI v12, vI v13, vR b84, .unset, .unset, .unset] [(.int p4), (.int v6)])) _
          refine XS.bipush X100.here hx rfl (hb hby at_287) ?_
          show Steps p.tables e below (T100.setTop (mkF m 289 #[vI p0, vI p1, vI p2, vI p3, vI p4, vI p5, vI (2 : Int32), vI v6, vI v6, vI v7, vI v8, vI v9, vI v10, vI v11, vI v12, vI v13, vR b84, .unset, .unset, .unset] [(.int (63 : Int32)), (.int p4), (.int v6)])) _
          refine XS.iand X100.here hx rfl (hb hby at_289) rfl ?_
          show Steps p.tables e below (T100.setTop (mkF m 290 #[vI p0, vI p1, vI p2, vI p3, vI p4, vI p5, vI (2 : Int32), vI v6, vI v6, vI v7, vI v8, vI v9, vI v10, vI v11, vI v12, vI v13, vR b84, .unset, .unset, .unset] [(.int (p4 &&& (63 : Int32))), (.int v6)])) _
          refine XS.iadd X100.here hx rfl (hb hby at_290) rfl ?_
          show Steps p.tables e below (T100.setTop (mkF m 291 #[vI p0, vI p1, vI p2, vI p3, vI p4, vI p5, vI (2 : Int32), vI v6, vI v6, vI v7, vI v8, vI v9, vI v10, vI v11, vI v12, vI v13, vR b84, .unset, .unset, .unset] [(.int (v6 + (p4 &&& (63 : Int32))))])) _
          refine XS.iconst X100.here hx rfl (hb hby at_291) ?_
          show Steps p.tables e below (T100.setTop (mkF m 292 #[vI p0, vI p1, vI p2, vI p3, vI p4, vI p5, vI (2 : Int32), vI v6, vI v6, vI v7, vI v8, vI v9, vI v10, vI v11, vI v12, vI v13, vR b84, .unset, .unset, .unset] [(.int (4 : Int32)), (.int (v6 + (p4 &&& (63 : Int32))))])) _
          refine XS.isub X100.here hx rfl (hb hby at_292) rfl ?_
          show Steps p.tables e below (T100.setTop (mkF m 293 #[vI p0, vI p1, vI p2, vI p3, vI p4, vI p5, vI (2 : Int32), vI v6, vI v6, vI v7, vI v8, vI v9, vI v10, vI v11, vI v12, vI v13, vR b84, .unset, .unset, .unset] [(.int ((v6 + (p4 &&& (63 : Int32))) - (4 : Int32)))])) _
          exact k)
        exact tail109 ⟨((v6 + (p4 &&& (63 : Int32))) - (4 : Int32)), pre105⟩
      · skip
        have pre106 : Go p.tables e below S0 T100 (mkF m 293 #[vI p0, vI p1, vI p2, vI p3, vI p4, vI p5, vI (2 : Int32), vI v6, vI v6, vI v7, vI v8, vI v9, vI v10, vI v11, vI v12, vI v13, vR b84, .unset, .unset, .unset] [(.int p4)]) := fun t k => pre103 t (by
          refine XS.ifNo X100.here hx rfl (hb hby at_275) rfl ((if0 _ _).trans (feq c275_104).1) ?_
          show Steps p.tables e below (T100.setTop (mkF m 278 #[vI p0, vI p1, vI p2, vI p3, vI p4, vI p5, vI (2 : Int32), vI v6, vI v6, vI v7, vI v8, vI v9, vI v10, vI v11, vI v12, vI v13, vR b84, .unset, .unset, .unset] [])) _
          refine XS.iload X100.here hx rfl (hb hby at_278) rfl ?_
          show Steps p.tables e below (T100.setTop (mkF m 280 #[vI p0, vI p1, vI p2, vI p3, vI p4, vI p5, vI (2 : Int32), vI v6, vI v6, vI v7, vI v8, vI v9, vI v10, vI v11, vI v12, vI v13, vR b84, .unset, .unset, .unset] [(.int p4)])) _
          refine XS.goto X100.here hx rfl (pc0 := 280) (pc' := 293) rfl (hb hby at_280) (by decide) (by decide) ?_
          show Steps p.tables e below (T100.setTop (mkF m 293 #[vI p0, vI p1, vI p2, vI p3, vI p4, vI p5, vI (2 : Int32), vI v6, vI v6, vI v7, vI v8, vI v9, vI v10, vI v11, vI v12, vI v13, vR b84, .unset, .unset, .unset] [(.int p4)])) _
          exact k)
        exact tail109 ⟨p4, pre106⟩
    rintro ⟨j293_s0_107, pre108⟩
    have pre110 : Go p.tables e below S0 T100 (mkF m 295 #[vI p0, vI p1, vI p2, vI p3, vI p4, vI p5, vI (2 : Int32), vI v6, vI v6, vI v7, vI v8, vI v9, vI v10, vI v11, vI v12, vI v13, vR b84, vI j293_s0_107, .unset, .unset] []) := fun t k => pre108 t (by
      refine XS.istore X100.here hx rfl (hb hby at_293) rfl (l' := #[vI p0, vI p1, vI p2, vI p3, vI p4, vI p5, vI (2 : Int32), vI v6, vI v6, vI v7, vI v8, vI v9, vI v10, vI v11, vI v12, vI v13, vR b84, vI j293_s0_107, .unset, .unset]) rfl ?_
      show Steps p.tables e below (T100.setTop (mkF m 295 #[vI p0, vI p1, vI p2, vI p3, vI p4, vI p5, vI (2 : Int32), vI v6, vI v6, vI v7, vI v8, vI v9, vI v10, vI v11, vI v12, vI v13, vR b84, vI j293_s0_107, .unset, .unset] [])) _
      exact k)
    obtain ⟨T111, h111, X111, e111, E111, A111, D111, -, st111⟩ := newO X100 hx hZ hown (hw _ (List.mem_of_getElem? (i := 10) rfl)) (hw _ (List.mem_of_getElem? (i := 11) rfl)) (hw _ (List.mem_of_getElem? (i := 12) rfl)) e100 (g := (mkF m 295 #[vI p0, vI p1, vI p2, vI p3, vI p4, vI p5, vI (2 : Int32), vI v6, vI v6, vI v7, vI v8, vI v9, vI v10, vI v11, vI v12, vI v13, vR b84, vI j293_s0_107, .unset, .unset] [])) rfl (hb hby at_295) (by decide) (by decide)
    obtain ⟨b111, g111⟩ : ∃ z, z = h100.size := ⟨_, rfl⟩
    rw [← g111] at A111 D111 st111
    have pre111 : Go p.tables e below S0 T111 (mkF m 298 #[vI p0, vI p1, vI p2, vI p3, vI p4, vI p5, vI (2 : Int32), vI v6, vI v6, vI v7, vI v8, vI v9, vI v10, vI v11, vI v12, vI v13, vR b84, vI j293_s0_107, .unset, .unset] [(.ref b111)]) := fun t k => pre110 t (st111 t k)
    have ne112 : b84 ≠ b111 := Nat.ne_of_lt (Nat.lt_of_lt_of_le av100.lt (Nat.le_of_eq g111.symm))
    have bo111 : n0 ≤ b111 := Nat.le_trans zz102 (Nat.le_of_eq g111.symm)
    have f113_1 := av100.ext E111
    have zz114 : n0 ≤ h111.size := Nat.le_trans zz102 E111.1
    have fn111_ranges : Fld Z h111 b111 "com/example/attest/attest/metadata/ScopeSyntax$Chars" "ranges" "[I" .null := D111 (Or.inr (hw _ (List.mem_of_getElem? (i := 25) rfl))) (ty := (.array .int)) (by decide)
    have pre115 : Go p.tables e below S0 T111 (mkF m 301 #[vI p0, vI p1, vI p2, vI p3, vI p4, vI p5, vI (2 : Int32), vI v6, vI v6, vI v7, vI v8, vI v9, vI v10, vI v11, vI v12, vI v13, vR b84, vI j293_s0_107, .unset, .unset] [(.ref b84), (.ref b111), (.ref b111)]) := fun t k => pre111 t (by
      refine XS.dup X111.here hx rfl (hb hby at_298) rfl rfl ?_
      show Steps p.tables e below (T111.setTop (mkF m 299 #[vI p0, vI p1, vI p2, vI p3, vI p4, vI p5, vI (2 : Int32), vI v6, vI v6, vI v7, vI v8, vI v9, vI v10, vI v11, vI v12, vI v13, vR b84, vI j293_s0_107, .unset, .unset] [(.ref b111), (.ref b111)])) _
      refine XS.aload X111.here hx rfl (hb hby at_299) rfl rfl ?_
      show Steps p.tables e below (T111.setTop (mkF m 301 #[vI p0, vI p1, vI p2, vI p3, vI p4, vI p5, vI (2 : Int32), vI v6, vI v6, vI v7, vI v8, vI v9, vI v10, vI v11, vI v12, vI v13, vR b84, vI j293_s0_107, .unset, .unset] [(.ref b84), (.ref b111), (.ref b111)])) _
      exact k)
    obtain ⟨_, _, ⟨T116, qL116, qk116, qn116⟩, -, X116, ⟨Lc116, hQ116, ql116, qy116, qz116⟩, st116⟩ := X111.specialBack hx (y := (⟨"com/example/attest/attest/metadata/ScopeSyntax$Chars", "<init>", "([I)V"⟩ : MethodName)) rfl hown (mvT hZ (hw _ (List.mem_of_getElem? (i := 13) rfl))) (mvT hZ (hw _ (List.mem_of_getElem? (i := 14) rfl))) (mvT hZ (hw _ (List.mem_of_getElem? (i := 15) rfl))) (by decide) (backOf (W := 1) (rm3 l Z A0 hw [] b111 b84 h111 n0 zz114 A111 fn111_ranges bo111) hZ (hw _ (List.mem_of_getElem? (i := 15) rfl)) (hw _ (List.mem_of_getElem? (i := 12) rfl)) (by decide) (by decide)) (g := (mkF m 301 #[vI p0, vI p1, vI p2, vI p3, vI p4, vI p5, vI (2 : Int32), vI v6, vI v6, vI v7, vI v8, vI v9, vI v10, vI v11, vI v12, vI v13, vR b84, vI j293_s0_107, .unset, .unset] [(.ref b84), (.ref b111), (.ref b111)])) rfl (by rw [hml]; rfl) (Steps.refl _) (a := b111) (argsL := [(.ref b84)]) (rest := [(.ref b111)]) (lenOf pd_2 rfl) rfl (by show 2 * 0 + _ ≤ _; exact Nat.le_of_eq rfl) (hb hby at_301) (fun _ _ => ⟨rfl, e111, (by decide : 2 + 0 ≤ _), (by decide : 5 + 0 ≤ _)⟩)
    dsimp only [Pt.U, Pt.locs, Pt.cells, Pt.slots] at X116 ql116 qy116 qz116 st116 hQ116
    subst ql116 qy116 qz116
    obtain ⟨rfl, Nq116, Kq116, nf116_0, nf116_1⟩ := hQ116
    have N116 := Fr.app N100 Nq116
    have pre116 : Go p.tables e below S0 T116 (mkF m 304 #[vI p0, vI p1, vI p2, vI p3, vI p4, vI p5, vI (2 : Int32), vI v6, vI v6, vI v7, vI v8, vI v9, vI v10, vI v11, vI v12, vI v13, vR b84, vI j293_s0_107, .unset, .unset] [(.ref b111)]) := fun t k => pre115 t (st116.trans k)
    have f117_1 := f113_1.keep Kq116 (ninS ne112 nin0)
    have zz118 : n0 ≤ T116.heap.size := Nat.le_trans zz114 Kq116.1
    have pre119 : Go p.tables e below S0 T116 (mkF m 306 #[vI p0, vI p1, vI p2, vI p3, vI p4, vI p5, vI (2 : Int32), vI v6, vI v6, vI v7, vI v8, vI v9, vI v10, vI v11, vI v12, vI v13, vR b84, vI j293_s0_107, .unset, .unset] [(.int j293_s0_107), (.ref b111)]) := fun t k => pre116 t (by
      refine XS.iload X116.here hx rfl (hb hby at_304) rfl ?_
      show Steps p.tables e below (T116.setTop (mkF m 306 #[vI p0, vI p1, vI p2, vI p3, vI p4, vI p5, vI (2 : Int32), vI v6, vI v6, vI v7, vI v8, vI v9, vI v10, vI v11, vI v12, vI v13, vR b84, vI j293_s0_107, .unset, .unset] [(.int j293_s0_107), (.ref b111)])) _
      exact k)
    obtain ⟨cq120, kq120, qa120, qb120, qc120⟩ := isOf hZ rfl nf116_0
    obtain ⟨_, _, ⟨T120, qL120, qk120, qn120⟩, -, X120, ⟨Lc120, hQ120, ql120, qy120, qz120⟩, st120⟩ := X116.virtualBack hx (y := (⟨"com/example/attest/attest/metadata/ScopeSyntax$Chars", "contains", "(I)Z"⟩ : MethodName)) (z := (⟨"com/example/attest/attest/metadata/ScopeSyntax$Chars", "contains", "(I)Z"⟩ : MethodName)) hown (mvT hZ (hw _ (List.mem_of_getElem? (i := 26) rfl))) (mvT hZ (hw _ (List.mem_of_getElem? (i := 27) rfl))) (notFace_of_selects (args := #[]) (mvT hZ (hw _ (List.mem_of_getElem? (i := 29) rfl)))) (mvT hZ (hw _ (List.mem_of_getElem? (i := 29) rfl))) (mvT hZ (hw _ (List.mem_of_getElem? (i := 28) rfl))) (by decide) (backOf (W := 0) (rm6_2 l Z A0 hw [] b111 j293_s0_107 b84 kA84 v6 v7 v8 v9 T116.heap n0 zz118 nf116_1 f117_1 sorted2) hZ (hw _ (List.mem_of_getElem? (i := 30) rfl)) (hw _ (List.mem_of_getElem? (i := 12) rfl)) (by decide) (by decide)) qa120 qc120 (g := (mkF m 306 #[vI p0, vI p1, vI p2, vI p3, vI p4, vI p5, vI (2 : Int32), vI v6, vI v6, vI v7, vI v8, vI v9, vI v10, vI v11, vI v12, vI v13, vR b84, vI j293_s0_107, .unset, .unset] [(.int j293_s0_107), (.ref b111)])) rfl (by rw [hml]; rfl) (Steps.refl _) (argsL := [(.int j293_s0_107)]) (rest := []) (lenOf pd_3 rfl) rfl (by show 2 * 0 + _ ≤ _; exact Nat.le_of_eq rfl) (hb hby at_306) (fun _ _ => ⟨rfl, rfl, (by decide : 2 + 0 ≤ _), (by decide : 5 + 0 ≤ _)⟩)
    dsimp only [Pt.U, Pt.locs, Pt.cells, Pt.slots] at X120 ql120 qy120 qz120 st120 hQ120
    subst ql120 qy120 qz120
    obtain ⟨rfl, Nq120, eq120⟩ := hQ120
    have N120 := Fr.app N116 Nq120
    have pre120 : Go p.tables e below S0 T120 (mkF m 309 #[vI p0, vI p1, vI p2, vI p3, vI p4, vI p5, vI (2 : Int32), vI v6, vI v6, vI v7, vI v8, vI v9, vI v10, vI v11, vI v12, vI v13, vR b84, vI j293_s0_107, .unset, .unset] [(.int (own_in2 j293_s0_107 v6 v7 v8 v9))]) := fun t k => pre119 t (st120.trans k)
    have pre121 : Go p.tables e below S0 T120 (mkF m 320 #[vI p0, vI p1, vI p2, vI p3, vI p4, vI p5, vI (2 : Int32), vI v6, vI v6, vI v7, vI v8, vI v9, vI v10, vI v11, vI v12, vI v13, vR b84, vI j293_s0_107, vI (own_in2 j293_s0_107 v6 v7 v8 v9), .unset] [(.int j293_s0_107), (.int v6)]) := fun t k => pre120 t (by
      refine XS.istore X120.here hx rfl (hb hby at_309) rfl (l' := #[vI p0, vI p1, vI p2, vI p3, vI p4, vI p5, vI (2 : Int32), vI v6, vI v6, vI v7, vI v8, vI v9, vI v10, vI v11, vI v12, vI v13, vR b84, vI j293_s0_107, vI (own_in2 j293_s0_107 v6 v7 v8 v9), .unset]) rfl ?_
      show Steps p.tables e below (T120.setTop (mkF m 311 #[vI p0, vI p1, vI p2, vI p3, vI p4, vI p5, vI (2 : Int32), vI v6, vI v6, vI v7, vI v8, vI v9, vI v10, vI v11, vI v12, vI v13, vR b84, vI j293_s0_107, vI (own_in2 j293_s0_107 v6 v7 v8 v9), .unset] [])) _
      refine XS.iload X120.here hx rfl (hb hby at_311) rfl ?_
      show Steps p.tables e below (T120.setTop (mkF m 313 #[vI p0, vI p1, vI p2, vI p3, vI p4, vI p5, vI (2 : Int32), vI v6, vI v6, vI v7, vI v8, vI v9, vI v10, vI v11, vI v12, vI v13, vR b84, vI j293_s0_107, vI (own_in2 j293_s0_107 v6 v7 v8 v9), .unset] [(.int (2 : Int32))])) _
      refine XS.ifNo X120.here hx rfl (hb hby at_313) rfl ((if0 _ _).trans (tlt (by decide : (0 : Int32) < (2 : Int32))).2.2.2) ?_
      show Steps p.tables e below (T120.setTop (mkF m 316 #[vI p0, vI p1, vI p2, vI p3, vI p4, vI p5, vI (2 : Int32), vI v6, vI v6, vI v7, vI v8, vI v9, vI v10, vI v11, vI v12, vI v13, vR b84, vI j293_s0_107, vI (own_in2 j293_s0_107 v6 v7 v8 v9), .unset] [])) _
      refine XS.iload X120.here hx rfl (hb hby at_316) rfl ?_
      show Steps p.tables e below (T120.setTop (mkF m 318 #[vI p0, vI p1, vI p2, vI p3, vI p4, vI p5, vI (2 : Int32), vI v6, vI v6, vI v7, vI v8, vI v9, vI v10, vI v11, vI v12, vI v13, vR b84, vI j293_s0_107, vI (own_in2 j293_s0_107 v6 v7 v8 v9), .unset] [(.int v6)])) _
      refine XS.iload X120.here hx rfl (hb hby at_318) rfl ?_
      show Steps p.tables e below (T120.setTop (mkF m 320 #[vI p0, vI p1, vI p2, vI p3, vI p4, vI p5, vI (2 : Int32), vI v6, vI v6, vI v7, vI v8, vI v9, vI v10, vI v11, vI v12, vI v13, vR b84, vI j293_s0_107, vI (own_in2 j293_s0_107 v6 v7 v8 v9), .unset] [(.int j293_s0_107), (.int v6)])) _
      exact k)
    refine cps (A := ∃ (j395_s0_140 : Int32), (j395_s0_140 = own_in2 j293_s0_107 v6 v7 v8 v9) ∧ (Go p.tables e below S0 T120 (mkF m 395 #[vI p0, vI p1, vI p2, vI p3, vI p4, vI p5, vI (2 : Int32), vI v6, vI v6, vI v7, vI v8, vI v9, vI v10, vI v11, vI v12, vI v13, vR b84, vI j293_s0_107, vI (own_in2 j293_s0_107 v6 v7 v8 v9), .unset] [(.int j395_s0_140)]))) (fun tail143 => ?_) ?_
    · skip
      by_cases c320_122 : j293_s0_107 < v6
      · skip
        have pre123 : Go p.tables e below S0 T120 (mkF m 340 #[vI p0, vI p1, vI p2, vI p3, vI p4, vI p5, vI (2 : Int32), vI v6, vI v6, vI v7, vI v8, vI v9, vI v10, vI v11, vI v12, vI v13, vR b84, vI j293_s0_107, vI (own_in2 j293_s0_107 v6 v7 v8 v9), .unset] [(.int j293_s0_107), (.int v8)]) := fun t k => pre121 t (by
          refine XS.icmpYes X120.here hx rfl (pc0 := 320) (pc' := 330) rfl (hb hby at_320) rfl (tlt c320_122).2.2.1 (by decide) (by decide) ?_
          show Steps p.tables e below (T120.setTop (mkF m 330 #[vI p0, vI p1, vI p2, vI p3, vI p4, vI p5, vI (2 : Int32), vI v6, vI v6, vI v7, vI v8, vI v9, vI v10, vI v11, vI v12, vI v13, vR b84, vI j293_s0_107, vI (own_in2 j293_s0_107 v6 v7 v8 v9), .unset] [])) _
          refine XS.iload X120.here hx rfl (hb hby at_330) rfl ?_
          show Steps p.tables e below (T120.setTop (mkF m 332 #[vI p0, vI p1, vI p2, vI p3, vI p4, vI p5, vI (2 : Int32), vI v6, vI v6, vI v7, vI v8, vI v9, vI v10, vI v11, vI v12, vI v13, vR b84, vI j293_s0_107, vI (own_in2 j293_s0_107 v6 v7 v8 v9), .unset] [(.int (2 : Int32))])) _
          refine XS.iconst X120.here hx rfl (hb hby at_332) ?_
          show Steps p.tables e below (T120.setTop (mkF m 333 #[vI p0, vI p1, vI p2, vI p3, vI p4, vI p5, vI (2 : Int32), vI v6, vI v6, vI v7, vI v8, vI v9, vI v10, vI v11, vI v12, vI v13, vR b84, vI j293_s0_107, vI (own_in2 j293_s0_107 v6 v7 v8 v9), .unset] [(.int (1 : Int32)), (.int (2 : Int32))])) _
          refine XS.icmpNo X120.here hx rfl (hb hby at_333) rfl (tlt (by decide : (1 : Int32) < (2 : Int32))).2.2.2 ?_
          show Steps p.tables e below (T120.setTop (mkF m 336 #[vI p0, vI p1, vI p2, vI p3, vI p4, vI p5, vI (2 : Int32), vI v6, vI v6, vI v7, vI v8, vI v9, vI v10, vI v11, vI v12, vI v13, vR b84, vI j293_s0_107, vI (own_in2 j293_s0_107 v6 v7 v8 v9), .unset] [])) _
          refine XS.iload X120.here hx rfl (hb hby at_336) rfl ?_
          show Steps p.tables e below (T120.setTop (mkF m 338 #[vI p0, vI p1, vI p2, vI p3, vI p4, vI p5, vI (2 : Int32), vI v6, vI v6, vI v7, vI v8, vI v9, vI v10, vI v11, vI v12, vI v13, vR b84, vI j293_s0_107, vI (own_in2 j293_s0_107 v6 v7 v8 v9), .unset] [(.int v8)])) _
          refine XS.iload X120.here hx rfl (hb hby at_338) rfl ?_
          show Steps p.tables e below (T120.setTop (mkF m 340 #[vI p0, vI p1, vI p2, vI p3, vI p4, vI p5, vI (2 : Int32), vI v6, vI v6, vI v7, vI v8, vI v9, vI v10, vI v11, vI v12, vI v13, vR b84, vI j293_s0_107, vI (own_in2 j293_s0_107 v6 v7 v8 v9), .unset] [(.int j293_s0_107), (.int v8)])) _
          exact k)
        by_cases c340_124 : j293_s0_107 < v8
        · skip
          have pre125 : Go p.tables e below S0 T120 (mkF m 395 #[vI p0, vI p1, vI p2, vI p3, vI p4, vI p5, vI (2 : Int32), vI v6, vI v6, vI v7, vI v8, vI v9, vI v10, vI v11, vI v12, vI v13, vR b84, vI j293_s0_107, vI (own_in2 j293_s0_107 v6 v7 v8 v9), .unset] [(.int (0 : Int32))]) := fun t k => pre123 t (by
            refine XS.icmpYes X120.here hx rfl (pc0 := 340) (pc' := 350) rfl (hb hby at_340) rfl (tlt c340_124).2.2.1 (by decide) (by decide) ?_
            show Steps p.tables e below (T120.setTop (mkF m 350 #[vI p0, vI p1, vI p2, vI p3, vI p4, vI p5, vI (2 : Int32), vI v6, vI v6, vI v7, vI v8, vI v9, vI v10, vI v11, vI v12, vI v13, vR b84, vI j293_s0_107, vI (own_in2 j293_s0_107 v6 v7 v8 v9), .unset] [])) _
            refine XS.iload X120.here hx rfl (hb hby at_350) rfl ?_
            show Steps p.tables e below (T120.setTop (mkF m 352 #[vI p0, vI p1, vI p2, vI p3, vI p4, vI p5, vI (2 : Int32), vI v6, vI v6, vI v7, vI v8, vI v9, vI v10, vI v11, vI v12, vI v13, vR b84, vI j293_s0_107, vI (own_in2 j293_s0_107 v6 v7 v8 v9), .unset] [(.int (2 : Int32))])) _
            refine XS.iconst X120.here hx rfl (hb hby at_352) ?_
            show Steps p.tables e below (T120.setTop (mkF m 353 #[vI p0, vI p1, vI p2, vI p3, vI p4, vI p5, vI (2 : Int32), vI v6, vI v6, vI v7, vI v8, vI v9, vI v10, vI v11, vI v12, vI v13, vR b84, vI j293_s0_107, vI (own_in2 j293_s0_107 v6 v7 v8 v9), .unset] [(.int (2 : Int32)), (.int (2 : Int32))])) _
            refine XS.icmpYes X120.here hx rfl (pc0 := 353) (pc' := 370) rfl (hb hby at_353) rfl (flt (by decide : ¬ ((2 : Int32) < (2 : Int32)))).2.2.2 (by decide) (by decide) ?_
            show Steps p.tables e below (T120.setTop (mkF m 370 #[vI p0, vI p1, vI p2, vI p3, vI p4, vI p5, vI (2 : Int32), vI v6, vI v6, vI v7, vI v8, vI v9, vI v10, vI v11, vI v12, vI v13, vR b84, vI j293_s0_107, vI (own_in2 j293_s0_107 v6 v7 v8 v9), .unset] [])) _
            refine XS.iload X120.here hx rfl (hb hby at_370) rfl ?_
            show Steps p.tables e below (T120.setTop (mkF m 372 #[vI p0, vI p1, vI p2, vI p3, vI p4, vI p5, vI (2 : Int32), vI v6, vI v6, vI v7, vI v8, vI v9, vI v10, vI v11, vI v12, vI v13, vR b84, vI j293_s0_107, vI (own_in2 j293_s0_107 v6 v7 v8 v9), .unset] [(.int (2 : Int32))])) _
            refine XS.iconst X120.here hx rfl (hb hby at_372) ?_
            show Steps p.tables e below (T120.setTop (mkF m 373 #[vI p0, vI p1, vI p2, vI p3, vI p4, vI p5, vI (2 : Int32), vI v6, vI v6, vI v7, vI v8, vI v9, vI v10, vI v11, vI v12, vI v13, vR b84, vI j293_s0_107, vI (own_in2 j293_s0_107 v6 v7 v8 v9), .unset] [(.int (3 : Int32)), (.int (2 : Int32))])) _
            refine XS.icmpYes X120.here hx rfl (pc0 := 373) (pc' := 394) rfl (hb hby at_373) rfl (flt (by decide : ¬ ((3 : Int32) < (2 : Int32)))).2.2.2 (by decide) (by decide) ?_
            show Steps p.tables e below (T120.setTop (mkF m 394 #[vI p0, vI p1, vI p2, vI p3, vI p4, vI p5, vI (2 : Int32), vI v6, vI v6, vI v7, vI v8, vI v9, vI v10, vI v11, vI v12, vI v13, vR b84, vI j293_s0_107, vI (own_in2 j293_s0_107 v6 v7 v8 v9), .unset] [])) _
            refine XS.iconst X120.here hx rfl (hb hby at_394) ?_
            show Steps p.tables e below (T120.setTop (mkF m 395 #[vI p0, vI p1, vI p2, vI p3, vI p4, vI p5, vI (2 : Int32), vI v6, vI v6, vI v7, vI v8, vI v9, vI v10, vI v11, vI v12, vI v13, vR b84, vI j293_s0_107, vI (own_in2 j293_s0_107 v6 v7 v8 v9), .unset] [(.int (0 : Int32))])) _
            exact k)
          exact tail143 ⟨(0 : Int32), (by simp [own_in2, c320_122, c340_124]), pre125⟩
        · skip
          have pre126 : Go p.tables e below S0 T120 (mkF m 347 #[vI p0, vI p1, vI p2, vI p3, vI p4, vI p5, vI (2 : Int32), vI v6, vI v6, vI v7, vI v8, vI v9, vI v10, vI v11, vI v12, vI v13, vR b84, vI j293_s0_107, vI (own_in2 j293_s0_107 v6 v7 v8 v9), .unset] [(.int v9), (.int j293_s0_107)]) := fun t k => pre123 t (by
            refine XS.icmpNo X120.here hx rfl (hb hby at_340) rfl (flt c340_124).2.2.1 ?_
            show Steps p.tables e below (T120.setTop (mkF m 343 #[vI p0, vI p1, vI p2, vI p3, vI p4, vI p5, vI (2 : Int32), vI v6, vI v6, vI v7, vI v8, vI v9, vI v10, vI v11, vI v12, vI v13, vR b84, vI j293_s0_107, vI (own_in2 j293_s0_107 v6 v7 v8 v9), .unset] [])) _
            refine XS.iload X120.here hx rfl (hb hby at_343) rfl ?_
            show Steps p.tables e below (T120.setTop (mkF m 345 #[vI p0, vI p1, vI p2, vI p3, vI p4, vI p5, vI (2 : Int32), vI v6, vI v6, vI v7, vI v8, vI v9, vI v10, vI v11, vI v12, vI v13, vR b84, vI j293_s0_107, vI (own_in2 j293_s0_107 v6 v7 v8 v9), .unset] [(.int j293_s0_107)])) _
            refine XS.iload X120.here hx rfl (hb hby at_345) rfl ?_
            show Steps p.tables e below (T120.setTop (mkF m 347 #[vI p0, vI p1, vI p2, vI p3, vI p4, vI p5, vI (2 : Int32), vI v6, vI v6, vI v7, vI v8, vI v9, vI v10, vI v11, vI v12, vI v13, vR b84, vI j293_s0_107, vI (own_in2 j293_s0_107 v6 v7 v8 v9), .unset] [(.int v9), (.int j293_s0_107)])) _
            exact k)
          by_cases c347_127 : v9 < j293_s0_107
          · skip
            have pre128 : Go p.tables e below S0 T120 (mkF m 395 #[vI p0, vI p1, vI p2, vI p3, vI p4, vI p5, vI (2 : Int32), vI v6, vI v6, vI v7, vI v8, vI v9, vI v10, vI v11, vI v12, vI v13, vR b84, vI j293_s0_107, vI (own_in2 j293_s0_107 v6 v7 v8 v9), .unset] [(.int (0 : Int32))]) := fun t k => pre126 t (by
              refine XS.icmpNo X120.here hx rfl (hb hby at_347) rfl (tlt c347_127).2.2.2 ?_
              show Steps p.tables e below (T120.setTop (mkF m 350 #[vI p0, vI p1, vI p2, vI p3, vI p4, vI p5, vI (2 : Int32), vI v6, vI v6, vI v7, vI v8, vI v9, vI v10, vI v11, vI v12, vI v13, vR b84, vI j293_s0_107, vI (own_in2 j293_s0_107 v6 v7 v8 v9), .unset] [])) _
              refine XS.iload X120.here hx rfl (hb hby at_350) rfl ?_
              show Steps p.tables e below (T120.setTop (mkF m 352 #[vI p0, vI p1, vI p2, vI p3, vI p4, vI p5, vI (2 : Int32), vI v6, vI v6, vI v7, vI v8, vI v9, vI v10, vI v11, vI v12, vI v13, vR b84, vI j293_s0_107, vI (own_in2 j293_s0_107 v6 v7 v8 v9), .unset] [(.int (2 : Int32))])) _
              refine XS.iconst X120.here hx rfl (hb hby at_352) ?_
              show Steps p.tables e below (T120.setTop (mkF m 353 #[vI p0, vI p1, vI p2, vI p3, vI p4, vI p5, vI (2 : Int32), vI v6, vI v6, vI v7, vI v8, vI v9, vI v10, vI v11, vI v12, vI v13, vR b84, vI j293_s0_107, vI (own_in2 j293_s0_107 v6 v7 v8 v9), .unset] [(.int (2 : Int32)), (.int (2 : Int32))])) _
              refine XS.icmpYes X120.here hx rfl (pc0 := 353) (pc' := 370) rfl (hb hby at_353) rfl (flt (by decide : ¬ ((2 : Int32) < (2 : Int32)))).2.2.2 (by decide) (by decide) ?_
              show Steps p.tables e below (T120.setTop (mkF m 370 #[vI p0, vI p1, vI p2, vI p3, vI p4, vI p5, vI (2 : Int32), vI v6, vI v6, vI v7, vI v8, vI v9, vI v10, vI v11, vI v12, vI v13, vR b84, vI j293_s0_107, vI (own_in2 j293_s0_107 v6 v7 v8 v9), .unset] [])) _
              refine XS.iload X120.here hx rfl (hb hby at_370) rfl ?_
              show Steps p.tables e below (T120.setTop (mkF m 372 #[vI p0, vI p1, vI p2, vI p3, vI p4, vI p5, vI (2 : Int32), vI v6, vI v6, vI v7, vI v8, vI v9, vI v10, vI v11, vI v12, vI v13, vR b84, vI j293_s0_107, vI (own_in2 j293_s0_107 v6 v7 v8 v9), .unset] [(.int (2 : Int32))])) _
              refine XS.iconst X120.here hx rfl (hb hby at_372) ?_
              show Steps p.tables e below (T120.setTop (mkF m 373 #[vI p0, vI p1, vI p2, vI p3, vI p4, vI p5, vI (2 : Int32), vI v6, vI v6, vI v7, vI v8, vI v9, vI v10, vI v11, vI v12, vI v13, vR b84, vI j293_s0_107, vI (own_in2 j293_s0_107 v6 v7 v8 v9), .unset] [(.int (3 : Int32)), (.int (2 : Int32))])) _
              refine XS.icmpYes X120.here hx rfl (pc0 := 373) (pc' := 394) rfl (hb hby at_373) rfl (flt (by decide : ¬ ((3 : Int32) < (2 : Int32)))).2.2.2 (by decide) (by decide) ?_
              show Steps p.tables e below (T120.setTop (mkF m 394 #[vI p0, vI p1, vI p2, vI p3, vI p4, vI p5, vI (2 : Int32), vI v6, vI v6, vI v7, vI v8, vI v9, vI v10, vI v11, vI v12, vI v13, vR b84, vI j293_s0_107, vI (own_in2 j293_s0_107 v6 v7 v8 v9), .unset] [])) _
              refine XS.iconst X120.here hx rfl (hb hby at_394) ?_
              show Steps p.tables e below (T120.setTop (mkF m 395 #[vI p0, vI p1, vI p2, vI p3, vI p4, vI p5, vI (2 : Int32), vI v6, vI v6, vI v7, vI v8, vI v9, vI v10, vI v11, vI v12, vI v13, vR b84, vI j293_s0_107, vI (own_in2 j293_s0_107 v6 v7 v8 v9), .unset] [(.int (0 : Int32))])) _
              exact k)
            exact tail143 ⟨(0 : Int32), (by simp [own_in2, c320_122, c340_124, c347_127]), pre128⟩
          · skip
            have pre129 : Go p.tables e below S0 T120 (mkF m 395 #[vI p0, vI p1, vI p2, vI p3, vI p4, vI p5, vI (2 : Int32), vI v6, vI v6, vI v7, vI v8, vI v9, vI v10, vI v11, vI v12, vI v13, vR b84, vI j293_s0_107, vI (own_in2 j293_s0_107 v6 v7 v8 v9), .unset] [(.int (1 : Int32))]) := fun t k => pre126 t (by
              refine XS.icmpYes X120.here hx rfl (pc0 := 347) (pc' := 390) rfl (hb hby at_347) rfl (flt c347_127).2.2.2 (by decide) (by decide) ?_
              show Steps p.tables e below (T120.setTop (mkF m 390 #[vI p0, vI p1, vI p2, vI p3, vI p4, vI p5, vI (2 : Int32), vI v6, vI v6, vI v7, vI v8, vI v9, vI v10, vI v11, vI v12, vI v13, vR b84, vI j293_s0_107, vI (own_in2 j293_s0_107 v6 v7 v8 v9), .unset] [])) _
              refine XS.iconst X120.here hx rfl (hb hby at_390) ?_
              show Steps p.tables e below (T120.setTop (mkF m 391 #[vI p0, vI p1, vI p2, vI p3, vI p4, vI p5, vI (2 : Int32), vI v6, vI v6, vI v7, vI v8, vI v9, vI v10, vI v11, vI v12, vI v13, vR b84, vI j293_s0_107, vI (own_in2 j293_s0_107 v6 v7 v8 v9), .unset] [(.int (1 : Int32))])) _
              refine XS.goto X120.here hx rfl (pc0 := 391) (pc' := 395) rfl (hb hby at_391) (by decide) (by decide) ?_
              show Steps p.tables e below (T120.setTop (mkF m 395 #[vI p0, vI p1, vI p2, vI p3, vI p4, vI p5, vI (2 : Int32), vI v6, vI v6, vI v7, vI v8, vI v9, vI v10, vI v11, vI v12, vI v13, vR b84, vI j293_s0_107, vI (own_in2 j293_s0_107 v6 v7 v8 v9), .unset] [(.int (1 : Int32))])) _
              exact k)
            exact tail143 ⟨(1 : Int32), (by simp [own_in2, c320_122, c340_124, c347_127]), pre129⟩
      · skip
        have pre130 : Go p.tables e below S0 T120 (mkF m 327 #[vI p0, vI p1, vI p2, vI p3, vI p4, vI p5, vI (2 : Int32), vI v6, vI v6, vI v7, vI v8, vI v9, vI v10, vI v11, vI v12, vI v13, vR b84, vI j293_s0_107, vI (own_in2 j293_s0_107 v6 v7 v8 v9), .unset] [(.int v7), (.int j293_s0_107)]) := fun t k => pre121 t (by
          refine XS.icmpNo X120.here hx rfl (hb hby at_320) rfl (flt c320_122).2.2.1 ?_
          show Steps p.tables e below (T120.setTop (mkF m 323 #[vI p0, vI p1, vI p2, vI p3, vI p4, vI p5, vI (2 : Int32), vI v6, vI v6, vI v7, vI v8, vI v9, vI v10, vI v11, vI v12, vI v13, vR b84, vI j293_s0_107, vI (own_in2 j293_s0_107 v6 v7 v8 v9), .unset] [])) _
          refine XS.iload X120.here hx rfl (hb hby at_323) rfl ?_
          show Steps p.tables e below (T120.setTop (mkF m 325 #[vI p0, vI p1, vI p2, vI p3, vI p4, vI p5, vI (2 : Int32), vI v6, vI v6, vI v7, vI v8, vI v9, vI v10, vI v11, vI v12, vI v13, vR b84, vI j293_s0_107, vI (own_in2 j293_s0_107 v6 v7 v8 v9), .unset] [(.int j293_s0_107)])) _
          refine XS.iload X120.here hx rfl (hb hby at_325) rfl ?_
          show Steps p.tables e below (T120.setTop (mkF m 327 #[vI p0, vI p1, vI p2, vI p3, vI p4, vI p5, vI (2 : Int32), vI v6, vI v6, vI v7, vI v8, vI v9, vI v10, vI v11, vI v12, vI v13, vR b84, vI j293_s0_107, vI (own_in2 j293_s0_107 v6 v7 v8 v9), .unset] [(.int v7), (.int j293_s0_107)])) _
          exact k)
        by_cases c327_131 : v7 < j293_s0_107
        · skip
          have pre132 : Go p.tables e below S0 T120 (mkF m 340 #[vI p0, vI p1, vI p2, vI p3, vI p4, vI p5, vI (2 : Int32), vI v6, vI v6, vI v7, vI v8, vI v9, vI v10, vI v11, vI v12, vI v13, vR b84, vI j293_s0_107, vI (own_in2 j293_s0_107 v6 v7 v8 v9), .unset] [(.int j293_s0_107), (.int v8)]) := fun t k => pre130 t (by
            refine XS.icmpNo X120.here hx rfl (hb hby at_327) rfl (tlt c327_131).2.2.2 ?_
            show Steps p.tables e below (T120.setTop (mkF m 330 #[vI p0, vI p1, vI p2, vI p3, vI p4, vI p5, vI (2 : Int32), vI v6, vI v6, vI v7, vI v8, vI v9, vI v10, vI v11, vI v12, vI v13, vR b84, vI j293_s0_107, vI (own_in2 j293_s0_107 v6 v7 v8 v9), .unset] [])) _
            refine XS.iload X120.here hx rfl (hb hby at_330) rfl ?_
            show Steps p.tables e below (T120.setTop (mkF m 332 #[vI p0, vI p1, vI p2, vI p3, vI p4, vI p5, vI (2 : Int32), vI v6, vI v6, vI v7, vI v8, vI v9, vI v10, vI v11, vI v12, vI v13, vR b84, vI j293_s0_107, vI (own_in2 j293_s0_107 v6 v7 v8 v9), .unset] [(.int (2 : Int32))])) _
            refine XS.iconst X120.here hx rfl (hb hby at_332) ?_
            show Steps p.tables e below (T120.setTop (mkF m 333 #[vI p0, vI p1, vI p2, vI p3, vI p4, vI p5, vI (2 : Int32), vI v6, vI v6, vI v7, vI v8, vI v9, vI v10, vI v11, vI v12, vI v13, vR b84, vI j293_s0_107, vI (own_in2 j293_s0_107 v6 v7 v8 v9), .unset] [(.int (1 : Int32)), (.int (2 : Int32))])) _
            refine XS.icmpNo X120.here hx rfl (hb hby at_333) rfl (tlt (by decide : (1 : Int32) < (2 : Int32))).2.2.2 ?_
            show Steps p.tables e below (T120.setTop (mkF m 336 #[vI p0, vI p1, vI p2, vI p3, vI p4, vI p5, vI (2 : Int32), vI v6, vI v6, vI v7, vI v8, vI v9, vI v10, vI v11, vI v12, vI v13, vR b84, vI j293_s0_107, vI (own_in2 j293_s0_107 v6 v7 v8 v9), .unset] [])) _
            refine XS.iload X120.here hx rfl (hb hby at_336) rfl ?_
            show Steps p.tables e below (T120.setTop (mkF m 338 #[vI p0, vI p1, vI p2, vI p3, vI p4, vI p5, vI (2 : Int32), vI v6, vI v6, vI v7, vI v8, vI v9, vI v10, vI v11, vI v12, vI v13, vR b84, vI j293_s0_107, vI (own_in2 j293_s0_107 v6 v7 v8 v9), .unset] [(.int v8)])) _
            refine XS.iload X120.here hx rfl (hb hby at_338) rfl ?_
            show Steps p.tables e below (T120.setTop (mkF m 340 #[vI p0, vI p1, vI p2, vI p3, vI p4, vI p5, vI (2 : Int32), vI v6, vI v6, vI v7, vI v8, vI v9, vI v10, vI v11, vI v12, vI v13, vR b84, vI j293_s0_107, vI (own_in2 j293_s0_107 v6 v7 v8 v9), .unset] [(.int j293_s0_107), (.int v8)])) _
            exact k)
          by_cases c340_133 : j293_s0_107 < v8
          · skip
            have pre134 : Go p.tables e below S0 T120 (mkF m 395 #[vI p0, vI p1, vI p2, vI p3, vI p4, vI p5, vI (2 : Int32), vI v6, vI v6, vI v7, vI v8, vI v9, vI v10, vI v11, vI v12, vI v13, vR b84, vI j293_s0_107, vI (own_in2 j293_s0_107 v6 v7 v8 v9), .unset] [(.int (0 : Int32))]) := fun t k => pre132 t (by
              refine XS.icmpYes X120.here hx rfl (pc0 := 340) (pc' := 350) rfl (hb hby at_340) rfl (tlt c340_133).2.2.1 (by decide) (by decide) ?_
              show Steps p.tables e below (T120.setTop (mkF m 350 #[vI p0, vI p1, vI p2, vI p3, vI p4, vI p5, vI (2 : Int32), vI v6, vI v6, vI v7, vI v8, vI v9, vI v10, vI v11, vI v12, vI v13, vR b84, vI j293_s0_107, vI (own_in2 j293_s0_107 v6 v7 v8 v9), .unset] [])) _
              refine XS.iload X120.here hx rfl (hb hby at_350) rfl ?_
              show Steps p.tables e below (T120.setTop (mkF m 352 #[vI p0, vI p1, vI p2, vI p3, vI p4, vI p5, vI (2 : Int32), vI v6, vI v6, vI v7, vI v8, vI v9, vI v10, vI v11, vI v12, vI v13, vR b84, vI j293_s0_107, vI (own_in2 j293_s0_107 v6 v7 v8 v9), .unset] [(.int (2 : Int32))])) _
              refine XS.iconst X120.here hx rfl (hb hby at_352) ?_
              show Steps p.tables e below (T120.setTop (mkF m 353 #[vI p0, vI p1, vI p2, vI p3, vI p4, vI p5, vI (2 : Int32), vI v6, vI v6, vI v7, vI v8, vI v9, vI v10, vI v11, vI v12, vI v13, vR b84, vI j293_s0_107, vI (own_in2 j293_s0_107 v6 v7 v8 v9), .unset] [(.int (2 : Int32)), (.int (2 : Int32))])) _
              refine XS.icmpYes X120.here hx rfl (pc0 := 353) (pc' := 370) rfl (hb hby at_353) rfl (flt (by decide : ¬ ((2 : Int32) < (2 : Int32)))).2.2.2 (by decide) (by decide) ?_
              show Steps p.tables e below (T120.setTop (mkF m 370 #[vI p0, vI p1, vI p2, vI p3, vI p4, vI p5, vI (2 : Int32), vI v6, vI v6, vI v7, vI v8, vI v9, vI v10, vI v11, vI v12, vI v13, vR b84, vI j293_s0_107, vI (own_in2 j293_s0_107 v6 v7 v8 v9), .unset] [])) _
              refine XS.iload X120.here hx rfl (hb hby at_370) rfl ?_
              show Steps p.tables e below (T120.setTop (mkF m 372 #[vI p0, vI p1, vI p2, vI p3, vI p4, vI p5, vI (2 : Int32), vI v6, vI v6, vI v7, vI v8, vI v9, vI v10, vI v11, vI v12, vI v13, vR b84, vI j293_s0_107, vI (own_in2 j293_s0_107 v6 v7 v8 v9), .unset] [(.int (2 : Int32))])) _
              refine XS.iconst X120.here hx rfl (hb hby at_372) ?_
              show Steps p.tables e below (T120.setTop (mkF m 373 #[vI p0, vI p1, vI p2, vI p3, vI p4, vI p5, vI (2 : Int32), vI v6, vI v6, vI v7, vI v8, vI v9, vI v10, vI v11, vI v12, vI v13, vR b84, vI j293_s0_107, vI (own_in2 j293_s0_107 v6 v7 v8 v9), .unset] [(.int (3 : Int32)), (.int (2 : Int32))])) _
              refine XS.icmpYes X120.here hx rfl (pc0 := 373) (pc' := 394) rfl (hb hby at_373) rfl (flt (by decide : ¬ ((3 : Int32) < (2 : Int32)))).2.2.2 (by decide) (by decide) ?_
              show Steps p.tables e below (T120.setTop (mkF m 394 #[vI p0, vI p1, vI p2, vI p3, vI p4, vI p5, vI (2 : Int32), vI v6, vI v6, vI v7, vI v8, vI v9, vI v10, vI v11, vI v12, vI v13, vR b84, vI j293_s0_107, vI (own_in2 j293_s0_107 v6 v7 v8 v9), .unset] [])) _
              refine XS.iconst X120.here hx rfl (hb hby at_394) ?_
              show Steps p.tables e below (T120.setTop (mkF m 395 #[vI p0, vI p1, vI p2, vI p3, vI p4, vI p5, vI (2 : Int32), vI v6, vI v6, vI v7, vI v8, vI v9, vI v10, vI v11, vI v12, vI v13, vR b84, vI j293_s0_107, vI (own_in2 j293_s0_107 v6 v7 v8 v9), .unset] [(.int (0 : Int32))])) _
              exact k)
            exact tail143 ⟨(0 : Int32), (by simp [own_in2, c320_122, c327_131, c340_133]), pre134⟩
          · skip
            have pre135 : Go p.tables e below S0 T120 (mkF m 347 #[vI p0, vI p1, vI p2, vI p3, vI p4, vI p5, vI (2 : Int32), vI v6, vI v6, vI v7, vI v8, vI v9, vI v10, vI v11, vI v12, vI v13, vR b84, vI j293_s0_107, vI (own_in2 j293_s0_107 v6 v7 v8 v9), .unset] [(.int v9), (.int j293_s0_107)]) := fun t k => pre132 t (by
              refine XS.icmpNo X120.here hx rfl (hb hby at_340) rfl (flt c340_133).2.2.1 ?_
              show Steps p.tables e below (T120.setTop (mkF m 343 #[vI p0, vI p1, vI p2, vI p3, vI p4, vI p5, vI (2 : Int32), vI v6, vI v6, vI v7, vI v8, vI v9, vI v10, vI v11, vI v12, vI v13, vR b84, vI j293_s0_107, vI (own_in2 j293_s0_107 v6 v7 v8 v9), .unset] [])) _
              refine XS.iload X120.here hx rfl (hb hby at_343) rfl ?_
              show Steps p.tables e below (T120.setTop (mkF m 345 #[vI p0, vI p1, vI p2, vI p3, vI p4, vI p5, vI (2 : Int32), vI v6, vI v6, vI v7, vI v8, vI v9, vI v10, vI v11, vI v12, vI v13, vR b84, vI j293_s0_107, vI (own_in2 j293_s0_107 v6 v7 v8 v9), .unset] [(.int j293_s0_107)])) _
              refine XS.iload X120.here hx rfl (hb hby at_345) rfl ?_
              show Steps p.tables e below (T120.setTop (mkF m 347 #[vI p0, vI p1, vI p2, vI p3, vI p4, vI p5, vI (2 : Int32), vI v6, vI v6, vI v7, vI v8, vI v9, vI v10, vI v11, vI v12, vI v13, vR b84, vI j293_s0_107, vI (own_in2 j293_s0_107 v6 v7 v8 v9), .unset] [(.int v9), (.int j293_s0_107)])) _
              exact k)
            by_cases c347_136 : v9 < j293_s0_107
            · skip
              have pre137 : Go p.tables e below S0 T120 (mkF m 395 #[vI p0, vI p1, vI p2, vI p3, vI p4, vI p5, vI (2 : Int32), vI v6, vI v6, vI v7, vI v8, vI v9, vI v10, vI v11, vI v12, vI v13, vR b84, vI j293_s0_107, vI (own_in2 j293_s0_107 v6 v7 v8 v9), .unset] [(.int (0 : Int32))]) := fun t k => pre135 t (by
                refine XS.icmpNo X120.here hx rfl (hb hby at_347) rfl (tlt c347_136).2.2.2 ?_
                show Steps p.tables e below (T120.setTop (mkF m 350 #[vI p0, vI p1, vI p2, vI p3, vI p4, vI p5, vI (2 : Int32), vI v6, vI v6, vI v7, vI v8, vI v9, vI v10, vI v11, vI v12, vI v13, vR b84, vI j293_s0_107, vI (own_in2 j293_s0_107 v6 v7 v8 v9), .unset] [])) _
                refine XS.iload X120.here hx rfl (hb hby at_350) rfl ?_
                show Steps p.tables e below (T120.setTop (mkF m 352 #[vI p0, vI p1, vI p2, vI p3, vI p4, vI p5, vI (2 : Int32), vI v6, vI v6, vI v7, vI v8, vI v9, vI v10, vI v11, vI v12, vI v13, vR b84, vI j293_s0_107, vI (own_in2 j293_s0_107 v6 v7 v8 v9), .unset] [(.int (2 : Int32))])) _
                refine XS.iconst X120.here hx rfl (hb hby at_352) ?_
                show Steps p.tables e below (T120.setTop (mkF m 353 #[vI p0, vI p1, vI p2, vI p3, vI p4, vI p5, vI (2 : Int32), vI v6, vI v6, vI v7, vI v8, vI v9, vI v10, vI v11, vI v12, vI v13, vR b84, vI j293_s0_107, vI (own_in2 j293_s0_107 v6 v7 v8 v9), .unset] [(.int (2 : Int32)), (.int (2 : Int32))])) _
                refine XS.icmpYes X120.here hx rfl (pc0 := 353) (pc' := 370) rfl (hb hby at_353) rfl (flt (by decide : ¬ ((2 : Int32) < (2 : Int32)))).2.2.2 (by decide) (by decide) ?_
                show Steps p.tables e below (T120.setTop (mkF m 370 #[vI p0, vI p1, vI p2, vI p3, vI p4, vI p5, vI (2 : Int32), vI v6, vI v6, vI v7, vI v8, vI v9, vI v10, vI v11, vI v12, vI v13, vR b84, vI j293_s0_107, vI (own_in2 j293_s0_107 v6 v7 v8 v9), .unset] [])) _
                refine XS.iload X120.here hx rfl (hb hby at_370) rfl ?_
                show Steps p.tables e below (T120.setTop (mkF m 372 #[vI p0, vI p1, vI p2, vI p3, vI p4, vI p5, vI (2 : Int32), vI v6, vI v6, vI v7, vI v8, vI v9, vI v10, vI v11, vI v12, vI v13, vR b84, vI j293_s0_107, vI (own_in2 j293_s0_107 v6 v7 v8 v9), .unset] [(.int (2 : Int32))])) _
                refine XS.iconst X120.here hx rfl (hb hby at_372) ?_
                show Steps p.tables e below (T120.setTop (mkF m 373 #[vI p0, vI p1, vI p2, vI p3, vI p4, vI p5, vI (2 : Int32), vI v6, vI v6, vI v7, vI v8, vI v9, vI v10, vI v11, vI v12, vI v13, vR b84, vI j293_s0_107, vI (own_in2 j293_s0_107 v6 v7 v8 v9), .unset] [(.int (3 : Int32)), (.int (2 : Int32))])) _
                refine XS.icmpYes X120.here hx rfl (pc0 := 373) (pc' := 394) rfl (hb hby at_373) rfl (flt (by decide : ¬ ((3 : Int32) < (2 : Int32)))).2.2.2 (by decide) (by decide) ?_
                show Steps p.tables e below (T120.setTop (mkF m 394 #[vI p0, vI p1, vI p2, vI p3, vI p4, vI p5, vI (2 : Int32), vI v6, vI v6, vI v7, vI v8, vI v9, vI v10, vI v11, vI v12, vI v13, vR b84, vI j293_s0_107, vI (own_in2 j293_s0_107 v6 v7 v8 v9), .unset] [])) _
                refine XS.iconst X120.here hx rfl (hb hby at_394) ?_
                show Steps p.tables e below (T120.setTop (mkF m 395 #[vI p0, vI p1, vI p2, vI p3, vI p4, vI p5, vI (2 : Int32), vI v6, vI v6, vI v7, vI v8, vI v9, vI v10, vI v11, vI v12, vI v13, vR b84, vI j293_s0_107, vI (own_in2 j293_s0_107 v6 v7 v8 v9), .unset] [(.int (0 : Int32))])) _
                exact k)
              exact tail143 ⟨(0 : Int32), (by simp [own_in2, c320_122, c327_131, c340_133, c347_136]), pre137⟩
            · skip
              have pre138 : Go p.tables e below S0 T120 (mkF m 395 #[vI p0, vI p1, vI p2, vI p3, vI p4, vI p5, vI (2 : Int32), vI v6, vI v6, vI v7, vI v8, vI v9, vI v10, vI v11, vI v12, vI v13, vR b84, vI j293_s0_107, vI (own_in2 j293_s0_107 v6 v7 v8 v9), .unset] [(.int (1 : Int32))]) := fun t k => pre135 t (by
                refine XS.icmpYes X120.here hx rfl (pc0 := 347) (pc' := 390) rfl (hb hby at_347) rfl (flt c347_136).2.2.2 (by decide) (by decide) ?_
                show Steps p.tables e below (T120.setTop (mkF m 390 #[vI p0, vI p1, vI p2, vI p3, vI p4, vI p5, vI (2 : Int32), vI v6, vI v6, vI v7, vI v8, vI v9, vI v10, vI v11, vI v12, vI v13, vR b84, vI j293_s0_107, vI (own_in2 j293_s0_107 v6 v7 v8 v9), .unset] [])) _
                refine XS.iconst X120.here hx rfl (hb hby at_390) ?_
                show Steps p.tables e below (T120.setTop (mkF m 391 #[vI p0, vI p1, vI p2, vI p3, vI p4, vI p5, vI (2 : Int32), vI v6, vI v6, vI v7, vI v8, vI v9, vI v10, vI v11, vI v12, vI v13, vR b84, vI j293_s0_107, vI (own_in2 j293_s0_107 v6 v7 v8 v9), .unset] [(.int (1 : Int32))])) _
                refine XS.goto X120.here hx rfl (pc0 := 391) (pc' := 395) rfl (hb hby at_391) (by decide) (by decide) ?_
                show Steps p.tables e below (T120.setTop (mkF m 395 #[vI p0, vI p1, vI p2, vI p3, vI p4, vI p5, vI (2 : Int32), vI v6, vI v6, vI v7, vI v8, vI v9, vI v10, vI v11, vI v12, vI v13, vR b84, vI j293_s0_107, vI (own_in2 j293_s0_107 v6 v7 v8 v9), .unset] [(.int (1 : Int32))])) _
                exact k)
              exact tail143 ⟨(1 : Int32), (by simp [own_in2, c320_122, c327_131, c340_133, c347_136]), pre138⟩
        · skip
          have pre139 : Go p.tables e below S0 T120 (mkF m 395 #[vI p0, vI p1, vI p2, vI p3, vI p4, vI p5, vI (2 : Int32), vI v6, vI v6, vI v7, vI v8, vI v9, vI v10, vI v11, vI v12, vI v13, vR b84, vI j293_s0_107, vI (own_in2 j293_s0_107 v6 v7 v8 v9), .unset] [(.int (1 : Int32))]) := fun t k => pre130 t (by
            refine XS.icmpYes X120.here hx rfl (pc0 := 327) (pc' := 390) rfl (hb hby at_327) rfl (flt c327_131).2.2.2 (by decide) (by decide) ?_
            show Steps p.tables e below (T120.setTop (mkF m 390 #[vI p0, vI p1, vI p2, vI p3, vI p4, vI p5, vI (2 : Int32), vI v6, vI v6, vI v7, vI v8, vI v9, vI v10, vI v11, vI v12, vI v13, vR b84, vI j293_s0_107, vI (own_in2 j293_s0_107 v6 v7 v8 v9), .unset] [])) _
            refine XS.iconst X120.here hx rfl (hb hby at_390) ?_
            show Steps p.tables e below (T120.setTop (mkF m 391 #[vI p0, vI p1, vI p2, vI p3, vI p4, vI p5, vI (2 : Int32), vI v6, vI v6, vI v7, vI v8, vI v9, vI v10, vI v11, vI v12, vI v13, vR b84, vI j293_s0_107, vI (own_in2 j293_s0_107 v6 v7 v8 v9), .unset] [(.int (1 : Int32))])) _
            refine XS.goto X120.here hx rfl (pc0 := 391) (pc' := 395) rfl (hb hby at_391) (by decide) (by decide) ?_
            show Steps p.tables e below (T120.setTop (mkF m 395 #[vI p0, vI p1, vI p2, vI p3, vI p4, vI p5, vI (2 : Int32), vI v6, vI v6, vI v7, vI v8, vI v9, vI v10, vI v11, vI v12, vI v13, vR b84, vI j293_s0_107, vI (own_in2 j293_s0_107 v6 v7 v8 v9), .unset] [(.int (1 : Int32))])) _
            exact k)
          exact tail143 ⟨(1 : Int32), (by simp [own_in2, c320_122, c327_131]), pre139⟩
    rintro ⟨j395_s0_140, hj395_141, pre142⟩
    have key := hj395_141.symm
    have pre144 : Go p.tables e below S0 T120 (mkF m 401 #[vI p0, vI p1, vI p2, vI p3, vI p4, vI p5, vI (2 : Int32), vI v6, vI v6, vI v7, vI v8, vI v9, vI v10, vI v11, vI v12, vI v13, vR b84, vI j293_s0_107, vI (own_in2 j293_s0_107 v6 v7 v8 v9), vI j395_s0_140] [(.int j395_s0_140), (.int (own_in2 j293_s0_107 v6 v7 v8 v9))]) := fun t k => pre142 t (by
      refine XS.istore X120.here hx rfl (hb hby at_395) rfl (l' := #[vI p0, vI p1, vI p2, vI p3, vI p4, vI p5, vI (2 : Int32), vI v6, vI v6, vI v7, vI v8, vI v9, vI v10, vI v11, vI v12, vI v13, vR b84, vI j293_s0_107, vI (own_in2 j293_s0_107 v6 v7 v8 v9), vI j395_s0_140]) rfl ?_
      show Steps p.tables e below (T120.setTop (mkF m 397 #[vI p0, vI p1, vI p2, vI p3, vI p4, vI p5, vI (2 : Int32), vI v6, vI v6, vI v7, vI v8, vI v9, vI v10, vI v11, vI v12, vI v13, vR b84, vI j293_s0_107, vI (own_in2 j293_s0_107 v6 v7 v8 v9), vI j395_s0_140] [])) _
      refine XS.iload X120.here hx rfl (hb hby at_397) rfl ?_
      show Steps p.tables e below (T120.setTop (mkF m 399 #[vI p0, vI p1, vI p2, vI p3, vI p4, vI p5, vI (2 : Int32), vI v6, vI v6, vI v7, vI v8, vI v9, vI v10, vI v11, vI v12, vI v13, vR b84, vI j293_s0_107, vI (own_in2 j293_s0_107 v6 v7 v8 v9), vI j395_s0_140] [(.int (own_in2 j293_s0_107 v6 v7 v8 v9))])) _
      refine XS.iload X120.here hx rfl (hb hby at_399) rfl ?_
      show Steps p.tables e below (T120.setTop (mkF m 401 #[vI p0, vI p1, vI p2, vI p3, vI p4, vI p5, vI (2 : Int32), vI v6, vI v6, vI v7, vI v8, vI v9, vI v10, vI v11, vI v12, vI v13, vR b84, vI j293_s0_107, vI (own_in2 j293_s0_107 v6 v7 v8 v9), vI j395_s0_140] [(.int j395_s0_140), (.int (own_in2 j293_s0_107 v6 v7 v8 v9))])) _
      exact k)
    have cc145 : (own_in2 j293_s0_107 v6 v7 v8 v9) = j395_s0_140 := key
    have pre146 : Go p.tables e below S0 T120 (mkF m 409 #[vI p0, vI p1, vI p2, vI p3, vI p4, vI p5, vI (2 : Int32), vI v6, vI v6, vI v7, vI v8, vI v9, vI v10, vI v11, vI v12, vI v13, vR b84, vI j293_s0_107, vI (own_in2 j293_s0_107 v6 v7 v8 v9), vI j395_s0_140] [(.int (1 : Int32))]) := fun t k => pre144 t (by
      refine XS.icmpNo X120.here hx rfl (hb hby at_401) rfl (teq cc145).2 ?_
      show Steps p.tables e below (T120.setTop (mkF m 404 #[vI p0, vI p1, vI p2, vI p3, vI p4, vI p5, vI (2 : Int32), vI v6, vI v6, vI v7, vI v8, vI v9, vI v10, vI v11, vI v12, vI v13, vR b84, vI j293_s0_107, vI (own_in2 j293_s0_107 v6 v7 v8 v9), vI j395_s0_140] [])) _
      refine XS.iconst X120.here hx rfl (hb hby at_404) ?_
      show Steps p.tables e below (T120.setTop (mkF m 405 #[vI p0, vI p1, vI p2, vI p3, vI p4, vI p5, vI (2 : Int32), vI v6, vI v6, vI v7, vI v8, vI v9, vI v10, vI v11, vI v12, vI v13, vR b84, vI j293_s0_107, vI (own_in2 j293_s0_107 v6 v7 v8 v9), vI j395_s0_140] [(.int (1 : Int32))])) _
      refine XS.goto X120.here hx rfl (pc0 := 405) (pc' := 409) rfl (hb hby at_405) (by decide) (by decide) ?_
      show Steps p.tables e below (T120.setTop (mkF m 409 #[vI p0, vI p1, vI p2, vI p3, vI p4, vI p5, vI (2 : Int32), vI v6, vI v6, vI v7, vI v8, vI v9, vI v10, vI v11, vI v12, vI v13, vR b84, vI j293_s0_107, vI (own_in2 j293_s0_107 v6 v7 v8 v9), vI j395_s0_140] [(.int (1 : Int32))])) _
      exact k)
    obtain ⟨fs, hr, hrun, hended, hW, hsame⟩ := X120.leave (v := some (.int (1 : Int32))) (fun h => by rw [Bd.returns] at h; cases h)
    exact ⟨_, _, pre146.fin hS0 (retN X120 hx (t := .boolean) Bd.returns (by simp) (hb hby at_409) hr), hrun, hended, _, _, rfl, (by
      show Q0 Z p0 p1 p2 p3 p4 p5 h0 n0 _ T120.heap _
      rw [eq120]
      exact ⟨rfl, N120⟩), ⟨_, rfl⟩, hW, hsame.mono (by decide) (by decide)⟩
  · skip
    have pre147 : Go p.tables e below S0 T5 (mkF m 186 #[vI p0, vI p1, vI p2, vI p3, vI p4, vI p5, vI (3 : Int32), vI v6, vI v6, vI v7, vI v8, vI v9, vI v10, vI v11, vI v12, vI v13, .unset, .unset, .unset, .unset] [(.int (6 : Int32))]) := fun t k => pre13 t (by
      refine XS.iload X5.here hx rfl (hb hby at_107) rfl ?_
      show Steps p.tables e below (T5.setTop (mkF m 109 #[vI p0, vI p1, vI p2, vI p3, vI p4, vI p5, vI (3 : Int32), vI v6, vI v6, vI v7, vI v8, vI v9, vI v10, vI v11, vI v12, vI v13, .unset, .unset, .unset, .unset] [(.int (3 : Int32))])) _
      refine XS.ifYes X5.here hx rfl (pc0 := 109) (pc' := 120) rfl (hb hby at_109) rfl ((if0 _ _).trans (feq (by decide : ¬ ((3 : Int32) = (0 : Int32)))).2) (by decide) (by decide) ?_
      show Steps p.tables e below (T5.setTop (mkF m 120 #[vI p0, vI p1, vI p2, vI p3, vI p4, vI p5, vI (3 : Int32), vI v6, vI v6, vI v7, vI v8, vI v9, vI v10, vI v11, vI v12, vI v13, .unset, .unset, .unset, .unset] [])) _
      refine XS.iload X5.here hx rfl (hb hby at_120) rfl ?_
      show Steps p.tables e below (T5.setTop (mkF m 122 #[vI p0, vI p1, vI p2, vI p3, vI p4, vI p5, vI (3 : Int32), vI v6, vI v6, vI v7, vI v8, vI v9, vI v10, vI v11, vI v12, vI v13, .unset, .unset, .unset, .unset] [(.int (3 : Int32))])) _
      refine XS.iconst X5.here hx rfl (hb hby at_122) ?_
      show Steps p.tables e below (T5.setTop (mkF m 123 #[vI p0, vI p1, vI p2, vI p3, vI p4, vI p5, vI (3 : Int32), vI v6, vI v6, vI v7, vI v8, vI v9, vI v10, vI v11, vI v12, vI v13, .unset, .unset, .unset, .unset] [(.int (1 : Int32)), (.int (3 : Int32))])) _
      refine XS.icmpYes X5.here hx rfl (pc0 := 123) (pc' := 144) rfl (hb hby at_123) rfl (feq (by decide : ¬ ((3 : Int32) = (1 : Int32)))).2 (by decide) (by decide) ?_
      show Steps p.tables e below (T5.setTop (mkF m 144 #[vI p0, vI p1, vI p2, vI p3, vI p4, vI p5, vI (3 : Int32), vI v6, vI v6, vI v7, vI v8, vI v9, vI v10, vI v11, vI v12, vI v13, .unset, .unset, .unset, .unset] [])) _
      refine XS.iload X5.here hx rfl (hb hby at_144) rfl ?_
      show Steps p.tables e below (T5.setTop (mkF m 146 #[vI p0, vI p1, vI p2, vI p3, vI p4, vI p5, vI (3 : Int32), vI v6, vI v6, vI v7, vI v8, vI v9, vI v10, vI v11, vI v12, vI v13, .unset, .unset, .unset, .unset] [(.int (3 : Int32))])) _
      refine XS.iconst X5.here hx rfl (hb hby at_146) ?_
      show Steps p.tables e below (T5.setTop (mkF m 147 #[vI p0, vI p1, vI p2, vI p3, vI p4, vI p5, vI (3 : Int32), vI v6, vI v6, vI v7, vI v8, vI v9, vI v10, vI v11, vI v12, vI v13, .unset, .unset, .unset, .unset] [(.int (2 : Int32)), (.int (3 : Int32))])) _
      refine XS.icmpYes X5.here hx rfl (pc0 := 147) (pc' := 178) rfl (hb hby at_147) rfl (feq (by decide : ¬ ((3 : Int32) = (2 : Int32)))).2 (by decide) (by decide) ?_
      show Steps p.tables e below (T5.setTop (mkF m 178 #[vI p0, vI p1, vI p2, vI p3, vI p4, vI p5, vI (3 : Int32), vI v6, vI v6, vI v7, vI v8, vI v9, vI v10, vI v11, vI v12, vI v13, .unset, .unset, .unset, .unset] [])) _
      refine XS.iload X5.here hx rfl (hb hby at_178) rfl ?_
      show Steps p.tables e below (T5.setTop (mkF m 180 #[vI p0, vI p1, vI p2, vI p3, vI p4, vI p5, vI (3 : Int32), vI v6, vI v6, vI v7, vI v8, vI v9, vI v10, vI v11, vI v12, vI v13, .unset, .unset, .unset, .unset] [(.int (3 : Int32))])) _
      refine XS.iconst X5.here hx rfl (hb hby at_180) ?_
      show Steps p.tables e below (T5.setTop (mkF m 181 #[vI p0, vI p1, vI p2, vI p3, vI p4, vI p5, vI (3 : Int32), vI v6, vI v6, vI v7, vI v8, vI v9, vI v10, vI v11, vI v12, vI v13, .unset, .unset, .unset, .unset] [(.int (3 : Int32)), (.int (3 : Int32))])) _
      refine XS.icmpNo X5.here hx rfl (hb hby at_181) rfl (teq (rfl : (3 : Int32) = (3 : Int32))).2 ?_
      show Steps p.tables e below (T5.setTop (mkF m 184 #[vI p0, vI p1, vI p2, vI p3, vI p4, vI p5, vI (3 : Int32), vI v6, vI v6, vI v7, vI v8, vI v9, vI v10, vI v11, vI v12, vI v13, .unset, .unset, .unset, .unset] [])) _
      refine XS.bipush X5.here hx rfl (hb hby at_184) ?_
      show Steps p.tables e below (T5.setTop (mkF m 186 #[vI p0, vI p1, vI p2, vI p3, vI p4, vI p5, vI (3 : Int32), vI v6, vI v6, vI v7, vI v8, vI v9, vI v10, vI v11, vI v12, vI v13, .unset, .unset, .unset, .unset] [(.int (6 : Int32))])) _
      exact k)
    obtain ⟨T148, h148, kA148, X148, e148, E148, A148, st148⟩ := newP X5 hx hZ (hw _ (List.mem_of_getElem? (i := 9) rfl)) eq5 (g := (mkF m 186 #[vI p0, vI p1, vI p2, vI p3, vI p4, vI p5, vI (3 : Int32), vI v6, vI v6, vI v7, vI v8, vI v9, vI v10, vI v11, vI v12, vI v13, .unset, .unset, .unset, .unset] [(.int (6 : Int32))])) rfl (hb hby at_186) rfl (by decide) (cap := 6) (by decide) (by decide) (by decide) (by decide)
    obtain ⟨b148, g148⟩ : ∃ z, z = h0.size := ⟨_, rfl⟩
    rw [← g148] at A148 st148
    have pre148 : Go p.tables e below S0 T148 (mkF m 188 #[vI p0, vI p1, vI p2, vI p3, vI p4, vI p5, vI (3 : Int32), vI v6, vI v6, vI v7, vI v8, vI v9, vI v10, vI v11, vI v12, vI v13, .unset, .unset, .unset, .unset] [(.ref b148)]) := fun t k => pre147 t (st148 t k)
    have bo148 : n0 ≤ b148 := Nat.le_trans Z0 (Nat.le_of_eq g148.symm)
    have zz150 : n0 ≤ h148.size := Nat.le_trans Z0 E148.1
    have av148 : Arv Z h148 b148 kA148 .int (6 : Int32) [(.int (0 : Int32)), (.int (0 : Int32)), (.int (0 : Int32)), (.int (0 : Int32)), (.int (0 : Int32)), (.int (0 : Int32))] (.int (0 : Int32)) := (Arv.new A148 (by decide)).pad (pad_rep [] (.int (0 : Int32)) 6)
    have pre151 : Go p.tables e below S0 T148 (mkF m 192 #[vI p0, vI p1, vI p2, vI p3, vI p4, vI p5, vI (3 : Int32), vI v6, vI v6, vI v7, vI v8, vI v9, vI v10, vI v11, vI v12, vI v13, .unset, .unset, .unset, .unset] [(.int v6), (.int (0 : Int32)), (.ref b148), (.ref b148)]) := fun t k => pre148 t (by
      refine XS.dup X148.here hx rfl (hb hby at_188) rfl rfl ?_
      show Steps p.tables e below (T148.setTop (mkF m 189 #[vI p0, vI p1, vI p2, vI p3, vI p4, vI p5, vI (3 : Int32), vI v6, vI v6, vI v7, vI v8, vI v9, vI v10, vI v11, vI v12, vI v13, .unset, .unset, .unset, .unset] [(.ref b148), (.ref b148)])) _
      refine XS.iconst X148.here hx rfl (hb hby at_189) ?_
      show Steps p.tables e below (T148.setTop (mkF m 190 #[vI p0, vI p1, vI p2, vI p3, vI p4, vI p5, vI (3 : Int32), vI v6, vI v6, vI v7, vI v8, vI v9, vI v10, vI v11, vI v12, vI v13, .unset, .unset, .unset, .unset] [(.int (0 : Int32)), (.ref b148), (.ref b148)])) _
      refine XS.iload X148.here hx rfl (hb hby at_190) rfl ?_
      show Steps p.tables e below (T148.setTop (mkF m 192 #[vI p0, vI p1, vI p2, vI p3, vI p4, vI p5, vI (3 : Int32), vI v6, vI v6, vI v7, vI v8, vI v9, vI v10, vI v11, vI v12, vI v13, .unset, .unset, .unset, .unset] [(.int v6), (.int (0 : Int32)), (.ref b148), (.ref b148)])) _
      exact k)
    obtain ⟨cl152, Ar152, q152, S152, M152, H152, G152⟩ := id av148
    have in152 : ¬ ((0 : Int32) < 0 ∨ cl152.slots.size ≤ ((0 : Int32)).toNatClampNeg) := inb_of S152 ⟨by decide, by decide⟩
    obtain ⟨T152, h152, X152, e152, W152, st152⟩ := stI X148 hx hZ e148 Ar152 (j := (0 : Int32)) in152 (g := (mkF m 192 #[vI p0, vI p1, vI p2, vI p3, vI p4, vI p5, vI (3 : Int32), vI v6, vI v6, vI v7, vI v8, vI v9, vI v10, vI v11, vI v12, vI v13, .unset, .unset, .unset, .unset] [(.int v6), (.int (0 : Int32)), (.ref b148), (.ref b148)])) rfl rfl (hb hby at_192)
    have pre152 : Go p.tables e below S0 T152 (mkF m 193 #[vI p0, vI p1, vI p2, vI p3, vI p4, vI p5, vI (3 : Int32), vI v6, vI v6, vI v7, vI v8, vI v9, vI v10, vI v11, vI v12, vI v13, .unset, .unset, .unset, .unset] [(.ref b148)]) := fun t k => pre151 t (st152 t k)
    have N152 := Fr.snoc X152 N5 bo148
    have av152 : Arv Z h152 b148 kA148 .int (6 : Int32) [(.int v6), (.int (0 : Int32)), (.int (0 : Int32)), (.int (0 : Int32)), (.int (0 : Int32)), (.int (0 : Int32))] (.int (0 : Int32)) := Arv.set Ar152 q152 S152 M152 H152 G152 rfl W152 0 rfl (Nat.le_of_ble_eq_true rfl)
    have zz154 : n0 ≤ h152.size := Nat.le_trans zz150 (Keep.of_wr W152).1
    have pre155 : Go p.tables e below S0 T152 (mkF m 197 #[vI p0, vI p1, vI p2, vI p3, vI p4, vI p5, vI (3 : Int32), vI v6, vI v6, vI v7, vI v8, vI v9, vI v10, vI v11, vI v12, vI v13, .unset, .unset, .unset, .unset] [(.int v7), (.int (1 : Int32)), (.ref b148), (.ref b148)]) := fun t k => pre152 t (by
      refine XS.dup X152.here hx rfl (hb hby at_193) rfl rfl ?_
      show Steps p.tables e below (T152.setTop (mkF m 194 #[vI p0, vI p1, vI p2, vI p3, vI p4, vI p5, vI (3 : Int32), vI v6, vI v6, vI v7, vI v8, vI v9, vI v10, vI v11, vI v12, vI v13, .unset, .unset, .unset, .unset] [(.ref b148), (.ref b148)])) _
      refine XS.iconst X152.here hx rfl (hb hby at_194) ?_
      show Steps p.tables e below (T152.setTop (mkF m 195 #[vI p0, vI p1, vI p2, vI p3, vI p4, vI p5, vI (3 : Int32), vI v6, vI v6, vI v7, vI v8, vI v9, vI v10, vI v11, vI v12, vI v13, .unset, .unset, .unset, .unset] [(.int (1 : Int32)), (.ref b148), (.ref b148)])) _
      refine XS.iload X152.here hx rfl (hb hby at_195) rfl ?_
      show Steps p.tables e below (T152.setTop (mkF m 197 #[vI p0, vI p1, vI p2, vI p3, vI p4, vI p5, vI (3 : Int32), vI v6, vI v6, vI v7, vI v8, vI v9, vI v10, vI v11, vI v12, vI v13, .unset, .unset, .unset, .unset] [(.int v7), (.int (1 : Int32)), (.ref b148), (.ref b148)])) _
      exact k)
    obtain ⟨cl156, Ar156, q156, S156, M156, H156, G156⟩ := id av152
    have in156 : ¬ ((1 : Int32) < 0 ∨ cl156.slots.size ≤ ((1 : Int32)).toNatClampNeg) := inb_of S156 ⟨by decide, by decide⟩
    obtain ⟨T156, h156, X156, e156, W156, st156⟩ := stI X152 hx hZ e152 Ar156 (j := (1 : Int32)) in156 (g := (mkF m 197 #[vI p0, vI p1, vI p2, vI p3, vI p4, vI p5, vI (3 : Int32), vI v6, vI v6, vI v7, vI v8, vI v9, vI v10, vI v11, vI v12, vI v13, .unset, .unset, .unset, .unset] [(.int v7), (.int (1 : Int32)), (.ref b148), (.ref b148)])) rfl rfl (hb hby at_197)
    have pre156 : Go p.tables e below S0 T156 (mkF m 198 #[vI p0, vI p1, vI p2, vI p3, vI p4, vI p5, vI (3 : Int32), vI v6, vI v6, vI v7, vI v8, vI v9, vI v10, vI v11, vI v12, vI v13, .unset, .unset, .unset, .unset] [(.ref b148)]) := fun t k => pre155 t (st156 t k)
    have N156 := Fr.snoc X156 N152 bo148
    have av156 : Arv Z h156 b148 kA148 .int (6 : Int32) [(.int v6), (.int v7), (.int (0 : Int32)), (.int (0 : Int32)), (.int (0 : Int32)), (.int (0 : Int32))] (.int (0 : Int32)) := Arv.set Ar156 q156 S156 M156 H156 G156 rfl W156 1 rfl (Nat.le_of_ble_eq_true rfl)
    have zz158 : n0 ≤ h156.size := Nat.le_trans zz154 (Keep.of_wr W156).1
    have pre159 : Go p.tables e below S0 T156 (mkF m 202 #[vI p0, vI p1, vI p2, vI p3, vI p4, vI p5, vI (3 : Int32), vI v6, vI v6, vI v7, vI v8, vI v9, vI v10, vI v11, vI v12, vI v13, .unset, .unset, .unset, .unset] [(.int v8), (.int (2 : Int32)), (.ref b148), (.ref b148)]) := fun t k => pre156 t (by
      refine XS.dup X156.here hx rfl (hb hby at_198) rfl rfl ?_
      show Steps p.tables e below (T156.setTop (mkF m 199 #[vI p0, vI p1, vI p2, vI p3, vI p4, vI p5, vI (3 : Int32), vI v6, vI v6, vI v7, vI v8, vI v9, vI v10, vI v11, vI v12, vI v13, .unset, .unset, .unset, .unset] [(.ref b148), (.ref b148)])) _
      refine XS.iconst X156.here hx rfl (hb hby at_199) ?_
      show Steps p.tables e below (T156.setTop (mkF m 200 #[vI p0, vI p1, vI p2, vI p3, vI p4, vI p5, vI (3 : Int32), vI v6, vI v6, vI v7, vI v8, vI v9, vI v10, vI v11, vI v12, vI v13, .unset, .unset, .unset, .unset] [(.int (2 : Int32)), (.ref b148), (.ref b148)])) _
      refine XS.iload X156.here hx rfl (hb hby at_200) rfl ?_
      show Steps p.tables e below (T156.setTop (mkF m 202 #[vI p0, vI p1, vI p2, vI p3, vI p4, vI p5, vI (3 : Int32), vI v6, vI v6, vI v7, vI v8, vI v9, vI v10, vI v11, vI v12, vI v13, .unset, .unset, .unset, .unset] [(.int v8), (.int (2 : Int32)), (.ref b148), (.ref b148)])) _
      exact k)
    obtain ⟨cl160, Ar160, q160, S160, M160, H160, G160⟩ := id av156
    have in160 : ¬ ((2 : Int32) < 0 ∨ cl160.slots.size ≤ ((2 : Int32)).toNatClampNeg) := inb_of S160 ⟨by decide, by decide⟩
    obtain ⟨T160, h160, X160, e160, W160, st160⟩ := stI X156 hx hZ e156 Ar160 (j := (2 : Int32)) in160 (g := (mkF m 202 #[vI p0, vI p1, vI p2, vI p3, vI p4, vI p5, vI (3 : Int32), vI v6, vI v6, vI v7, vI v8, vI v9, vI v10, vI v11, vI v12, vI v13, .unset, .unset, .unset, .unset] [(.int v8), (.int (2 : Int32)), (.ref b148), (.ref b148)])) rfl rfl (hb hby at_202)
    have pre160 : Go p.tables e below S0 T160 (mkF m 203 #[vI p0, vI p1, vI p2, vI p3, vI p4, vI p5, vI (3 : Int32), vI v6, vI v6, vI v7, vI v8, vI v9, vI v10, vI v11, vI v12, vI v13, .unset, .unset, .unset, .unset] [(.ref b148)]) := fun t k => pre159 t (st160 t k)
    have N160 := Fr.snoc X160 N156 bo148
    have av160 : Arv Z h160 b148 kA148 .int (6 : Int32) [(.int v6), (.int v7), (.int v8), (.int (0 : Int32)), (.int (0 : Int32)), (.int (0 : Int32))] (.int (0 : Int32)) := Arv.set Ar160 q160 S160 M160 H160 G160 rfl W160 2 rfl (Nat.le_of_ble_eq_true rfl)
    have zz162 : n0 ≤ h160.size := Nat.le_trans zz158 (Keep.of_wr W160).1
    have pre163 : Go p.tables e below S0 T160 (mkF m 207 #[vI p0, vI p1, vI p2, vI p3, vI p4, vI p5, vI (3 : Int32), vI v6, vI v6, vI v7, vI v8, vI v9, vI v10, vI v11, vI v12, vI v13, .unset, .unset, .unset, .unset] [(.int v9), (.int (3 : Int32)), (.ref b148), (.ref b148)]) := fun t k => pre160 t (by
      refine XS.dup X160.here hx rfl (hb hby at_203) rfl rfl ?_
      show Steps p.tables e below (T160.setTop (mkF m 204 #[vI p0, vI p1, vI p2, vI p3, vI p4, vI p5, vI (3 : Int32), vI v6, vI v6, vI v7, vI v8, vI v9, vI v10, vI v11, vI v12, vI v13, .unset, .unset, .unset, .unset] [(.ref b148), (.ref b148)])) _
      refine XS.iconst X160.here hx rfl (hb hby at_204) ?_
      show Steps p.tables e below (T160.setTop (mkF m 205 #[vI p0, vI p1, vI p2, vI p3, vI p4, vI p5, vI (3 : Int32), vI v6, vI v6, vI v7, vI v8, vI v9, vI v10, vI v11, vI v12, vI v13, .unset, .unset, .unset, .unset] [(.int (3 : Int32)), (.ref b148), (.ref b148)])) _
      refine XS.iload X160.here hx rfl (hb hby at_205) rfl ?_
      show Steps p.tables e below (T160.setTop (mkF m 207 #[vI p0, vI p1, vI p2, vI p3, vI p4, vI p5, vI (3 : Int32), vI v6, vI v6, vI v7, vI v8, vI v9, vI v10, vI v11, vI v12, vI v13, .unset, .unset, .unset, .unset] [(.int v9), (.int (3 : Int32)), (.ref b148), (.ref b148)])) _
      exact k)
    obtain ⟨cl164, Ar164, q164, S164, M164, H164, G164⟩ := id av160
    have in164 : ¬ ((3 : Int32) < 0 ∨ cl164.slots.size ≤ ((3 : Int32)).toNatClampNeg) := inb_of S164 ⟨by decide, by decide⟩
    obtain ⟨T164, h164, X164, e164, W164, st164⟩ := stI X160 hx hZ e160 Ar164 (j := (3 : Int32)) in164 (g := (mkF m 207 #[vI p0, vI p1, vI p2, vI p3, vI p4, vI p5, vI (3 : Int32), vI v6, vI v6, vI v7, vI v8, vI v9, vI v10, vI v11, vI v12, vI v13, .unset, .unset, .unset, .unset] [(.int v9), (.int (3 : Int32)), (.ref b148), (.ref b148)])) rfl rfl (hb hby at_207)
    have pre164 : Go p.tables e below S0 T164 (mkF m 208 #[vI p0, vI p1, vI p2, vI p3, vI p4, vI p5, vI (3 : Int32), vI v6, vI v6, vI v7, vI v8, vI v9, vI v10, vI v11, vI v12, vI v13, .unset, .unset, .unset, .unset] [(.ref b148)]) := fun t k => pre163 t (st164 t k)
    have N164 := Fr.snoc X164 N160 bo148
    have av164 : Arv Z h164 b148 kA148 .int (6 : Int32) [(.int v6), (.int v7), (.int v8), (.int v9), (.int (0 : Int32)), (.int (0 : Int32))] (.int (0 : Int32)) := Arv.set Ar164 q164 S164 M164 H164 G164 rfl W164 3 rfl (Nat.le_of_ble_eq_true rfl)
    have zz166 : n0 ≤ h164.size := Nat.le_trans zz162 (Keep.of_wr W164).1
    have pre167 : Go p.tables e below S0 T164 (mkF m 212 #[vI p0, vI p1, vI p2, vI p3, vI p4, vI p5, vI (3 : Int32), vI v6, vI v6, vI v7, vI v8, vI v9, vI v10, vI v11, vI v12, vI v13, .unset, .unset, .unset, .unset] [(.int v10), (.int (4 : Int32)), (.ref b148), (.ref b148)]) := fun t k => pre164 t (by
      refine XS.dup X164.here hx rfl (hb hby at_208) rfl rfl ?_
      show Steps p.tables e below (T164.setTop (mkF m 209 #[vI p0, vI p1, vI p2, vI p3, vI p4, vI p5, vI (3 : Int32), vI v6, vI v6, vI v7, vI v8, vI v9, vI v10, vI v11, vI v12, vI v13, .unset, .unset, .unset, .unset] [(.ref b148), (.ref b148)])) _
      refine XS.iconst X164.here hx rfl (hb hby at_209) ?_
      show Steps p.tables e below (T164.setTop (mkF m 210 #[vI p0, vI p1, vI p2, vI p3, vI p4, vI p5, vI (3 : Int32), vI v6, vI v6, vI v7, vI v8, vI v9, vI v10, vI v11, vI v12, vI v13, .unset, .unset, .unset, .unset] [(.int (4 : Int32)), (.ref b148), (.ref b148)])) _
      refine XS.iload X164.here hx rfl (hb hby at_210) rfl ?_
      show Steps p.tables e below (T164.setTop (mkF m 212 #[vI p0, vI p1, vI p2, vI p3, vI p4, vI p5, vI (3 : Int32), vI v6, vI v6, vI v7, vI v8, vI v9, vI v10, vI v11, vI v12, vI v13, .unset, .unset, .unset, .unset] [(.int v10), (.int (4 : Int32)), (.ref b148), (.ref b148)])) _
      exact k)
    obtain ⟨cl168, Ar168, q168, S168, M168, H168, G168⟩ := id av164
    have in168 : ¬ ((4 : Int32) < 0 ∨ cl168.slots.size ≤ ((4 : Int32)).toNatClampNeg) := inb_of S168 ⟨by decide, by decide⟩
    obtain ⟨T168, h168, X168, e168, W168, st168⟩ := stI X164 hx hZ e164 Ar168 (j := (4 : Int32)) in168 (g := (mkF m 212 #[vI p0, vI p1, vI p2, vI p3, vI p4, vI p5, vI (3 : Int32), vI v6, vI v6, vI v7, vI v8, vI v9, vI v10, vI v11, vI v12, vI v13, .unset, .unset, .unset, .unset] [(.int v10), (.int (4 : Int32)), (.ref b148), (.ref b148)])) rfl rfl (hb hby at_212)
    have pre168 : Go p.tables e below S0 T168 (mkF m 213 #[vI p0, vI p1, vI p2, vI p3, vI p4, vI p5, vI (3 : Int32), vI v6, vI v6, vI v7, vI v8, vI v9, vI v10, vI v11, vI v12, vI v13, .unset, .unset, .unset, .unset] [(.ref b148)]) := fun t k => pre167 t (st168 t k)
    have N168 := Fr.snoc X168 N164 bo148
    have av168 : Arv Z h168 b148 kA148 .int (6 : Int32) [(.int v6), (.int v7), (.int v8), (.int v9), (.int v10), (.int (0 : Int32))] (.int (0 : Int32)) := Arv.set Ar168 q168 S168 M168 H168 G168 rfl W168 4 rfl (Nat.le_of_ble_eq_true rfl)
    have zz170 : n0 ≤ h168.size := Nat.le_trans zz166 (Keep.of_wr W168).1
    have pre171 : Go p.tables e below S0 T168 (mkF m 217 #[vI p0, vI p1, vI p2, vI p3, vI p4, vI p5, vI (3 : Int32), vI v6, vI v6, vI v7, vI v8, vI v9, vI v10, vI v11, vI v12, vI v13, .unset, .unset, .unset, .unset] [(.int v11), (.int (5 : Int32)), (.ref b148), (.ref b148)]) := fun t k => pre168 t (by
      refine XS.dup X168.here hx rfl (hb hby at_213) rfl rfl ?_
      show Steps p.tables e below (T168.setTop (mkF m 214 #[vI p0, vI p1, vI p2, vI p3, vI p4, vI p5, vI (3 : Int32), vI v6, vI v6, vI v7, vI v8, vI v9, vI v10, vI v11, vI v12, vI v13, .unset, .unset, .unset, .unset] [(.ref b148), (.ref b148)])) _
      refine XS.iconst X168.here hx rfl (hb hby at_214) ?_
      show Steps p.tables e below (T168.setTop (mkF m 215 #[vI p0, vI p1, vI p2, vI p3, vI p4, vI p5, vI (3 : Int32), vI v6, vI v6, vI v7, vI v8, vI v9, vI v10, vI v11, vI v12, vI v13, .unset, .unset, .unset, .unset] [(.int (5 : Int32)), (.ref b148), (.ref b148)])) _
      refine XS.iload X168.here hx rfl (hb hby at_215) rfl ?_
      show Steps p.tables e below (T168.setTop (mkF m 217 #[vI p0, vI p1, vI p2, vI p3, vI p4, vI p5, vI (3 : Int32), vI v6, vI v6, vI v7, vI v8, vI v9, vI v10, vI v11, vI v12, vI v13, .unset, .unset, .unset, .unset] [(.int v11), (.int (5 : Int32)), (.ref b148), (.ref b148)])) _
      exact k)
    obtain ⟨cl172, Ar172, q172, S172, M172, H172, G172⟩ := id av168
    have in172 : ¬ ((5 : Int32) < 0 ∨ cl172.slots.size ≤ ((5 : Int32)).toNatClampNeg) := inb_of S172 ⟨by decide, by decide⟩
    obtain ⟨T172, h172, X172, e172, W172, st172⟩ := stI X168 hx hZ e168 Ar172 (j := (5 : Int32)) in172 (g := (mkF m 217 #[vI p0, vI p1, vI p2, vI p3, vI p4, vI p5, vI (3 : Int32), vI v6, vI v6, vI v7, vI v8, vI v9, vI v10, vI v11, vI v12, vI v13, .unset, .unset, .unset, .unset] [(.int v11), (.int (5 : Int32)), (.ref b148), (.ref b148)])) rfl rfl (hb hby at_217)
    have pre172 : Go p.tables e below S0 T172 (mkF m 218 #[vI p0, vI p1, vI p2, vI p3, vI p4, vI p5, vI (3 : Int32), vI v6, vI v6, vI v7, vI v8, vI v9, vI v10, vI v11, vI v12, vI v13, .unset, .unset, .unset, .unset] [(.ref b148)]) := fun t k => pre171 t (st172 t k)
    have N172 := Fr.snoc X172 N168 bo148
    have av172 : Arv Z h172 b148 kA148 .int (6 : Int32) [(.int v6), (.int v7), (.int v8), (.int v9), (.int v10), (.int v11)] (.int (0 : Int32)) := Arv.set Ar172 q172 S172 M172 H172 G172 rfl W172 5 rfl (Nat.le_of_ble_eq_true rfl)
    have zz174 : n0 ≤ h172.size := Nat.le_trans zz170 (Keep.of_wr W172).1
    have pre175 : Go p.tables e below S0 T172 (mkF m 275 #[vI p0, vI p1, vI p2, vI p3, vI p4, vI p5, vI (3 : Int32), vI v6, vI v6, vI v7, vI v8, vI v9, vI v10, vI v11, vI v12, vI v13, vR b148, .unset, .unset, .unset] [(.int (p5 &&& (1 : Int32)))]) := fun t k => pre172 t (by
      refine XS.astore X172.here hx rfl (hb hby at_218) rfl rfl (l' := #[vI p0, vI p1, vI p2, vI p3, vI p4, vI p5, vI (3 : Int32), vI v6, vI v6, vI v7, vI v8, vI v9, vI v10, vI v11, vI v12, vI v13, vR b148, .unset, .unset, .unset]) rfl ?_
      show Steps p.tables e below (T172.setTop (mkF m 220 #[vI p0, vI p1, vI p2, vI p3, vI p4, vI p5, vI (3 : Int32), vI v6, vI v6, vI v7, vI v8, vI v9, vI v10, vI v11, vI v12, vI v13, vR b148, .unset, .unset, .unset] [])) _
      refine XS.goto X172.here hx rfl (pc0 := 220) (pc' := 271) rfl (hb hby at_220) (by decide) (by decide) ?_
      show Steps p.tables e below (T172.setTop (mkF m 271 #[vI p0, vI p1, vI p2, vI p3, vI p4, vI p5, vI (3 : Int32), vI v6, vI v6, vI v7, vI v8, vI v9, vI v10, vI v11, vI v12, vI v13, vR b148, .unset, .unset, .unset] [])) _
      refine XS.iload X172.here hx rfl (hb hby at_271) rfl ?_
      show Steps p.tables e below (T172.setTop (mkF m 273 #[vI p0, vI p1, vI p2, vI p3, vI p4, vI p5, vI (3 : Int32), vI v6, vI v6, vI v7, vI v8, vI v9, vI v10, vI v11, vI v12, vI v13, vR b148, .unset, .unset, .unset] [(.int p5)])) _
      refine XS.iconst X172.here hx rfl (hb hby at_273) ?_
      show Steps p.tables e below (T172.setTop (mkF m 274 #[vI p0, vI p1, vI p2, vI p3, vI p4, vI p5, vI (3 : Int32), vI v6, vI v6, vI v7, vI v8, vI v9, vI v10, vI v11, vI v12, vI v13, vR b148, .unset, .unset, .unset] [(.int (1 : Int32)), (.int p5)])) _
      refine XS.iand X172.here hx rfl (hb hby at_274) rfl ?_
      show Steps p.tables e below (T172.setTop (mkF m 275 #[vI p0, vI p1, vI p2, vI p3, vI p4, vI p5, vI (3 : Int32), vI v6, vI v6, vI v7, vI v8, vI v9, vI v10, vI v11, vI v12, vI v13, vR b148, .unset, .unset, .unset] [(.int (p5 &&& (1 : Int32)))])) _
      exact k)
    refine cps (A := ∃ (j293_s0_179 : Int32), (Go p.tables e below S0 T172 (mkF m 293 #[vI p0, vI p1, vI p2, vI p3, vI p4, vI p5, vI (3 : Int32), vI v6, vI v6, vI v7, vI v8, vI v9, vI v10, vI v11, vI v12, vI v13, vR b148, .unset, .unset, .unset] [(.int j293_s0_179)]))) (fun tail181 => ?_) ?_
    · skip
      by_cases c275_176 : (p5 &&& (1 : Int32)) = (0 : Int32)
      · skip
        have pre177 : Go p.tables e below S0 T172 (mkF m 293 #[vI p0, vI p1, vI p2, vI p3, vI p4, vI p5, vI (3 : Int32), vI v6, vI v6, vI v7, vI v8, vI v9, vI v10, vI v11, vI v12, vI v13, vR b148, .unset, .unset, .unset] [(.int ((v6 + (p4 &&& (63 : Int32))) - (4 : Int32)))]) := fun t k => pre175 t (by
          refine XS.ifYes X172.here hx rfl (pc0 := 275) (pc' := 283) rfl (hb hby at_275) rfl ((if0 _ _).trans (teq c275_176).1) (by decide) (by decide) ?_
          show Steps p.tables e below (T172.setTop (mkF m 283 #[vI p0, vI p1, vI p2, vI p3, vI p4, vI p5, vI (3 : Int32), vI v6, vI v6, vI v7, vI v8, vI v9, vI v10, vI v11, vI v12, vI v13, vR b148, .unset, .unset, .unset] [])) _
          refine XS.iload X172.here hx rfl (hb hby at_283) rfl ?_
          show Steps p.tables e below (T172.setTop (mkF m 285 #[vI p0, vI p1, vI p2, vI p3, vI p4, vI p5, vI (3 : Int32), vI v6, vI v6, vI v7, vI v8, vI v9, vI v10, vI v11, vI v12, vI v13, vR b148, .unset, .unset, .unset] [(.int v6)])) _
          refine XS.iload X172.here hx rfl (hb hby at_285) rfl ?_
          show Steps p.tables e below (T172.setTop (mkF m 287 #[vI p0, vI p1, vI p2, vI p3, vI p4, vI p5, vI (3 : Int32), vI v6, vI v6, vI v7, vI v8, vI v9, vI v10, vI v11, vI v12, vI v13, vR b148, .unset, .unset, .unset] [(.int p4), (.int v6)])) _
          refine XS.bipush X172.here hx rfl (hb hby at_287) ?_
          show Steps p.tables e below (T172.setTop (mkF m 289 #[vI p0, vI p1, vI p2, vI p3, vI p4, vI p5, vI (3 : Int32), vI v6, vI v6, vI v7, vI v8, vI v9, vI v10, vI v11, vI v12, vI v13, vR b148, .unset, .unset, .unset] [(.int (63 : Int32)), (.int p4), (.int v6)])) _
          refine XS.iand X172.here hx rfl (hb hby at_289) rfl ?_
          show Steps p.tables e below (T172.setTop (mkF m 290 #[vI p0, vI p1, vI p2, vI p3, vI p4, vI p5, vI (3 : Int32), vI v6, vI v6, vI v7, vI v8, vI v9, vI v10, vI v11, vI v12, vI v13, vR b148, .unset, .unset, .unset] [(.int (p4 &&& (63 : Int32))), (.int v6)])) _
          refine XS.iadd X172.here hx rfl (hb hby at_290) rfl ?_
          show Steps p.tables e below (T172.setTop (mkF m 291 #[vI p0, vI p1, vI p2, vI p3, vI p4, vI p5, vI (3 : Int32), vI v6, vI v6, vI v7, vI v8, vI v9, vI v10, vI v11, vI v12, vI v13, vR b148, .unset, .unset, .unset] [(.int (v6 + (p4 &&& (63 : Int32))))])) _
          refine XS.iconst X172.here hx rfl (hb hby at_291) ?_
          show Steps p.tables e below (T172.setTop (mkF m 292 #[vI p0, vI p1, vI p2, vI p3, vI p4, vI p5, vI (3 : Int32), vI v6, vI v6, vI v7, vI v8, vI v9, vI v10, vI v11, vI v12, vI v13, vR b148, .unset, .unset, .unset] [(.int (4 : Int32)), (.int (v6 + (p4 &&& (63 : Int32))))])) _
          refine XS.isub X172.here hx rfl (hb hby at_292) rfl ?_
          show Steps p.tables e below (T172.setTop (mkF m 293 #[vI p0, vI p1, vI p2, vI p3, vI p4, vI p5, vI (3 : Int32), vI v6, vI v6, vI v7, vI v8, vI v9, vI v10, vI v11, vI v12, vI v13, vR b148, .unset, .unset, .unset] [(.int ((v6 + (p4 &&& (63 : Int32))) - (4 : Int32)))])) _
          exact k)
        exact tail181 ⟨((v6 + (p4 &&& (63 : Int32))) - (4 : Int32)), pre177⟩
      · skip
        have pre178 : Go p.tables e below S0 T172 (mkF m 293 #[vI p0, vI p1, vI p2, vI p3, vI p4, vI p5, vI (3 : Int32), vI v6, vI v6, vI v7, vI v8, vI v9, vI v10, vI v11, vI v12, vI v13, vR b148, .unset, .unset, .unset] [(.int p4)]) := fun t k => pre175 t (by
          refine XS.ifNo X172.here hx rfl (hb hby at_275) rfl ((if0 _ _).trans (feq c275_176).1) ?_
          show Steps p.tables e below (T172.setTop (mkF m 278 #[vI p0, vI p1, vI p2, vI p3, vI p4, vI p5, vI (3 : Int32), vI v6, vI v6, vI v7, vI v8, vI v9, vI v10, vI v11, vI v12, vI v13, vR b148, .unset, .unset, .unset] [])) _
          refine XS.iload X172.here hx rfl (hb hby at_278) rfl ?_
          show Steps p.tables e below (T172.setTop (mkF m 280 #[vI p0, vI p1, vI p2, vI p3, vI p4, vI p5, vI (3 : Int32), vI v6, vI v6, vI v7, vI v8, vI v9, vI v10, vI v11, vI v12, vI v13, vR b148, .unset, .unset, .unset] [(.int p4)])) _
          refine XS.goto X172.here hx rfl (pc0 := 280) (pc' := 293) rfl (hb hby at_280) (by decide) (by decide) ?_
          show Steps p.tables e below (T172.setTop (mkF m 293 #[vI p0, vI p1, vI p2, vI p3, vI p4, vI p5, vI (3 : Int32), vI v6, vI v6, vI v7, vI v8, vI v9, vI v10, vI v11, vI v12, vI v13, vR b148, .unset, .unset, .unset] [(.int p4)])) _
          exact k)
        exact tail181 ⟨p4, pre178⟩
    rintro ⟨j293_s0_179, pre180⟩
    have pre182 : Go p.tables e below S0 T172 (mkF m 295 #[vI p0, vI p1, vI p2, vI p3, vI p4, vI p5, vI (3 : Int32), vI v6, vI v6, vI v7, vI v8, vI v9, vI v10, vI v11, vI v12, vI v13, vR b148, vI j293_s0_179, .unset, .unset] []) := fun t k => pre180 t (by
      refine XS.istore X172.here hx rfl (hb hby at_293) rfl (l' := #[vI p0, vI p1, vI p2, vI p3, vI p4, vI p5, vI (3 : Int32), vI v6, vI v6, vI v7, vI v8, vI v9, vI v10, vI v11, vI v12, vI v13, vR b148, vI j293_s0_179, .unset, .unset]) rfl ?_
      show Steps p.tables e below (T172.setTop (mkF m 295 #[vI p0, vI p1, vI p2, vI p3, vI p4, vI p5, vI (3 : Int32), vI v6, vI v6, vI v7, vI v8, vI v9, vI v10, vI v11, vI v12, vI v13, vR b148, vI j293_s0_179, .unset, .unset] [])) _
      exact k)
    obtain ⟨T183, h183, X183, e183, E183, A183, D183, -, st183⟩ := newO X172 hx hZ hown (hw _ (List.mem_of_getElem? (i := 10) rfl)) (hw _ (List.mem_of_getElem? (i := 11) rfl)) (hw _ (List.mem_of_getElem? (i := 12) rfl)) e172 (g := (mkF m 295 #[vI p0, vI p1, vI p2, vI p3, vI p4, vI p5, vI (3 : Int32), vI v6, vI v6, vI v7, vI v8, vI v9, vI v10, vI v11, vI v12, vI v13, vR b148, vI j293_s0_179, .unset, .unset] [])) rfl (hb hby at_295) (by decide) (by decide)
    obtain ⟨b183, g183⟩ : ∃ z, z = h172.size := ⟨_, rfl⟩
    rw [← g183] at A183 D183 st183
    have pre183 : Go p.tables e below S0 T183 (mkF m 298 #[vI p0, vI p1, vI p2, vI p3, vI p4, vI p5, vI (3 : Int32), vI v6, vI v6, vI v7, vI v8, vI v9, vI v10, vI v11, vI v12, vI v13, vR b148, vI j293_s0_179, .unset, .unset] [(.ref b183)]) := fun t k => pre182 t (st183 t k)
    have ne184 : b148 ≠ b183 := Nat.ne_of_lt (Nat.lt_of_lt_of_le av172.lt (Nat.le_of_eq g183.symm))
    have bo183 : n0 ≤ b183 := Nat.le_trans zz174 (Nat.le_of_eq g183.symm)
    have f185_1 := av172.ext E183
    have zz186 : n0 ≤ h183.size := Nat.le_trans zz174 E183.1
    have fn183_ranges : Fld Z h183 b183 "com/example/attest/attest/metadata/ScopeSyntax$Chars" "ranges" "[I" .null := D183 (Or.inr (hw _ (List.mem_of_getElem? (i := 25) rfl))) (ty := (.array .int)) (by decide)
    have pre187 : Go p.tables e below S0 T183 (mkF m 301 #[vI p0, vI p1, vI p2, vI p3, vI p4, vI p5, vI (3 : Int32), vI v6, vI v6, vI v7, vI v8, vI v9, vI v10, vI v11, vI v12, vI v13, vR b148, vI j293_s0_179, .unset, .unset] [(.ref b148), (.ref b183), (.ref b183)]) := fun t k => pre183 t (by
      refine XS.dup X183.here hx rfl (hb hby at_298) rfl rfl ?_
      show Steps p.tables e below (T183.setTop (mkF m 299 #[vI p0, vI p1, vI p2, vI p3, vI p4, vI p5, vI (3 : Int32), vI v6, vI v6, vI v7, vI v8, vI v9, vI v10, vI v11, vI v12, vI v13, vR b148, vI j293_s0_179, .unset, .unset] [(.ref b183), (.ref b183)])) _
      refine XS.aload X183.here hx rfl (hb hby at_299) rfl rfl ?_
      show Steps p.tables e below (T183.setTop (mkF m 301 #[vI p0, vI p1, vI p2, vI p3, vI p4, vI p5, vI (3 : Int32), vI v6, vI v6, vI v7, vI v8, vI v9, vI v10, vI v11, vI v12, vI v13, vR b148, vI j293_s0_179, .unset, .unset] [(.ref b148), (.ref b183), (.ref b183)])) _
      exact k)
    obtain ⟨_, _, ⟨T188, qL188, qk188, qn188⟩, -, X188, ⟨Lc188, hQ188, ql188, qy188, qz188⟩, st188⟩ := X183.specialBack hx (y := (⟨"com/example/attest/attest/metadata/ScopeSyntax$Chars", "<init>", "([I)V"⟩ : MethodName)) rfl hown (mvT hZ (hw _ (List.mem_of_getElem? (i := 13) rfl))) (mvT hZ (hw _ (List.mem_of_getElem? (i := 14) rfl))) (mvT hZ (hw _ (List.mem_of_getElem? (i := 15) rfl))) (by decide) (backOf (W := 1) (rm3 l Z A0 hw [] b183 b148 h183 n0 zz186 A183 fn183_ranges bo183) hZ (hw _ (List.mem_of_getElem? (i := 15) rfl)) (hw _ (List.mem_of_getElem? (i := 12) rfl)) (by decide) (by decide)) (g := (mkF m 301 #[vI p0, vI p1, vI p2, vI p3, vI p4, vI p5, vI (3 : Int32), vI v6, vI v6, vI v7, vI v8, vI v9, vI v10, vI v11, vI v12, vI v13, vR b148, vI j293_s0_179, .unset, .unset] [(.ref b148), (.ref b183), (.ref b183)])) rfl (by rw [hml]; rfl) (Steps.refl _) (a := b183) (argsL := [(.ref b148)]) (rest := [(.ref b183)]) (lenOf pd_2 rfl) rfl (by show 2 * 0 + _ ≤ _; exact Nat.le_of_eq rfl) (hb hby at_301) (fun _ _ => ⟨rfl, e183, (by decide : 2 + 0 ≤ _), (by decide : 7 + 0 ≤ _)⟩)
    dsimp only [Pt.U, Pt.locs, Pt.cells, Pt.slots] at X188 ql188 qy188 qz188 st188 hQ188
    subst ql188 qy188 qz188
    obtain ⟨rfl, Nq188, Kq188, nf188_0, nf188_1⟩ := hQ188
    have N188 := Fr.app N172 Nq188
    have pre188 : Go p.tables e below S0 T188 (mkF m 304 #[vI p0, vI p1, vI p2, vI p3, vI p4, vI p5, vI (3 : Int32), vI v6, vI v6, vI v7, vI v8, vI v9, vI v10, vI v11, vI v12, vI v13, vR b148, vI j293_s0_179, .unset, .unset] [(.ref b183)]) := fun t k => pre187 t (st188.trans k)
    have f189_1 := f185_1.keep Kq188 (ninS ne184 nin0)
    have zz190 : n0 ≤ T188.heap.size := Nat.le_trans zz186 Kq188.1
    have pre191 : Go p.tables e below S0 T188 (mkF m 306 #[vI p0, vI p1, vI p2, vI p3, vI p4, vI p5, vI (3 : Int32), vI v6, vI v6, vI v7, vI v8, vI v9, vI v10, vI v11, vI v12, vI v13, vR b148, vI j293_s0_179, .unset, .unset] [(.int j293_s0_179), (.ref b183)]) := fun t k => pre188 t (by
      refine XS.iload X188.here hx rfl (hb hby at_304) rfl ?_
      show Steps p.tables e below (T188.setTop (mkF m 306 #[vI p0, vI p1, vI p2, vI p3, vI p4, vI p5, vI (3 : Int32), vI v6, vI v6, vI v7, vI v8, vI v9, vI v10, vI v11, vI v12, vI v13, vR b148, vI j293_s0_179, .unset, .unset] [(.int j293_s0_179), (.ref b183)])) _
      exact k)
    obtain ⟨cq192, kq192, qa192, qb192, qc192⟩ := isOf hZ rfl nf188_0
    obtain ⟨_, _, ⟨T192, qL192, qk192, qn192⟩, -, X192, ⟨Lc192, hQ192, ql192, qy192, qz192⟩, st192⟩ := X188.virtualBack hx (y := (⟨"com/example/attest/attest/metadata/ScopeSyntax$Chars", "contains", "(I)Z"⟩ : MethodName)) (z := (⟨"com/example/attest/attest/metadata/ScopeSyntax$Chars", "contains", "(I)Z"⟩ : MethodName)) hown (mvT hZ (hw _ (List.mem_of_getElem? (i := 26) rfl))) (mvT hZ (hw _ (List.mem_of_getElem? (i := 27) rfl))) (notFace_of_selects (args := #[]) (mvT hZ (hw _ (List.mem_of_getElem? (i := 29) rfl)))) (mvT hZ (hw _ (List.mem_of_getElem? (i := 29) rfl))) (mvT hZ (hw _ (List.mem_of_getElem? (i := 28) rfl))) (by decide) (backOf (W := 0) (rm6_3 l Z A0 hw [] b183 j293_s0_179 b148 kA148 v6 v7 v8 v9 v10 v11 T188.heap n0 zz190 nf188_1 f189_1 sorted3) hZ (hw _ (List.mem_of_getElem? (i := 30) rfl)) (hw _ (List.mem_of_getElem? (i := 12) rfl)) (by decide) (by decide)) qa192 qc192 (g := (mkF m 306 #[vI p0, vI p1, vI p2, vI p3, vI p4, vI p5, vI (3 : Int32), vI v6, vI v6, vI v7, vI v8, vI v9, vI v10, vI v11, vI v12, vI v13, vR b148, vI j293_s0_179, .unset, .unset] [(.int j293_s0_179), (.ref b183)])) rfl (by rw [hml]; rfl) (Steps.refl _) (argsL := [(.int j293_s0_179)]) (rest := []) (lenOf pd_3 rfl) rfl (by show 2 * 0 + _ ≤ _; exact Nat.le_of_eq rfl) (hb hby at_306) (fun _ _ => ⟨rfl, rfl, (by decide : 2 + 0 ≤ _), (by decide : 7 + 0 ≤ _)⟩)
    dsimp only [Pt.U, Pt.locs, Pt.cells, Pt.slots] at X192 ql192 qy192 qz192 st192 hQ192
    subst ql192 qy192 qz192
    obtain ⟨rfl, Nq192, eq192⟩ := hQ192
    have N192 := Fr.app N188 Nq192
    have pre192 : Go p.tables e below S0 T192 (mkF m 309 #[vI p0, vI p1, vI p2, vI p3, vI p4, vI p5, vI (3 : Int32), vI v6, vI v6, vI v7, vI v8, vI v9, vI v10, vI v11, vI v12, vI v13, vR b148, vI j293_s0_179, .unset, .unset] [(.int (own_in3 j293_s0_179 v6 v7 v8 v9 v10 v11))]) := fun t k => pre191 t (st192.trans k)
    have pre193 : Go p.tables e below S0 T192 (mkF m 320 #[vI p0, vI p1, vI p2, vI p3, vI p4, vI p5, vI (3 : Int32), vI v6, vI v6, vI v7, vI v8, vI v9, vI v10, vI v11, vI v12, vI v13, vR b148, vI j293_s0_179, vI (own_in3 j293_s0_179 v6 v7 v8 v9 v10 v11), .unset] [(.int j293_s0_179), (.int v6)]) := fun t k => pre192 t (by
      refine XS.istore X192.here hx rfl (hb hby at_309) rfl (l' := #[vI p0, vI p1, vI p2, vI p3, vI p4, vI p5, vI (3 : Int32), vI v6, vI v6, vI v7, vI v8, vI v9, vI v10, vI v11, vI v12, vI v13, vR b148, vI j293_s0_179, vI (own_in3 j293_s0_179 v6 v7 v8 v9 v10 v11), .unset]) rfl ?_
      show Steps p.tables e below (T192.setTop (mkF m 311 #[vI p0, vI p1, vI p2, vI p3, vI p4, vI p5, vI (3 : Int32), vI v6, vI v6, vI v7, vI v8, vI v9, vI v10, vI v11, vI v12, vI v13, vR b148, vI j293_s0_179, vI (own_in3 j293_s0_179 v6 v7 v8 v9 v10 v11), .unset] [])) _
      refine XS.iload X192.here hx rfl (hb hby at_311) rfl ?_
      show Steps p.tables e below (T192.setTop (mkF m 313 #[vI p0, vI p1, vI p2, vI p3, vI p4, vI p5, vI (3 : Int32), vI v6, vI v6, vI v7, vI v8, vI v9, vI v10, vI v11, vI v12, vI v13, vR b148, vI j293_s0_179, vI (own_in3 j293_s0_179 v6 v7 v8 v9 v10 v11), .unset] [(.int (3 : Int32))])) _
      refine XS.ifNo X192.here hx rfl (hb hby at_313) rfl ((if0 _ _).trans (tlt (by decide : (0 : Int32) < (3 : Int32))).2.2.2) ?_
      show Steps p.tables e below (T192.setTop (mkF m 316 #[vI p0, vI p1, vI p2, vI p3, vI p4, vI p5, vI (3 : Int32), vI v6, vI v6, vI v7, vI v8, vI v9, vI v10, vI v11, vI v12, vI v13, vR b148, vI j293_s0_179, vI (own_in3 j293_s0_179 v6 v7 v8 v9 v10 v11), .unset] [])) _
      refine XS.iload X192.here hx rfl (hb hby at_316) rfl ?_
      show Steps p.tables e below (T192.setTop (mkF m 318 #[vI p0, vI p1, vI p2, vI p3, vI p4, vI p5, vI (3 : Int32), vI v6, vI v6, vI v7, vI v8, vI v9, vI v10, vI v11, vI v12, vI v13, vR b148, vI j293_s0_179, vI (own_in3 j293_s0_179 v6 v7 v8 v9 v10 v11), .unset] [(.int v6)])) _
      refine XS.iload X192.here hx rfl (hb hby at_318) rfl ?_
      show Steps p.tables e below (T192.setTop (mkF m 320 #[vI p0, vI p1, vI p2, vI p3, vI p4, vI p5, vI (3 : Int32), vI v6, vI v6, vI v7, vI v8, vI v9, vI v10, vI v11, vI v12, vI v13, vR b148, vI j293_s0_179, vI (own_in3 j293_s0_179 v6 v7 v8 v9 v10 v11), .unset] [(.int j293_s0_179), (.int v6)])) _
      exact k)
    refine cps (A := ∃ (j395_s0_236 : Int32), (j395_s0_236 = own_in3 j293_s0_179 v6 v7 v8 v9 v10 v11) ∧ (Go p.tables e below S0 T192 (mkF m 395 #[vI p0, vI p1, vI p2, vI p3, vI p4, vI p5, vI (3 : Int32), vI v6, vI v6, vI v7, vI v8, vI v9, vI v10, vI v11, vI v12, vI v13, vR b148, vI j293_s0_179, vI (own_in3 j293_s0_179 v6 v7 v8 v9 v10 v11), .unset] [(.int j395_s0_236)]))) (fun tail239 => ?_) ?_
    · skip
      by_cases c320_194 : j293_s0_179 < v6
      · skip
        have pre195 : Go p.tables e below S0 T192 (mkF m 340 #[vI p0, vI p1, vI p2, vI p3, vI p4, vI p5, vI (3 : Int32), vI v6, vI v6, vI v7, vI v8, vI v9, vI v10, vI v11, vI v12, vI v13, vR b148, vI j293_s0_179, vI (own_in3 j293_s0_179 v6 v7 v8 v9 v10 v11), .unset] [(.int j293_s0_179), (.int v8)]) := fun t k => pre193 t (by
          refine XS.icmpYes X192.here hx rfl (pc0 := 320) (pc' := 330) rfl (hb hby at_320) rfl (tlt c320_194).2.2.1 (by decide) (by decide) ?_
          show Steps p.tables e below (T192.setTop (mkF m 330 #[vI p0, vI p1, vI p2, vI p3, vI p4, vI p5, vI (3 : Int32), vI v6, vI v6, vI v7, vI v8, vI v9, vI v10, vI v11, vI v12, vI v13, vR b148, vI j293_s0_179, vI (own_in3 j293_s0_179 v6 v7 v8 v9 v10 v11), .unset] [])) _
          refine XS.iload X192.here hx rfl (hb hby at_330) rfl ?_
          show Steps p.tables e below (T192.setTop (mkF m 332 #[vI p0, vI p1, vI p2, vI p3, vI p4, vI p5, vI (3 : Int32), vI v6, vI v6, vI v7, vI v8, vI v9, vI v10, vI v11, vI v12, vI v13, vR b148, vI j293_s0_179, vI (own_in3 j293_s0_179 v6 v7 v8 v9 v10 v11), .unset] [(.int (3 : Int32))])) _
          refine XS.iconst X192.here hx rfl (hb hby at_332) ?_
          show Steps p.tables e below (T192.setTop (mkF m 333 #[vI p0, vI p1, vI p2, vI p3, vI p4, vI p5, vI (3 : Int32), vI v6, vI v6, vI v7, vI v8, vI v9, vI v10, vI v11, vI v12, vI v13, vR b148, vI j293_s0_179, vI (own_in3 j293_s0_179 v6 v7 v8 v9 v10 v11), .unset] [(.int (1 : Int32)), (.int (3 : Int32))])) _
          refine XS.icmpNo X192.here hx rfl (hb hby at_333) rfl (tlt (by decide : (1 : Int32) < (3 : Int32))).2.2.2 ?_
          show Steps p.tables e below (T192.setTop (mkF m 336 #[vI p0, vI p1, vI p2, vI p3, vI p4, vI p5, vI (3 : Int32), vI v6, vI v6, vI v7, vI v8, vI v9, vI v10, vI v11, vI v12, vI v13, vR b148, vI j293_s0_179, vI (own_in3 j293_s0_179 v6 v7 v8 v9 v10 v11), .unset] [])) _
          refine XS.iload X192.here hx rfl (hb hby at_336) rfl ?_
          show Steps p.tables e below (T192.setTop (mkF m 338 #[vI p0, vI p1, vI p2, vI p3, vI p4, vI p5, vI (3 : Int32), vI v6, vI v6, vI v7, vI v8, vI v9, vI v10, vI v11, vI v12, vI v13, vR b148, vI j293_s0_179, vI (own_in3 j293_s0_179 v6 v7 v8 v9 v10 v11), .unset] [(.int v8)])) _
          refine XS.iload X192.here hx rfl (hb hby at_338) rfl ?_
          show Steps p.tables e below (T192.setTop (mkF m 340 #[vI p0, vI p1, vI p2, vI p3, vI p4, vI p5, vI (3 : Int32), vI v6, vI v6, vI v7, vI v8, vI v9, vI v10, vI v11, vI v12, vI v13, vR b148, vI j293_s0_179, vI (own_in3 j293_s0_179 v6 v7 v8 v9 v10 v11), .unset] [(.int j293_s0_179), (.int v8)])) _
          exact k)
        by_cases c340_196 : j293_s0_179 < v8
        · skip
          have pre197 : Go p.tables e below S0 T192 (mkF m 360 #[vI p0, vI p1, vI p2, vI p3, vI p4, vI p5, vI (3 : Int32), vI v6, vI v6, vI v7, vI v8, vI v9, vI v10, vI v11, vI v12, vI v13, vR b148, vI j293_s0_179, vI (own_in3 j293_s0_179 v6 v7 v8 v9 v10 v11), .unset] [(.int j293_s0_179), (.int v10)]) := fun t k => pre195 t (by
            refine XS.icmpYes X192.here hx rfl (pc0 := 340) (pc' := 350) rfl (hb hby at_340) rfl (tlt c340_196).2.2.1 (by decide) (by decide) ?_
            show Steps p.tables e below (T192.setTop (mkF m 350 #[vI p0, vI p1, vI p2, vI p3, vI p4, vI p5, vI (3 : Int32), vI v6, vI v6, vI v7, vI v8, vI v9, vI v10, vI v11, vI v12, vI v13, vR b148, vI j293_s0_179, vI (own_in3 j293_s0_179 v6 v7 v8 v9 v10 v11), .unset] [])) _
            refine XS.iload X192.here hx rfl (hb hby at_350) rfl ?_
            show Steps p.tables e below (T192.setTop (mkF m 352 #[vI p0, vI p1, vI p2, vI p3, vI p4, vI p5, vI (3 : Int32), vI v6, vI v6, vI v7, vI v8, vI v9, vI v10, vI v11, vI v12, vI v13, vR b148, vI j293_s0_179, vI (own_in3 j293_s0_179 v6 v7 v8 v9 v10 v11), .unset] [(.int (3 : Int32))])) _
            refine XS.iconst X192.here hx rfl (hb hby at_352) ?_
            show Steps p.tables e below (T192.setTop (mkF m 353 #[vI p0, vI p1, vI p2, vI p3, vI p4, vI p5, vI (3 : Int32), vI v6, vI v6, vI v7, vI v8, vI v9, vI v10, vI v11, vI v12, vI v13, vR b148, vI j293_s0_179, vI (own_in3 j293_s0_179 v6 v7 v8 v9 v10 v11), .unset] [(.int (2 : Int32)), (.int (3 : Int32))])) _
            refine XS.icmpNo X192.here hx rfl (hb hby at_353) rfl (tlt (by decide : (2 : Int32) < (3 : Int32))).2.2.2 ?_
            show Steps p.tables e below (T192.setTop (mkF m 356 #[vI p0, vI p1, vI p2, vI p3, vI p4, vI p5, vI (3 : Int32), vI v6, vI v6, vI v7, vI v8, vI v9, vI v10, vI v11, vI v12, vI v13, vR b148, vI j293_s0_179, vI (own_in3 j293_s0_179 v6 v7 v8 v9 v10 v11), .unset] [])) _
            refine XS.iload X192.here hx rfl (hb hby at_356) rfl ?_
            show Steps p.tables e below (T192.setTop (mkF m 358 #[vI p0, vI p1, vI p2, vI p3, vI p4, vI p5, vI (3 : Int32), vI v6, vI v6, vI v7, vI v8, vI v9, vI v10, vI v11, vI v12, vI v13, vR b148, vI j293_s0_179, vI (own_in3 j293_s0_179 v6 v7 v8 v9 v10 v11), .unset] [(.int v10)])) _
            refine XS.iload X192.here hx rfl (hb hby at_358) rfl ?_
            show Steps p.tables e below (T192.setTop (mkF m 360 #[vI p0, vI p1, vI p2, vI p3, vI p4, vI p5, vI (3 : Int32), vI v6, vI v6, vI v7, vI v8, vI v9, vI v10, vI v11, vI v12, vI v13, vR b148, vI j293_s0_179, vI (own_in3 j293_s0_179 v6 v7 v8 v9 v10 v11), .unset] [(.int j293_s0_179), (.int v10)])) _
            exact k)
          by_cases c360_198 : j293_s0_179 < v10
          · skip
            have pre199 : Go p.tables e below S0 T192 (mkF m 395 #[vI p0, vI p1, vI p2, vI p3, vI p4, vI p5, vI (3 : Int32), vI v6, vI v6, vI v7, vI v8, vI v9, vI v10, vI v11, vI v12, vI v13, vR b148, vI j293_s0_179, vI (own_in3 j293_s0_179 v6 v7 v8 v9 v10 v11), .unset] [(.int (0 : Int32))]) := fun t k => pre197 t (by
              refine XS.icmpYes X192.here hx rfl (pc0 := 360) (pc' := 370) rfl (hb hby at_360) rfl (tlt c360_198).2.2.1 (by decide) (by decide) ?_
              show Steps p.tables e below (T192.setTop (mkF m 370 #[vI p0, vI p1, vI p2, vI p3, vI p4, vI p5, vI (3 : Int32), vI v6, vI v6, vI v7, vI v8, vI v9, vI v10, vI v11, vI v12, vI v13, vR b148, vI j293_s0_179, vI (own_in3 j293_s0_179 v6 v7 v8 v9 v10 v11), .unset] [])) _
              refine XS.iload X192.here hx rfl (hb hby at_370) rfl ?_
              show Steps p.tables e below (T192.setTop (mkF m 372 #[vI p0, vI p1, vI p2, vI p3, vI p4, vI p5, vI (3 : Int32), vI v6, vI v6, vI v7, vI v8, vI v9, vI v10, vI v11, vI v12, vI v13, vR b148, vI j293_s0_179, vI (own_in3 j293_s0_179 v6 v7 v8 v9 v10 v11), .unset] [(.int (3 : Int32))])) _
              refine XS.iconst X192.here hx rfl (hb hby at_372) ?_
              show Steps p.tables e below (T192.setTop (mkF m 373 #[vI p0, vI p1, vI p2, vI p3, vI p4, vI p5, vI (3 : Int32), vI v6, vI v6, vI v7, vI v8, vI v9, vI v10, vI v11, vI v12, vI v13, vR b148, vI j293_s0_179, vI (own_in3 j293_s0_179 v6 v7 v8 v9 v10 v11), .unset] [(.int (3 : Int32)), (.int (3 : Int32))])) _
              refine XS.icmpYes X192.here hx rfl (pc0 := 373) (pc' := 394) rfl (hb hby at_373) rfl (flt (by decide : ¬ ((3 : Int32) < (3 : Int32)))).2.2.2 (by decide) (by decide) ?_
              show Steps p.tables e below (T192.setTop (mkF m 394 #[vI p0, vI p1, vI p2, vI p3, vI p4, vI p5, vI (3 : Int32), vI v6, vI v6, vI v7, vI v8, vI v9, vI v10, vI v11, vI v12, vI v13, vR b148, vI j293_s0_179, vI (own_in3 j293_s0_179 v6 v7 v8 v9 v10 v11), .unset] [])) _
              refine XS.iconst X192.here hx rfl (hb hby at_394) ?_
              show Steps p.tables e below (T192.setTop (mkF m 395 #[vI p0, vI p1, vI p2, vI p3, vI p4, vI p5, vI (3 : Int32), vI v6, vI v6, vI v7, vI v8, vI v9, vI v10, vI v11, vI v12, vI v13, vR b148, vI j293_s0_179, vI (own_in3 j293_s0_179 v6 v7 v8 v9 v10 v11), .unset] [(.int (0 : Int32))])) _
              exact k)
            exact tail239 ⟨(0 : Int32), (by simp [own_in3, c320_194, c340_196, c360_198]), pre199⟩
          · skip
            have pre200 : Go p.tables e below S0 T192 (mkF m 367 #[vI p0, vI p1, vI p2, vI p3, vI p4, vI p5, vI (3 : Int32), vI v6, vI v6, vI v7, vI v8, vI v9, vI v10, vI v11, vI v12, vI v13, vR b148, vI j293_s0_179, vI (own_in3 j293_s0_179 v6 v7 v8 v9 v10 v11), .unset] [(.int v11), (.int j293_s0_179)]) := fun t k => pre197 t (by
              refine XS.icmpNo X192.here hx rfl (hb hby at_360) rfl (flt c360_198).2.2.1 ?_
              show Steps p.tables e below (T192.setTop (mkF m 363 #[vI p0, vI p1, vI p2, vI p3, vI p4, vI p5, vI (3 : Int32), vI v6, vI v6, vI v7, vI v8, vI v9, vI v10, vI v11, vI v12, vI v13, vR b148, vI j293_s0_179, vI (own_in3 j293_s0_179 v6 v7 v8 v9 v10 v11), .unset] [])) _
              refine XS.iload X192.here hx rfl (hb hby at_363) rfl ?_
              show Steps p.tables e below (T192.setTop (mkF m 365 #[vI p0, vI p1, vI p2, vI p3, vI p4, vI p5, vI (3 : Int32), vI v6, vI v6, vI v7, vI v8, vI v9, vI v10, vI v11, vI v12, vI v13, vR b148, vI j293_s0_179, vI (own_in3 j293_s0_179 v6 v7 v8 v9 v10 v11), .unset] [(.int j293_s0_179)])) _
              refine XS.iload X192.here hx rfl (hb hby at_365) rfl ?_
              show Steps p.tables e below (T192.setTop (mkF m 367 #[vI p0, vI p1, vI p2, vI p3, vI p4, vI p5, vI (3 : Int32), vI v6, vI v6, vI v7, vI v8, vI v9, vI v10, vI v11, vI v12, vI v13, vR b148, vI j293_s0_179, vI (own_in3 j293_s0_179 v6 v7 v8 v9 v10 v11), .unset] [(.int v11), (.int j293_s0_179)])) _
              exact k)
            by_cases c367_201 : v11 < j293_s0_179
            · skip
              have pre202 : Go p.tables e below S0 T192 (mkF m 395 #[vI p0, vI p1, vI p2, vI p3, vI p4, vI p5, vI (3 : Int32), vI v6, vI v6, vI v7, vI v8, vI v9, vI v10, vI v11, vI v12, vI v13, vR b148, vI j293_s0_179, vI (own_in3 j293_s0_179 v6 v7 v8 v9 v10 v11), .unset] [(.int (0 : Int32))]) := fun t k => pre200 t (by
                refine XS.icmpNo X192.here hx rfl (hb hby at_367) rfl (tlt c367_201).2.2.2 ?_
                show Steps p.tables e below (T192.setTop (mkF m 370 #[vI p0, vI p1, vI p2, vI p3, vI p4, vI p5, vI (3 : Int32), vI v6, vI v6, vI v7, vI v8, vI v9, vI v10, vI v11, vI v12, vI v13, vR b148, vI j293_s0_179, vI (own_in3 j293_s0_179 v6 v7 v8 v9 v10 v11), .unset] [])) _
                refine XS.iload X192.here hx rfl (hb hby at_370) rfl ?_
                show Steps p.tables e below (T192.setTop (mkF m 372 #[vI p0, vI p1, vI p2, vI p3, vI p4, vI p5, vI (3 : Int32), vI v6, vI v6, vI v7, vI v8, vI v9, vI v10, vI v11, vI v12, vI v13, vR b148, vI j293_s0_179, vI (own_in3 j293_s0_179 v6 v7 v8 v9 v10 v11), .unset] [(.int (3 : Int32))])) _
                refine XS.iconst X192.here hx rfl (hb hby at_372) ?_
                show Steps p.tables e below (T192.setTop (mkF m 373 #[vI p0, vI p1, vI p2, vI p3, vI p4, vI p5, vI (3 : Int32), vI v6, vI v6, vI v7, vI v8, vI v9, vI v10, vI v11, vI v12, vI v13, vR b148, vI j293_s0_179, vI (own_in3 j293_s0_179 v6 v7 v8 v9 v10 v11), .unset] [(.int (3 : Int32)), (.int (3 : Int32))])) _
                refine XS.icmpYes X192.here hx rfl (pc0 := 373) (pc' := 394) rfl (hb hby at_373) rfl (flt (by decide : ¬ ((3 : Int32) < (3 : Int32)))).2.2.2 (by decide) (by decide) ?_
                show Steps p.tables e below (T192.setTop (mkF m 394 #[vI p0, vI p1, vI p2, vI p3, vI p4, vI p5, vI (3 : Int32), vI v6, vI v6, vI v7, vI v8, vI v9, vI v10, vI v11, vI v12, vI v13, vR b148, vI j293_s0_179, vI (own_in3 j293_s0_179 v6 v7 v8 v9 v10 v11), .unset] [])) _
                refine XS.iconst X192.here hx rfl (hb hby at_394) ?_
                show Steps p.tables e below (T192.setTop (mkF m 395 #[vI p0, vI p1, vI p2, vI p3, vI p4, vI p5, vI (3 : Int32), vI v6, vI v6, vI v7, vI v8, vI v9, vI v10, vI v11, vI v12, vI v13, vR b148, vI j293_s0_179, vI (own_in3 j293_s0_179 v6 v7 v8 v9 v10 v11), .unset] [(.int (0 : Int32))])) _
                exact k)
              exact tail239 ⟨(0 : Int32), (by simp [own_in3, c320_194, c340_196, c360_198, c367_201]), pre202⟩
            · skip
              have pre203 : Go p.tables e below S0 T192 (mkF m 395 #[vI p0, vI p1, vI p2, vI p3, vI p4, vI p5, vI (3 : Int32), vI v6, vI v6, vI v7, vI v8, vI v9, vI v10, vI v11, vI v12, vI v13, vR b148, vI j293_s0_179, vI (own_in3 j293_s0_179 v6 v7 v8 v9 v10 v11), .unset] [(.int (1 : Int32))]) := fun t k => pre200 t (by
                refine XS.icmpYes X192.here hx rfl (pc0 := 367) (pc' := 390) rfl (hb hby at_367) rfl (flt c367_201).2.2.2 (by decide) (by decide) ?_
                show Steps p.tables e below (T192.setTop (mkF m 390 #[vI p0, vI p1, vI p2, vI p3, vI p4, vI p5, vI (3 : Int32), vI v6, vI v6, vI v7, vI v8, vI v9, vI v10, vI v11, vI v12, vI v13, vR b148, vI j293_s0_179, vI (own_in3 j293_s0_179 v6 v7 v8 v9 v10 v11), .unset] [])) _
                refine XS.iconst X192.here hx rfl (hb hby at_390) ?_
                show Steps p.tables e below (T192.setTop (mkF m 391 #[vI p0, vI p1, vI p2, vI p3, vI p4, vI p5, vI (3 : Int32), vI v6, vI v6, vI v7, vI v8, vI v9, vI v10, vI v11, vI v12, vI v13, vR b148, vI j293_s0_179, vI (own_in3 j293_s0_179 v6 v7 v8 v9 v10 v11), .unset] [(.int (1 : Int32))])) _
                refine XS.goto X192.here hx rfl (pc0 := 391) (pc' := 395) rfl (hb hby at_391) (by decide) (by decide) ?_
                show Steps p.tables e below (T192.setTop (mkF m 395 #[vI p0, vI p1, vI p2, vI p3, vI p4, vI p5, vI (3 : Int32), vI v6, vI v6, vI v7, vI v8, vI v9, vI v10, vI v11, vI v12, vI v13, vR b148, vI j293_s0_179, vI (own_in3 j293_s0_179 v6 v7 v8 v9 v10 v11), .unset] [(.int (1 : Int32))])) _
                exact k)
              exact tail239 ⟨(1 : Int32), (by simp [own_in3, c320_194, c340_196, c360_198, c367_201]), pre203⟩
        · skip
          have pre204 : Go p.tables e below S0 T192 (mkF m 347 #[vI p0, vI p1, vI p2, vI p3, vI p4, vI p5, vI (3 : Int32), vI v6, vI v6, vI v7, vI v8, vI v9, vI v10, vI v11, vI v12, vI v13, vR b148, vI j293_s0_179, vI (own_in3 j293_s0_179 v6 v7 v8 v9 v10 v11), .unset] [(.int v9), (.int j293_s0_179)]) := fun t k => pre195 t (by
            refine XS.icmpNo X192.here hx rfl (hb hby at_340) rfl (flt c340_196).2.2.1 ?_
            show Steps p.tables e below (T192.setTop (mkF m 343 #[vI p0, vI p1, vI p2, vI p3, vI p4, vI p5, vI (3 : Int32), vI v6, vI v6, vI v7, vI v8, vI v9, vI v10, vI v11, vI v12, vI v13, vR b148, vI j293_s0_179, vI (own_in3 j293_s0_179 v6 v7 v8 v9 v10 v11), .unset] [])) _
            refine XS.iload X192.here hx rfl (hb hby at_343) rfl ?_
            show Steps p.tables e below (T192.setTop (mkF m 345 #[vI p0, vI p1, vI p2, vI p3, vI p4, vI p5, vI (3 : Int32), vI v6, vI v6, vI v7, vI v8, vI v9, vI v10, vI v11, vI v12, vI v13, vR b148, vI j293_s0_179, vI (own_in3 j293_s0_179 v6 v7 v8 v9 v10 v11), .unset] [(.int j293_s0_179)])) _
            refine XS.iload X192.here hx rfl (hb hby at_345) rfl ?_
            show Steps p.tables e below (T192.setTop (mkF m 347 #[vI p0, vI p1, vI p2, vI p3, vI p4, vI p5, vI (3 : Int32), vI v6, vI v6, vI v7, vI v8, vI v9, vI v10, vI v11, vI v12, vI v13, vR b148, vI j293_s0_179, vI (own_in3 j293_s0_179 v6 v7 v8 v9 v10 v11), .unset] [(.int v9), (.int j293_s0_179)])) _
            exact k)
          by_cases c347_205 : v9 < j293_s0_179
          · skip
            have pre206 : Go p.tables e below S0 T192 (mkF m 360 #[vI p0, vI p1, vI p2, vI p3, vI p4, vI p5, vI (3 : Int32), vI v6, vI v6, vI v7, vI v8, vI v9, vI v10, vI v11, vI v12, vI v13, vR b148, vI j293_s0_179, vI (own_in3 j293_s0_179 v6 v7 v8 v9 v10 v11), .unset] [(.int j293_s0_179), (.int v10)]) := fun t k => pre204 t (by
              refine XS.icmpNo X192.here hx rfl (hb hby at_347) rfl (tlt c347_205).2.2.2 ?_
              show Steps p.tables e below (T192.setTop (mkF m 350 #[vI p0, vI p1, vI p2, vI p3, vI p4, vI p5, vI (3 : Int32), vI v6, vI v6, vI v7, vI v8, vI v9, vI v10, vI v11, vI v12, vI v13, vR b148, vI j293_s0_179, vI (own_in3 j293_s0_179 v6 v7 v8 v9 v10 v11), .unset] [])) _
              refine XS.iload X192.here hx rfl (hb hby at_350) rfl ?_
              show Steps p.tables e below (T192.setTop (mkF m 352 #[vI p0, vI p1, vI p2, vI p3, vI p4, vI p5, vI (3 : Int32), vI v6, vI v6, vI v7, vI v8, vI v9, vI v10, vI v11, vI v12, vI v13, vR b148, vI j293_s0_179, vI (own_in3 j293_s0_179 v6 v7 v8 v9 v10 v11), .unset] [(.int (3 : Int32))])) _
              refine XS.iconst X192.here hx rfl (hb hby at_352) ?_
              show Steps p.tables e below (T192.setTop (mkF m 353 #[vI p0, vI p1, vI p2, vI p3, vI p4, vI p5, vI (3 : Int32), vI v6, vI v6, vI v7, vI v8, vI v9, vI v10, vI v11, vI v12, vI v13, vR b148, vI j293_s0_179, vI (own_in3 j293_s0_179 v6 v7 v8 v9 v10 v11), .unset] [(.int (2 : Int32)), (.int (3 : Int32))])) _
              refine XS.icmpNo X192.here hx rfl (hb hby at_353) rfl (tlt (by decide : (2 : Int32) < (3 : Int32))).2.2.2 ?_
              show Steps p.tables e below (T192.setTop (mkF m 356 #[vI p0, vI p1, vI p2, vI p3, vI p4, vI p5, vI (3 : Int32), vI v6, vI v6, vI v7, vI v8, vI v9, vI v10, vI v11, vI v12, vI v13, vR b148, vI j293_s0_179, vI (own_in3 j293_s0_179 v6 v7 v8 v9 v10 v11), .unset] [])) _
              refine XS.iload X192.here hx rfl (hb hby at_356) rfl ?_
              show Steps p.tables e below (T192.setTop (mkF m 358 #[vI p0, vI p1, vI p2, vI p3, vI p4, vI p5, vI (3 : Int32), vI v6, vI v6, vI v7, vI v8, vI v9, vI v10, vI v11, vI v12, vI v13, vR b148, vI j293_s0_179, vI (own_in3 j293_s0_179 v6 v7 v8 v9 v10 v11), .unset] [(.int v10)])) _
              refine XS.iload X192.here hx rfl (hb hby at_358) rfl ?_
              show Steps p.tables e below (T192.setTop (mkF m 360 #[vI p0, vI p1, vI p2, vI p3, vI p4, vI p5, vI (3 : Int32), vI v6, vI v6, vI v7, vI v8, vI v9, vI v10, vI v11, vI v12, vI v13, vR b148, vI j293_s0_179, vI (own_in3 j293_s0_179 v6 v7 v8 v9 v10 v11), .unset] [(.int j293_s0_179), (.int v10)])) _
              exact k)
            by_cases c360_207 : j293_s0_179 < v10
            · skip
              have pre208 : Go p.tables e below S0 T192 (mkF m 395 #[vI p0, vI p1, vI p2, vI p3, vI p4, vI p5, vI (3 : Int32), vI v6, vI v6, vI v7, vI v8, vI v9, vI v10, vI v11, vI v12, vI v13, vR b148, vI j293_s0_179, vI (own_in3 j293_s0_179 v6 v7 v8 v9 v10 v11), .unset] [(.int (0 : Int32))]) := fun t k => pre206 t (by
                refine XS.icmpYes X192.here hx rfl (pc0 := 360) (pc' := 370) rfl (hb hby at_360) rfl (tlt c360_207).2.2.1 (by decide) (by decide) ?_
                show Steps p.tables e below (T192.setTop (mkF m 370 #[vI p0, vI p1, vI p2, vI p3, vI p4, vI p5, vI (3 : Int32), vI v6, vI v6, vI v7, vI v8, vI v9, vI v10, vI v11, vI v12, vI v13, vR b148, vI j293_s0_179, vI (own_in3 j293_s0_179 v6 v7 v8 v9 v10 v11), .unset] [])) _
                refine XS.iload X192.here hx rfl (hb hby at_370) rfl ?_
                show Steps p.tables e below (T192.setTop (mkF m 372 #[vI p0, vI p1, vI p2, vI p3, vI p4, vI p5, vI (3 : Int32), vI v6, vI v6, vI v7, vI v8, vI v9, vI v10, vI v11, vI v12, vI v13, vR b148, vI j293_s0_179, vI (own_in3 j293_s0_179 v6 v7 v8 v9 v10 v11), .unset] [(.int (3 : Int32))])) _
                refine XS.iconst X192.here hx rfl (hb hby at_372) ?_
                show Steps p.tables e below (T192.setTop (mkF m 373 #[vI p0, vI p1, vI p2, vI p3, vI p4, vI p5, vI (3 : Int32), vI v6, vI v6, vI v7, vI v8, vI v9, vI v10, vI v11, vI v12, vI v13, vR b148, vI j293_s0_179, vI (own_in3 j293_s0_179 v6 v7 v8 v9 v10 v11), .unset] [(.int (3 : Int32)), (.int (3 : Int32))])) _
                refine XS.icmpYes X192.here hx rfl (pc0 := 373) (pc' := 394) rfl (hb hby at_373) rfl (flt (by decide : ¬ ((3 : Int32) < (3 : Int32)))).2.2.2 (by decide) (by decide) ?_
                show Steps p.tables e below (T192.setTop (mkF m 394 #[vI p0, vI p1, vI p2, vI p3, vI p4, vI p5, vI (3 : Int32), vI v6, vI v6, vI v7, vI v8, vI v9, vI v10, vI v11, vI v12, vI v13, vR b148, vI j293_s0_179, vI (own_in3 j293_s0_179 v6 v7 v8 v9 v10 v11), .unset] [])) _
                refine XS.iconst X192.here hx rfl (hb hby at_394) ?_
                show Steps p.tables e below (T192.setTop (mkF m 395 #[vI p0, vI p1, vI p2, vI p3, vI p4, vI p5, vI (3 : Int32), vI v6, vI v6, vI v7, vI v8, vI v9, vI v10, vI v11, vI v12, vI v13, vR b148, vI j293_s0_179, vI (own_in3 j293_s0_179 v6 v7 v8 v9 v10 v11), .unset] [(.int (0 : Int32))])) _
                exact k)
              exact tail239 ⟨(0 : Int32), (by simp [own_in3, c320_194, c340_196, c347_205, c360_207]), pre208⟩
            · skip
              have pre209 : Go p.tables e below S0 T192 (mkF m 367 #[vI p0, vI p1, vI p2, vI p3, vI p4, vI p5, vI (3 : Int32), vI v6, vI v6, vI v7, vI v8, vI v9, vI v10, vI v11, vI v12, vI v13, vR b148, vI j293_s0_179, vI (own_in3 j293_s0_179 v6 v7 v8 v9 v10 v11), .unset] [(.int v11), (.int j293_s0_179)]) := fun t k => pre206 t (by
                refine XS.icmpNo X192.here hx rfl (hb hby at_360) rfl (flt c360_207).2.2.1 ?_
                show Steps p.tables e below (T192.setTop (mkF m 363 #[vI p0, vI p1, vI p2, vI p3, vI p4, vI p5, vI (3 : Int32), vI v6, vI v6, vI v7, vI v8, vI v9, vI v10, vI v11, vI v12, vI v13, vR b148, vI j293_s0_179, vI (own_in3 j293_s0_179 v6 v7 v8 v9 v10 v11), .unset] [])) _
                refine XS.iload X192.here hx rfl (hb hby at_363) rfl ?_
                show Steps p.tables e below (T192.setTop (mkF m 365 #[vI p0, vI p1, vI p2, vI p3, vI p4, vI p5, vI (3 : Int32), vI v6, vI v6, vI v7, vI v8, vI v9, vI v10, vI v11, vI v12, vI v13, vR b148, vI j293_s0_179, vI (own_in3 j293_s0_179 v6 v7 v8 v9 v10 v11), .unset] [(.int j293_s0_179)])) _
                refine XS.iload X192.here hx rfl (hb hby at_365) rfl ?_
                show Steps p.tables e below (T192.setTop (mkF m 367 #[vI p0, vI p1, vI p2, vI p3, vI p4, vI p5, vI (3 : Int32), vI v6, vI v6, vI v7, vI v8, vI v9, vI v10, vI v11, vI v12, vI v13, vR b148, vI j293_s0_179, vI (own_in3 j293_s0_179 v6 v7 v8 v9 v10 v11), .unset] [(.int v11), (.int j293_s0_179)])) _
                exact k)
              by_cases c367_210 : v11 < j293_s0_179
              · skip
                have pre211 : Go p.tables e below S0 T192 (mkF m 395 #[vI p0, vI p1, vI p2, vI p3, vI p4, vI p5, vI (3 : Int32), vI v6, vI v6, vI v7, vI v8, vI v9, vI v10, vI v11, vI v12, vI v13, vR b148, vI j293_s0_179, vI (own_in3 j293_s0_179 v6 v7 v8 v9 v10 v11), .unset] [(.int (0 : Int32))]) := fun t k => pre209 t (by
                  refine XS.icmpNo X192.here hx rfl (hb hby at_367) rfl (tlt c367_210).2.2.2 ?_
                  show Steps p.tables e below (T192.setTop (mkF m 370 #[vI p0, vI p1, vI p2, vI p3, vI p4, vI p5, vI (3 : Int32), vI v6, vI v6, vI v7, vI v8, vI v9, vI v10, vI v11, vI v12, vI v13, vR b148, vI j293_s0_179, vI (own_in3 j293_s0_179 v6 v7 v8 v9 v10 v11), .unset] [])) _
                  refine XS.iload X192.here hx rfl (hb hby at_370) rfl ?_
                  show Steps p.tables e below (T192.setTop (mkF m 372 #[vI p0, vI p1, vI p2, vI p3, vI p4, vI p5, vI (3 : Int32), vI v6, vI v6, vI v7, vI v8, vI v9, vI v10, vI v11, vI v12, vI v13, vR b148, vI j293_s0_179, vI (own_in3 j293_s0_179 v6 v7 v8 v9 v10 v11), .unset] [(.int (3 : Int32))])) _
                  refine XS.iconst X192.here hx rfl (hb hby at_372) ?_
                  show Steps p.tables e below (T192.setTop (mkF m 373 #[vI p0, vI p1, vI p2, vI p3, vI p4, vI p5, vI (3 : Int32), vI v6, vI v6, vI v7, vI v8, vI v9, vI v10, vI v11, vI v12, vI v13, vR b148, vI j293_s0_179, vI (own_in3 j293_s0_179 v6 v7 v8 v9 v10 v11), .unset] [(.int (3 : Int32)), (.int (3 : Int32))])) _
                  refine XS.icmpYes X192.here hx rfl (pc0 := 373) (pc' := 394) rfl (hb hby at_373) rfl (flt (by decide : ¬ ((3 : Int32) < (3 : Int32)))).2.2.2 (by decide) (by decide) ?_
                  show Steps p.tables e below (T192.setTop (mkF m 394 #[vI p0, vI p1, vI p2, vI p3, vI p4, vI p5, vI (3 : Int32), vI v6, vI v6, vI v7, vI v8, vI v9, vI v10, vI v11, vI v12, vI v13, vR b148, vI j293_s0_179, vI (own_in3 j293_s0_179 v6 v7 v8 v9 v10 v11), .unset] [])) _
                  refine XS.iconst X192.here hx rfl (hb hby at_394) ?_
                  show Steps p.tables e below (T192.setTop (mkF m 395 #[vI p0, vI p1, vI p2, vI p3, vI p4, vI p5, vI (3 : Int32), vI v6, vI v6, vI v7, vI v8, vI v9, vI v10, vI v11, vI v12, vI v13, vR b148, vI j293_s0_179, vI (own_in3 j293_s0_179 v6 v7 v8 v9 v10 v11), .unset] [(.int (0 : Int32))])) _
                  exact k)
                exact tail239 ⟨(0 : Int32), (by simp [own_in3, c320_194, c340_196, c347_205, c360_207, c367_210]), pre211⟩
              · skip
                have pre212 : Go p.tables e below S0 T192 (mkF m 395 #[vI p0, vI p1, vI p2, vI p3, vI p4, vI p5, vI (3 : Int32), vI v6, vI v6, vI v7, vI v8, vI v9, vI v10, vI v11, vI v12, vI v13, vR b148, vI j293_s0_179, vI (own_in3 j293_s0_179 v6 v7 v8 v9 v10 v11), .unset] [(.int (1 : Int32))]) := fun t k => pre209 t (by
                  refine XS.icmpYes X192.here hx rfl (pc0 := 367) (pc' := 390) rfl (hb hby at_367) rfl (flt c367_210).2.2.2 (by decide) (by decide) ?_
                  show Steps p.tables e below (T192.setTop (mkF m 390 #[vI p0, vI p1, vI p2, vI p3, vI p4, vI p5, vI (3 : Int32), vI v6, vI v6, vI v7, vI v8, vI v9, vI v10, vI v11, vI v12, vI v13, vR b148, vI j293_s0_179, vI (own_in3 j293_s0_179 v6 v7 v8 v9 v10 v11), .unset] [])) _
                  refine XS.iconst X192.here hx rfl (hb hby at_390) ?_
                  show Steps p.tables e below (T192.setTop (mkF m 391 #[vI p0, vI p1, vI p2, vI p3, vI p4, vI p5, vI (3 : Int32), vI v6, vI v6, vI v7, vI v8, vI v9, vI v10, vI v11, vI v12, vI v13, vR b148, vI j293_s0_179, vI (own_in3 j293_s0_179 v6 v7 v8 v9 v10 v11), .unset] [(.int (1 : Int32))])) _
                  refine XS.goto X192.here hx rfl (pc0 := 391) (pc' := 395) rfl (hb hby at_391) (by decide) (by decide) ?_
                  show Steps p.tables e below (T192.setTop (mkF m 395 #[vI p0, vI p1, vI p2, vI p3, vI p4, vI p5, vI (3 : Int32), vI v6, vI v6, vI v7, vI v8, vI v9, vI v10, vI v11, vI v12, vI v13, vR b148, vI j293_s0_179, vI (own_in3 j293_s0_179 v6 v7 v8 v9 v10 v11), .unset] [(.int (1 : Int32))])) _
                  exact k)
                exact tail239 ⟨(1 : Int32), (by simp [own_in3, c320_194, c340_196, c347_205, c360_207, c367_210]), pre212⟩
          · skip
            have pre213 : Go p.tables e below S0 T192 (mkF m 395 #[vI p0, vI p1, vI p2, vI p3, vI p4, vI p5, vI (3 : Int32), vI v6, vI v6, vI v7, vI v8, vI v9, vI v10, vI v11, vI v12, vI v13, vR b148, vI j293_s0_179, vI (own_in3 j293_s0_179 v6 v7 v8 v9 v10 v11), .unset] [(.int (1 : Int32))]) := fun t k => pre204 t (by
              refine XS.icmpYes X192.here hx rfl (pc0 := 347) (pc' := 390) rfl (hb hby at_347) rfl (flt c347_205).2.2.2 (by decide) (by decide) ?_
              show Steps p.tables e below (T192.setTop (mkF m 390 #[vI p0, vI p1, vI p2, vI p3, vI p4, vI p5, vI (3 : Int32), vI v6, vI v6, vI v7, vI v8, vI v9, vI v10, vI v11, vI v12, vI v13, vR b148, vI j293_s0_179, vI (own_in3 j293_s0_179 v6 v7 v8 v9 v10 v11), .unset] [])) _
              refine XS.iconst X192.here hx rfl (hb hby at_390) ?_
              show Steps p.tables e below (T192.setTop (mkF m 391 #[vI p0, vI p1, vI p2, vI p3, vI p4, vI p5, vI (3 : Int32), vI v6, vI v6, vI v7, vI v8, vI v9, vI v10, vI v11, vI v12, vI v13, vR b148, vI j293_s0_179, vI (own_in3 j293_s0_179 v6 v7 v8 v9 v10 v11), .unset] [(.int (1 : Int32))])) _
              refine XS.goto X192.here hx rfl (pc0 := 391) (pc' := 395) rfl (hb hby at_391) (by decide) (by decide) ?_
              show Steps p.tables e below (T192.setTop (mkF m 395 #[vI p0, vI p1, vI p2, vI p3, vI p4, vI p5, vI (3 : Int32), vI v6, vI v6, vI v7, vI v8, vI v9, vI v10, vI v11, vI v12, vI v13, vR b148, vI j293_s0_179, vI (own_in3 j293_s0_179 v6 v7 v8 v9 v10 v11), .unset] [(.int (1 : Int32))])) _
              exact k)
            exact tail239 ⟨(1 : Int32), (by simp [own_in3, c320_194, c340_196, c347_205]), pre213⟩
      · skip
        have pre214 : Go p.tables e below S0 T192 (mkF m 327 #[vI p0, vI p1, vI p2, vI p3, vI p4, vI p5, vI (3 : Int32), vI v6, vI v6, vI v7, vI v8, vI v9, vI v10, vI v11, vI v12, vI v13, vR b148, vI j293_s0_179, vI (own_in3 j293_s0_179 v6 v7 v8 v9 v10 v11), .unset] [(.int v7), (.int j293_s0_179)]) := fun t k => pre193 t (by
          refine XS.icmpNo X192.here hx rfl (hb hby at_320) rfl (flt c320_194).2.2.1 ?_
          show Steps p.tables e below (T192.setTop (mkF m 323 #[vI p0, vI p1, vI p2, vI p3, vI p4, vI p5, vI (3 : Int32), vI v6, vI v6, vI v7, vI v8, vI v9, vI v10, vI v11, vI v12, vI v13, vR b148, vI j293_s0_179, vI (own_in3 j293_s0_179 v6 v7 v8 v9 v10 v11), .unset] [])) _
          refine XS.iload X192.here hx rfl (hb hby at_323) rfl ?_
          show Steps p.tables e below (T192.setTop (mkF m 325 #[vI p0, vI p1, vI p2, vI p3, vI p4, vI p5, vI (3 : Int32), vI v6, vI v6, vI v7, vI v8, vI v9, vI v10, vI v11, vI v12, vI v13, vR b148, vI j293_s0_179, vI (own_in3 j293_s0_179 v6 v7 v8 v9 v10 v11), .unset] [(.int j293_s0_179)])) _
          refine XS.iload X192.here hx rfl (hb hby at_325) rfl ?_
          show Steps p.tables e below (T192.setTop (mkF m 327 #[vI p0, vI p1, vI p2, vI p3, vI p4, vI p5, vI (3 : Int32), vI v6, vI v6, vI v7, vI v8, vI v9, vI v10, vI v11, vI v12, vI v13, vR b148, vI j293_s0_179, vI (own_in3 j293_s0_179 v6 v7 v8 v9 v10 v11), .unset] [(.int v7), (.int j293_s0_179)])) _
          exact k)
        by_cases c327_215 : v7 < j293_s0_179
        · skip
          have pre216 : Go p.tables e below S0 T192 (mkF m 340 #[vI p0, vI p1, vI p2, vI p3, vI p4, vI p5, vI (3 : Int32), vI v6, vI v6, vI v7, vI v8, vI v9, vI v10, vI v11, vI v12, vI v13, vR b148, vI j293_s0_179, vI (own_in3 j293_s0_179 v6 v7 v8 v9 v10 v11), .unset] [(.int j293_s0_179), (.int v8)]) := fun t k => pre214 t (by
            refine XS.icmpNo X192.here hx rfl (hb hby at_327) rfl (tlt c327_215).2.2.2 ?_
            show Steps p.tables e below (T192.setTop (mkF m 330 #[vI p0, vI p1, vI p2, vI p3, vI p4, vI p5, vI (3 : Int32), vI v6, vI v6, vI v7, vI v8, vI v9, vI v10, vI v11, vI v12, vI v13, vR b148, vI j293_s0_179, vI (own_in3 j293_s0_179 v6 v7 v8 v9 v10 v11), .unset] [])) _
            refine XS.iload X192.here hx rfl (hb hby at_330) rfl ?_
            show Steps p.tables e below (T192.setTop (mkF m 332 #[vI p0, vI p1, vI p2, vI p3, vI p4, vI p5, vI (3 : Int32), vI v6, vI v6, vI v7, vI v8, vI v9, vI v10, vI v11, vI v12, vI v13, vR b148, vI j293_s0_179, vI (own_in3 j293_s0_179 v6 v7 v8 v9 v10 v11), .unset] [(.int (3 : Int32))])) _
            refine XS.iconst X192.here hx rfl (hb hby at_332) ?_
            show Steps p.tables e below (T192.setTop (mkF m 333 #[vI p0, vI p1, vI p2, vI p3, vI p4, vI p5, vI (3 : Int32), vI v6, vI v6, vI v7, vI v8, vI v9, vI v10, vI v11, vI v12, vI v13, vR b148, vI j293_s0_179, vI (own_in3 j293_s0_179 v6 v7 v8 v9 v10 v11), .unset] [(.int (1 : Int32)), (.int (3 : Int32))])) _
            refine XS.icmpNo X192.here hx rfl (hb hby at_333) rfl (tlt (by decide : (1 : Int32) < (3 : Int32))).2.2.2 ?_
            show Steps p.tables e below (T192.setTop (mkF m 336 #[vI p0, vI p1, vI p2, vI p3, vI p4, vI p5, vI (3 : Int32), vI v6, vI v6, vI v7, vI v8, vI v9, vI v10, vI v11, vI v12, vI v13, vR b148, vI j293_s0_179, vI (own_in3 j293_s0_179 v6 v7 v8 v9 v10 v11), .unset] [])) _
            refine XS.iload X192.here hx rfl (hb hby at_336) rfl ?_
            show Steps p.tables e below (T192.setTop (mkF m 338 #[vI p0, vI p1, vI p2, vI p3, vI p4, vI p5, vI (3 : Int32), vI v6, vI v6, vI v7, vI v8, vI v9, vI v10, vI v11, vI v12, vI v13, vR b148, vI j293_s0_179, vI (own_in3 j293_s0_179 v6 v7 v8 v9 v10 v11), .unset] [(.int v8)])) _
            refine XS.iload X192.here hx rfl (hb hby at_338) rfl ?_
            show Steps p.tables e below (T192.setTop (mkF m 340 #[vI p0, vI p1, vI p2, vI p3, vI p4, vI p5, vI (3 : Int32), vI v6, vI v6, vI v7, vI v8, vI v9, vI v10, vI v11, vI v12, vI v13, vR b148, vI j293_s0_179, vI (own_in3 j293_s0_179 v6 v7 v8 v9 v10 v11), .unset] [(.int j293_s0_179), (.int v8)])) _
            exact k)
          by_cases c340_217 : j293_s0_179 < v8
          · skip
            have pre218 : Go p.tables e below S0 T192 (mkF m 360 #[vI p0, vI p1, vI p2, vI p3, vI p4, vI p5, vI (3 : Int32), vI v6, vI v6, vI v7, vI v8, vI v9, vI v10, vI v11, vI v12, vI v13, vR b148, vI j293_s0_179, vI (own_in3 j293_s0_179 v6 v7 v8 v9 v10 v11), .unset] [(.int j293_s0_179), (.int v10)]) := fun t k => pre216 t (by
              refine XS.icmpYes X192.here hx rfl (pc0 := 340) (pc' := 350) rfl (hb hby at_340) rfl (tlt c340_217).2.2.1 (by decide) (by decide) ?_
              show Steps p.tables e below (T192.setTop (mkF m 350 #[vI p0, vI p1, vI p2, vI p3, vI p4, vI p5, vI (3 : Int32), vI v6, vI v6, vI v7, vI v8, vI v9, vI v10, vI v11, vI v12, vI v13, vR b148, vI j293_s0_179, vI (own_in3 j293_s0_179 v6 v7 v8 v9 v10 v11), .unset] [])) _
              refine XS.iload X192.here hx rfl (hb hby at_350) rfl ?_
              show Steps p.tables e below (T192.setTop (mkF m 352 #[vI p0, vI p1, vI p2, vI p3, vI p4, vI p5, vI (3 : Int32), vI v6, vI v6, vI v7, vI v8, vI v9, vI v10, vI v11, vI v12, vI v13, vR b148, vI j293_s0_179, vI (own_in3 j293_s0_179 v6 v7 v8 v9 v10 v11), .unset] [(.int (3 : Int32))])) _
              refine XS.iconst X192.here hx rfl (hb hby at_352) ?_
              show Steps p.tables e below (T192.setTop (mkF m 353 #[vI p0, vI p1, vI p2, vI p3, vI p4, vI p5, vI (3 : Int32), vI v6, vI v6, vI v7, vI v8, vI v9, vI v10, vI v11, vI v12, vI v13, vR b148, vI j293_s0_179, vI (own_in3 j293_s0_179 v6 v7 v8 v9 v10 v11), .unset] [(.int (2 : Int32)), (.int (3 : Int32))])) _
              refine XS.icmpNo X192.here hx rfl (hb hby at_353) rfl (tlt (by decide : (2 : Int32) < (3 : Int32))).2.2.2 ?_
              show Steps p.tables e below (T192.setTop (mkF m 356 #[vI p0, vI p1, vI p2, vI p3, vI p4, vI p5, vI (3 : Int32), vI v6, vI v6, vI v7, vI v8, vI v9, vI v10, vI v11, vI v12, vI v13, vR b148, vI j293_s0_179, vI (own_in3 j293_s0_179 v6 v7 v8 v9 v10 v11), .unset] [])) _
              refine XS.iload X192.here hx rfl (hb hby at_356) rfl ?_
              show Steps p.tables e below (T192.setTop (mkF m 358 #[vI p0, vI p1, vI p2, vI p3, vI p4, vI p5, vI (3 : Int32), vI v6, vI v6, vI v7, vI v8, vI v9, vI v10, vI v11, vI v12, vI v13, vR b148, vI j293_s0_179, vI (own_in3 j293_s0_179 v6 v7 v8 v9 v10 v11), .unset] [(.int v10)])) _
              refine XS.iload X192.here hx rfl (hb hby at_358) rfl ?_
              show Steps p.tables e below (T192.setTop (mkF m 360 #[vI p0, vI p1, vI p2, vI p3, vI p4, vI p5, vI (3 : Int32), vI v6, vI v6, vI v7, vI v8, vI v9, vI v10, vI v11, vI v12, vI v13, vR b148, vI j293_s0_179, vI (own_in3 j293_s0_179 v6 v7 v8 v9 v10 v11), .unset] [(.int j293_s0_179), (.int v10)])) _
              exact k)
            by_cases c360_219 : j293_s0_179 < v10
            · skip
              have pre220 : Go p.tables e below S0 T192 (mkF m 395 #[vI p0, vI p1, vI p2, vI p3, vI p4, vI p5, vI (3 : Int32), vI v6, vI v6, vI v7, vI v8, vI v9, vI v10, vI v11, vI v12, vI v13, vR b148, vI j293_s0_179, vI (own_in3 j293_s0_179 v6 v7 v8 v9 v10 v11), .unset] [(.int (0 : Int32))]) := fun t k => pre218 t (by
                refine XS.icmpYes X192.here hx rfl (pc0 := 360) (pc' := 370) rfl (hb hby at_360) rfl (tlt c360_219).2.2.1 (by decide) (by decide) ?_
                show Steps p.tables e below (T192.setTop (mkF m 370 #[vI p0, vI p1, vI p2, vI p3, vI p4, vI p5, vI (3 : Int32), vI v6, vI v6, vI v7, vI v8, vI v9, vI v10, vI v11, vI v12, vI v13, vR b148, vI j293_s0_179, vI (own_in3 j293_s0_179 v6 v7 v8 v9 v10 v11), .unset] [])) _
                refine XS.iload X192.here hx rfl (hb hby at_370) rfl ?_
                show Steps p.tables e below (T192.setTop (mkF m 372 #[vI p0, vI p1, vI p2, vI p3, vI p4, vI p5, vI (3 : Int32), vI v6, vI v6, vI v7, vI v8, vI v9, vI v10, vI v11, vI v12, vI v13, vR b148, vI j293_s0_179, vI (own_in3 j293_s0_179 v6 v7 v8 v9 v10 v11), .unset] [(.int (3 : Int32))])) _
                refine XS.iconst X192.here hx rfl (hb hby at_372) ?_
                show Steps p.tables e below (T192.setTop (mkF m 373 #[vI p0, vI p1, vI p2, vI p3, vI p4, vI p5, vI (3 : Int32), vI v6, vI v6, vI v7, vI v8, vI v9, vI v10, vI v11, vI v12, vI v13, vR b148, vI j293_s0_179, vI (own_in3 j293_s0_179 v6 v7 v8 v9 v10 v11), .unset] [(.int (3 : Int32)), (.int (3 : Int32))])) _
                refine XS.icmpYes X192.here hx rfl (pc0 := 373) (pc' := 394) rfl (hb hby at_373) rfl (flt (by decide : ¬ ((3 : Int32) < (3 : Int32)))).2.2.2 (by decide) (by decide) ?_
                show Steps p.tables e below (T192.setTop (mkF m 394 #[vI p0, vI p1, vI p2, vI p3, vI p4, vI p5, vI (3 : Int32), vI v6, vI v6, vI v7, vI v8, vI v9, vI v10, vI v11, vI v12, vI v13, vR b148, vI j293_s0_179, vI (own_in3 j293_s0_179 v6 v7 v8 v9 v10 v11), .unset] [])) _
                refine XS.iconst X192.here hx rfl (hb hby at_394) ?_
                show Steps p.tables e below (T192.setTop (mkF m 395 #[vI p0, vI p1, vI p2, vI p3, vI p4, vI p5, vI (3 : Int32), vI v6, vI v6, vI v7, vI v8, vI v9, vI v10, vI v11, vI v12, vI v13, vR b148, vI j293_s0_179, vI (own_in3 j293_s0_179 v6 v7 v8 v9 v10 v11), .unset] [(.int (0 : Int32))])) _
                exact k)
              exact tail239 ⟨(0 : Int32), (by simp [own_in3, c320_194, c327_215, c340_217, c360_219]), pre220⟩
            · skip
              have pre221 : Go p.tables e below S0 T192 (mkF m 367 #[vI p0, vI p1, vI p2, vI p3, vI p4, vI p5, vI (3 : Int32), vI v6, vI v6, vI v7, vI v8, vI v9, vI v10, vI v11, vI v12, vI v13, vR b148, vI j293_s0_179, vI (own_in3 j293_s0_179 v6 v7 v8 v9 v10 v11), .unset] [(.int v11), (.int j293_s0_179)]) := fun t k => pre218 t (by
                refine XS.icmpNo X192.here hx rfl (hb hby at_360) rfl (flt c360_219).2.2.1 ?_
                show Steps p.tables e below (T192.setTop (mkF m 363 #[vI p0, vI p1, vI p2, vI p3, vI p4, vI p5, vI (3 : Int32), vI v6, vI v6, vI v7, vI v8, vI v9, vI v10, vI v11, vI v12, vI v13, vR b148, vI j293_s0_179, vI (own_in3 j293_s0_179 v6 v7 v8 v9 v10 v11), .unset] [])) _
                refine XS.iload X192.here hx rfl (hb hby at_363) rfl ?_
                show Steps p.tables e below (T192.setTop (mkF m 365 #[vI p0, vI p1, vI p2, vI p3, vI p4, vI p5, vI (3 : Int32), vI v6, vI v6, vI v7, vI v8, vI v9, vI v10, vI v11, vI v12, vI v13, vR b148, vI j293_s0_179, vI (own_in3 j293_s0_179 v6 v7 v8 v9 v10 v11), .unset] [(.int j293_s0_179)])) _
                refine XS.iload X192.here hx rfl (hb hby at_365) rfl ?_
                show Steps p.tables e below (T192.setTop (mkF m 367 #[vI p0, vI p1, vI p2, vI p3, vI p4, vI p5, vI (3 : Int32), vI v6, vI v6, vI v7, vI v8, vI v9, vI v10, vI v11, vI v12, vI v13, vR b148, vI j293_s0_179, vI (own_in3 j293_s0_179 v6 v7 v8 v9 v10 v11), .unset] [(.int v11), (.int j293_s0_179)])) _
                exact k)
              by_cases c367_222 : v11 < j293_s0_179
              · skip
                have pre223 : Go p.tables e below S0 T192 (mkF m 395 #[vI p0, vI p1, vI p2, vI p3, vI p4, vI p5, vI (3 : Int32), vI v6, vI v6, vI v7, vI v8, vI v9, vI v10, vI v11, vI v12, vI v13, vR b148, vI j293_s0_179, vI (own_in3 j293_s0_179 v6 v7 v8 v9 v10 v11), .unset] [(.int (0 : Int32))]) := fun t k => pre221 t (by
                  refine XS.icmpNo X192.here hx rfl (hb hby at_367) rfl (tlt c367_222).2.2.2 ?_
                  show Steps p.tables e below (T192.setTop (mkF m 370 #[vI p0, vI p1, vI p2, vI p3, vI p4, vI p5, vI (3 : Int32), vI v6, vI v6, vI v7, vI v8, vI v9, vI v10, vI v11, vI v12, vI v13, vR b148, vI j293_s0_179, vI (own_in3 j293_s0_179 v6 v7 v8 v9 v10 v11), .unset] [])) _
                  refine XS.iload X192.here hx rfl (hb hby at_370) rfl ?_
                  show Steps p.tables e below (T192.setTop (mkF m 372 #[vI p0, vI p1, vI p2, vI p3, vI p4, vI p5, vI (3 : Int32), vI v6, vI v6, vI v7, vI v8, vI v9, vI v10, vI v11, vI v12, vI v13, vR b148, vI j293_s0_179, vI (own_in3 j293_s0_179 v6 v7 v8 v9 v10 v11), .unset] [(.int (3 : Int32))])) _
                  refine XS.iconst X192.here hx rfl (hb hby at_372) ?_
                  show Steps p.tables e below (T192.setTop (mkF m 373 #[vI p0, vI p1, vI p2, vI p3, vI p4, vI p5, vI (3 : Int32), vI v6, vI v6, vI v7, vI v8, vI v9, vI v10, vI v11, vI v12, vI v13, vR b148, vI j293_s0_179, vI (own_in3 j293_s0_179 v6 v7 v8 v9 v10 v11), .unset] [(.int (3 : Int32)), (.int (3 : Int32))])) _
                  refine XS.icmpYes X192.here hx rfl (pc0 := 373) (pc' := 394) rfl (hb hby at_373) rfl (flt (by decide : ¬ ((3 : Int32) < (3 : Int32)))).2.2.2 (by decide) (by decide) ?_
                  show Steps p.tables e below (T192.setTop (mkF m 394 #[vI p0, vI p1, vI p2, vI p3, vI p4, vI p5, vI (3 : Int32), vI v6, vI v6, vI v7, vI v8, vI v9, vI v10, vI v11, vI v12, vI v13, vR b148, vI j293_s0_179, vI (own_in3 j293_s0_179 v6 v7 v8 v9 v10 v11), .unset] [])) _
                  refine XS.iconst X192.here hx rfl (hb hby at_394) ?_
                  show Steps p.tables e below (T192.setTop (mkF m 395 #[vI p0, vI p1, vI p2, vI p3, vI p4, vI p5, vI (3 : Int32), vI v6, vI v6, vI v7, vI v8, vI v9, vI v10, vI v11, vI v12, vI v13, vR b148, vI j293_s0_179, vI (own_in3 j293_s0_179 v6 v7 v8 v9 v10 v11), .unset] [(.int (0 : Int32))])) _
                  exact k)
                exact tail239 ⟨(0 : Int32), (by simp [own_in3, c320_194, c327_215, c340_217, c360_219, c367_222]), pre223⟩
              · skip
                have pre224 : Go p.tables e below S0 T192 (mkF m 395 #[vI p0, vI p1, vI p2, vI p3, vI p4, vI p5, vI (3 : Int32), vI v6, vI v6, vI v7, vI v8, vI v9, vI v10, vI v11, vI v12, vI v13, vR b148, vI j293_s0_179, vI (own_in3 j293_s0_179 v6 v7 v8 v9 v10 v11), .unset] [(.int (1 : Int32))]) := fun t k => pre221 t (by
                  refine XS.icmpYes X192.here hx rfl (pc0 := 367) (pc' := 390) rfl (hb hby at_367) rfl (flt c367_222).2.2.2 (by decide) (by decide) ?_
                  show Steps p.tables e below (T192.setTop (mkF m 390 #[vI p0, vI p1, vI p2, vI p3, vI p4, vI p5, vI (3 : Int32), vI v6, vI v6, vI v7, vI v8, vI v9, vI v10, vI v11, vI v12, vI v13, vR b148, vI j293_s0_179, vI (own_in3 j293_s0_179 v6 v7 v8 v9 v10 v11), .unset] [])) _
                  refine XS.iconst X192.here hx rfl (hb hby at_390) ?_
                  show Steps p.tables e below (T192.setTop (mkF m 391 #[vI p0, vI p1, vI p2, vI p3, vI p4, vI p5, vI (3 : Int32), vI v6, vI v6, vI v7, vI v8, vI v9, vI v10, vI v11, vI v12, vI v13, vR b148, vI j293_s0_179, vI (own_in3 j293_s0_179 v6 v7 v8 v9 v10 v11), .unset] [(.int (1 : Int32))])) _
                  refine XS.goto X192.here hx rfl (pc0 := 391) (pc' := 395) rfl (hb hby at_391) (by decide) (by decide) ?_
                  show Steps p.tables e below (T192.setTop (mkF m 395 #[vI p0, vI p1, vI p2, vI p3, vI p4, vI p5, vI (3 : Int32), vI v6, vI v6, vI v7, vI v8, vI v9, vI v10, vI v11, vI v12, vI v13, vR b148, vI j293_s0_179, vI (own_in3 j293_s0_179 v6 v7 v8 v9 v10 v11), .unset] [(.int (1 : Int32))])) _
                  exact k)
                exact tail239 ⟨(1 : Int32), (by simp [own_in3, c320_194, c327_215, c340_217, c360_219, c367_222]), pre224⟩
          · skip
            have pre225 : Go p.tables e below S0 T192 (mkF m 347 #[vI p0, vI p1, vI p2, vI p3, vI p4, vI p5, vI (3 : Int32), vI v6, vI v6, vI v7, vI v8, vI v9, vI v10, vI v11, vI v12, vI v13, vR b148, vI j293_s0_179, vI (own_in3 j293_s0_179 v6 v7 v8 v9 v10 v11), .unset] [(.int v9), (.int j293_s0_179)]) := fun t k => pre216 t (by
              refine XS.icmpNo X192.here hx rfl (hb hby at_340) rfl (flt c340_217).2.2.1 ?_
              show Steps p.tables e below (T192.setTop (mkF m 343 #[vI p0, vI p1, vI p2, vI p3, vI p4, vI p5, vI (3 : Int32), vI v6, vI v6, vI v7, vI v8, vI v9, vI v10, vI v11, vI v12, vI v13, vR b148, vI j293_s0_179, vI (own_in3 j293_s0_179 v6 v7 v8 v9 v10 v11), .unset] [])) _
              refine XS.iload X192.here hx rfl (hb hby at_343) rfl ?_
              show Steps p.tables e below (T192.setTop (mkF m 345 #[vI p0, vI p1, vI p2, vI p3, vI p4, vI p5, vI (3 : Int32), vI v6, vI v6, vI v7, vI v8, vI v9, vI v10, vI v11, vI v12, vI v13, vR b148, vI j293_s0_179, vI (own_in3 j293_s0_179 v6 v7 v8 v9 v10 v11), .unset] [(.int j293_s0_179)])) _
              refine XS.iload X192.here hx rfl (hb hby at_345) rfl ?_
              show Steps p.tables e below (T192.setTop (mkF m 347 #[vI p0, vI p1, vI p2, vI p3, vI p4, vI p5, vI (3 : Int32), vI v6, vI v6, vI v7, vI v8, vI v9, vI v10, vI v11, vI v12, vI v13, vR b148, vI j293_s0_179, vI (own_in3 j293_s0_179 v6 v7 v8 v9 v10 v11), .unset] [(.int v9), (.int j293_s0_179)])) _
              exact k)
            by_cases c347_226 : v9 < j293_s0_179
            · skip
              have pre227 : Go p.tables e below S0 T192 (mkF m 360 #[vI p0, vI p1, vI p2, vI p3, vI p4, vI p5, vI (3 : Int32), vI v6, vI v6, vI v7, vI v8, vI v9, vI v10, vI v11, vI v12, vI v13, vR b148, vI j293_s0_179, vI (own_in3 j293_s0_179 v6 v7 v8 v9 v10 v11), .unset] [(.int j293_s0_179), (.int v10)]) := fun t k => pre225 t (by
                refine XS.icmpNo X192.here hx rfl (hb hby at_347) rfl (tlt c347_226).2.2.2 ?_
                show Steps p.tables e below (T192.setTop (mkF m 350 #[vI p0, vI p1, vI p2, vI p3, vI p4, vI p5, vI (3 : Int32), vI v6, vI v6, vI v7, vI v8, vI v9, vI v10, vI v11, vI v12, vI v13, vR b148, vI j293_s0_179, vI (own_in3 j293_s0_179 v6 v7 v8 v9 v10 v11), .unset] [])) _
                refine XS.iload X192.here hx rfl (hb hby at_350) rfl ?_
                show Steps p.tables e below (T192.setTop (mkF m 352 #[vI p0, vI p1, vI p2, vI p3, vI p4, vI p5, vI (3 : Int32), vI v6, vI v6, vI v7, vI v8, vI v9, vI v10, vI v11, vI v12, vI v13, vR b148, vI j293_s0_179, vI (own_in3 j293_s0_179 v6 v7 v8 v9 v10 v11), .unset] [(.int (3 : Int32))])) _
                refine XS.iconst X192.here hx rfl (hb hby at_352) ?_
                show Steps p.tables e below (T192.setTop (mkF m 353 #[vI p0, vI p1, vI p2, vI p3, vI p4, vI p5, vI (3 : Int32), vI v6, vI v6, vI v7, vI v8, vI v9, vI v10, vI v11, vI v12, vI v13, vR b148, vI j293_s0_179, vI (own_in3 j293_s0_179 v6 v7 v8 v9 v10 v11), .unset] [(.int (2 : Int32)), (.int (3 : Int32))])) _
                refine XS.icmpNo X192.here hx rfl (hb hby at_353) rfl (tlt (by decide : (2 : Int32) < (3 : Int32))).2.2.2 ?_
                show Steps p.tables e below (T192.setTop (mkF m 356 #[vI p0, vI p1, vI p2, vI p3, vI p4, vI p5, vI (3 : Int32), vI v6, vI v6, vI v7, vI v8, vI v9, vI v10, vI v11, vI v12, vI v13, vR b148, vI j293_s0_179, vI (own_in3 j293_s0_179 v6 v7 v8 v9 v10 v11), .unset] [])) _
                refine XS.iload X192.here hx rfl (hb hby at_356) rfl ?_
                show Steps p.tables e below (T192.setTop (mkF m 358 #[vI p0, vI p1, vI p2, vI p3, vI p4, vI p5, vI (3 : Int32), vI v6, vI v6, vI v7, vI v8, vI v9, vI v10, vI v11, vI v12, vI v13, vR b148, vI j293_s0_179, vI (own_in3 j293_s0_179 v6 v7 v8 v9 v10 v11), .unset] [(.int v10)])) _
                refine XS.iload X192.here hx rfl (hb hby at_358) rfl ?_
                show Steps p.tables e below (T192.setTop (mkF m 360 #[vI p0, vI p1, vI p2, vI p3, vI p4, vI p5, vI (3 : Int32), vI v6, vI v6, vI v7, vI v8, vI v9, vI v10, vI v11, vI v12, vI v13, vR b148, vI j293_s0_179, vI (own_in3 j293_s0_179 v6 v7 v8 v9 v10 v11), .unset] [(.int j293_s0_179), (.int v10)])) _
                exact k)
              by_cases c360_228 : j293_s0_179 < v10
              · skip
                have pre229 : Go p.tables e below S0 T192 (mkF m 395 #[vI p0, vI p1, vI p2, vI p3, vI p4, vI p5, vI (3 : Int32), vI v6, vI v6, vI v7, vI v8, vI v9, vI v10, vI v11, vI v12, vI v13, vR b148, vI j293_s0_179, vI (own_in3 j293_s0_179 v6 v7 v8 v9 v10 v11), .unset] [(.int (0 : Int32))]) := fun t k => pre227 t (by
                  refine XS.icmpYes X192.here hx rfl (pc0 := 360) (pc' := 370) rfl (hb hby at_360) rfl (tlt c360_228).2.2.1 (by decide) (by decide) ?_
                  show Steps p.tables e below (T192.setTop (mkF m 370 #[vI p0, vI p1, vI p2, vI p3, vI p4, vI p5, vI (3 : Int32), vI v6, vI v6, vI v7, vI v8, vI v9, vI v10, vI v11, vI v12, vI v13, vR b148, vI j293_s0_179, vI (own_in3 j293_s0_179 v6 v7 v8 v9 v10 v11), .unset] [])) _
                  refine XS.iload X192.here hx rfl (hb hby at_370) rfl ?_
                  show Steps p.tables e below (T192.setTop (mkF m 372 #[vI p0, vI p1, vI p2, vI p3, vI p4, vI p5, vI (3 : Int32), vI v6, vI v6, vI v7, vI v8, vI v9, vI v10, vI v11, vI v12, vI v13, vR b148, vI j293_s0_179, vI (own_in3 j293_s0_179 v6 v7 v8 v9 v10 v11), .unset] [(.int (3 : Int32))])) _
                  refine XS.iconst X192.here hx rfl (hb hby at_372) ?_
                  show Steps p.tables e below (T192.setTop (mkF m 373 #[vI p0, vI p1, vI p2, vI p3, vI p4, vI p5, vI (3 : Int32), vI v6, vI v6, vI v7, vI v8, vI v9, vI v10, vI v11, vI v12, vI v13, vR b148, vI j293_s0_179, vI (own_in3 j293_s0_179 v6 v7 v8 v9 v10 v11), .unset] [(.int (3 : Int32)), (.int (3 : Int32))])) _
                  refine XS.icmpYes X192.here hx rfl (pc0 := 373) (pc' := 394) rfl (hb hby at_373) rfl (flt (by decide : ¬ ((3 : Int32) < (3 : Int32)))).2.2.2 (by decide) (by decide) ?_
                  show Steps p.tables e below (T192.setTop (mkF m 394 #[vI p0, vI p1, vI p2, vI p3, vI p4, vI p5, vI (3 : Int32), vI v6, vI v6, vI v7, vI v8, vI v9, vI v10, vI v11, vI v12, vI v13, vR b148, vI j293_s0_179, vI (own_in3 j293_s0_179 v6 v7 v8 v9 v10 v11), .unset] [])) _
                  refine XS.iconst X192.here hx rfl (hb hby at_394) ?_
                  show Steps p.tables e below (T192.setTop (mkF m 395 #[vI p0, vI p1, vI p2, vI p3, vI p4, vI p5, vI (3 : Int32), vI v6, vI v6, vI v7, vI v8, vI v9, vI v10, vI v11, vI v12, vI v13, vR b148, vI j293_s0_179, vI (own_in3 j293_s0_179 v6 v7 v8 v9 v10 v11), .unset] [(.int (0 : Int32))])) _
                  exact k)
                exact tail239 ⟨(0 : Int32), (by simp [own_in3, c320_194, c327_215, c340_217, c347_226, c360_228]), pre229⟩
              · skip
                have pre230 : Go p.tables e below S0 T192 (mkF m 367 #[vI p0, vI p1, vI p2, vI p3, vI p4, vI p5, vI (3 : Int32), vI v6, vI v6, vI v7, vI v8, vI v9, vI v10, vI v11, vI v12, vI v13, vR b148, vI j293_s0_179, vI (own_in3 j293_s0_179 v6 v7 v8 v9 v10 v11), .unset] [(.int v11), (.int j293_s0_179)]) := fun t k => pre227 t (by
                  refine XS.icmpNo X192.here hx rfl (hb hby at_360) rfl (flt c360_228).2.2.1 ?_
                  show Steps p.tables e below (T192.setTop (mkF m 363 #[vI p0, vI p1, vI p2, vI p3, vI p4, vI p5, vI (3 : Int32), vI v6, vI v6, vI v7, vI v8, vI v9, vI v10, vI v11, vI v12, vI v13, vR b148, vI j293_s0_179, vI (own_in3 j293_s0_179 v6 v7 v8 v9 v10 v11), .unset] [])) _
                  refine XS.iload X192.here hx rfl (hb hby at_363) rfl ?_
                  show Steps p.tables e below (T192.setTop (mkF m 365 #[vI p0, vI p1, vI p2, vI p3, vI p4, vI p5, vI (3 : Int32), vI v6, vI v6, vI v7, vI v8, vI v9, vI v10, vI v11, vI v12, vI v13, vR b148, vI j293_s0_179, vI (own_in3 j293_s0_179 v6 v7 v8 v9 v10 v11), .unset] [(.int j293_s0_179)])) _
                  refine XS.iload X192.here hx rfl (hb hby at_365) rfl ?_
                  show Steps p.tables e below (T192.setTop (mkF m 367 #[vI p0, vI p1, vI p2, vI p3, vI p4, vI p5, vI (3 : Int32), vI v6, vI v6, vI v7, vI v8, vI v9, vI v10, vI v11, vI v12, vI v13, vR b148, vI j293_s0_179, vI (own_in3 j293_s0_179 v6 v7 v8 v9 v10 v11), .unset] [(.int v11), (.int j293_s0_179)])) _
                  exact k)
                by_cases c367_231 : v11 < j293_s0_179
                · skip
                  have pre232 : Go p.tables e below S0 T192 (mkF m 395 #[vI p0, vI p1, vI p2, vI p3, vI p4, vI p5, vI (3 : Int32), vI v6, vI v6, vI v7, vI v8, vI v9, vI v10, vI v11, vI v12, vI v13, vR b148, vI j293_s0_179, vI (own_in3 j293_s0_179 v6 v7 v8 v9 v10 v11), .unset] [(.int (0 : Int32))]) := fun t k => pre230 t (by
                    refine XS.icmpNo X192.here hx rfl (hb hby at_367) rfl (tlt c367_231).2.2.2 ?_
                    show Steps p.tables e below (T192.setTop (mkF m 370 #[vI p0, vI p1, vI p2, vI p3, vI p4, vI p5, vI (3 : Int32), vI v6, vI v6, vI v7, vI v8, vI v9, vI v10, vI v11, vI v12, vI v13, vR b148, vI j293_s0_179, vI (own_in3 j293_s0_179 v6 v7 v8 v9 v10 v11), .unset] [])) _
                    refine XS.iload X192.here hx rfl (hb hby at_370) rfl ?_
                    show Steps p.tables e below (T192.setTop (mkF m 372 #[vI p0, vI p1, vI p2, vI p3, vI p4, vI p5, vI (3 : Int32), vI v6, vI v6, vI v7, vI v8, vI v9, vI v10, vI v11, vI v12, vI v13, vR b148, vI j293_s0_179, vI (own_in3 j293_s0_179 v6 v7 v8 v9 v10 v11), .unset] [(.int (3 : Int32))])) _
                    refine XS.iconst X192.here hx rfl (hb hby at_372) ?_
                    show Steps p.tables e below (T192.setTop (mkF m 373 #[vI p0, vI p1, vI p2, vI p3, vI p4, vI p5, vI (3 : Int32), vI v6, vI v6, vI v7, vI v8, vI v9, vI v10, vI v11, vI v12, vI v13, vR b148, vI j293_s0_179, vI (own_in3 j293_s0_179 v6 v7 v8 v9 v10 v11), .unset] [(.int (3 : Int32)), (.int (3 : Int32))])) _
                    refine XS.icmpYes X192.here hx rfl (pc0 := 373) (pc' := 394) rfl (hb hby at_373) rfl (flt (by decide : ¬ ((3 : Int32) < (3 : Int32)))).2.2.2 (by decide) (by decide) ?_
                    show Steps p.tables e below (T192.setTop (mkF m 394 #[vI p0, vI p1, vI p2, vI p3, vI p4, vI p5, vI (3 : Int32), vI v6, vI v6, vI v7, vI v8, vI v9, vI v10, vI v11, vI v12, vI v13, vR b148, vI j293_s0_179, vI (own_in3 j293_s0_179 v6 v7 v8 v9 v10 v11), .unset] [])) _
                    refine XS.iconst X192.here hx rfl (hb hby at_394) ?_
                    show Steps p.tables e below (T192.setTop (mkF m 395 #[vI p0, vI p1, vI p2, vI p3, vI p4, vI p5, vI (3 : Int32), vI v6, vI v6, vI v7, vI v8, vI v9, vI v10, vI v11, vI v12, vI v13, vR b148, vI j293_s0_179, vI (own_in3 j293_s0_179 v6 v7 v8 v9 v10 v11), .unset] [(.int (0 : Int32))])) _
                    exact k)
                  exact tail239 ⟨(0 : Int32), (by simp [own_in3, c320_194, c327_215, c340_217, c347_226, c360_228, c367_231]), pre232⟩
                · skip
                  have pre233 : Go p.tables e below S0 T192 (mkF m 395 #[vI p0, vI p1, vI p2, vI p3, vI p4, vI p5, vI (3 : Int32), vI v6, vI v6, vI v7, vI v8, vI v9, vI v10, vI v11, vI v12, vI v13, vR b148, vI j293_s0_179, vI (own_in3 j293_s0_179 v6 v7 v8 v9 v10 v11), .unset] [(.int (1 : Int32))]) := fun t k => pre230 t (by
                    refine XS.icmpYes X192.here hx rfl (pc0 := 367) (pc' := 390) rfl (hb hby at_367) rfl (flt c367_231).2.2.2 (by decide) (by decide) ?_
                    show Steps p.tables e below (T192.setTop (mkF m 390 #[vI p0, vI p1, vI p2, vI p3, vI p4, vI p5, vI (3 : Int32), vI v6, vI v6, vI v7, vI v8, vI v9, vI v10, vI v11, vI v12, vI v13, vR b148, vI j293_s0_179, vI (own_in3 j293_s0_179 v6 v7 v8 v9 v10 v11), .unset] [])) _
                    refine XS.iconst X192.here hx rfl (hb hby at_390) ?_
                    show Steps p.tables e below (T192.setTop (mkF m 391 #[vI p0, vI p1, vI p2, vI p3, vI p4, vI p5, vI (3 : Int32), vI v6, vI v6, vI v7, vI v8, vI v9, vI v10, vI v11, vI v12, vI v13, vR b148, vI j293_s0_179, vI (own_in3 j293_s0_179 v6 v7 v8 v9 v10 v11), .unset] [(.int (1 : Int32))])) _
                    refine XS.goto X192.here hx rfl (pc0 := 391) (pc' := 395) rfl (hb hby at_391) (by decide) (by decide) ?_
                    show Steps p.tables e below (T192.setTop (mkF m 395 #[vI p0, vI p1, vI p2, vI p3, vI p4, vI p5, vI (3 : Int32), vI v6, vI v6, vI v7, vI v8, vI v9, vI v10, vI v11, vI v12, vI v13, vR b148, vI j293_s0_179, vI (own_in3 j293_s0_179 v6 v7 v8 v9 v10 v11), .unset] [(.int (1 : Int32))])) _
                    exact k)
                  exact tail239 ⟨(1 : Int32), (by simp [own_in3, c320_194, c327_215, c340_217, c347_226, c360_228, c367_231]), pre233⟩
            · skip
              have pre234 : Go p.tables e below S0 T192 (mkF m 395 #[vI p0, vI p1, vI p2, vI p3, vI p4, vI p5, vI (3 : Int32), vI v6, vI v6, vI v7, vI v8, vI v9, vI v10, vI v11, vI v12, vI v13, vR b148, vI j293_s0_179, vI (own_in3 j293_s0_179 v6 v7 v8 v9 v10 v11), .unset] [(.int (1 : Int32))]) := fun t k => pre225 t (by
                refine XS.icmpYes X192.here hx rfl (pc0 := 347) (pc' := 390) rfl (hb hby at_347) rfl (flt c347_226).2.2.2 (by decide) (by decide) ?_
                show Steps p.tables e below (T192.setTop (mkF m 390 #[vI p0, vI p1, vI p2, vI p3, vI p4, vI p5, vI (3 : Int32), vI v6, vI v6, vI v7, vI v8, vI v9, vI v10, vI v11, vI v12, vI v13, vR b148, vI j293_s0_179, vI (own_in3 j293_s0_179 v6 v7 v8 v9 v10 v11), .unset] [])) _
                refine XS.iconst X192.here hx rfl (hb hby at_390) ?_
                show Steps p.tables e below (T192.setTop (mkF m 391 #[vI p0, vI p1, vI p2, vI p3, vI p4, vI p5, vI (3 : Int32), vI v6, vI v6, vI v7, vI v8, vI v9, vI v10, vI v11, vI v12, vI v13, vR b148, vI j293_s0_179, vI (own_in3 j293_s0_179 v6 v7 v8 v9 v10 v11), .unset] [(.int (1 : Int32))])) _
                refine XS.goto X192.here hx rfl (pc0 := 391) (pc' := 395) rfl (hb hby at_391) (by decide) (by decide) ?_
                show Steps p.tables e below (T192.setTop (mkF m 395 #[vI p0, vI p1, vI p2, vI p3, vI p4, vI p5, vI (3 : Int32), vI v6, vI v6, vI v7, vI v8, vI v9, vI v10, vI v11, vI v12, vI v13, vR b148, vI j293_s0_179, vI (own_in3 j293_s0_179 v6 v7 v8 v9 v10 v11), .unset] [(.int (1 : Int32))])) _
                exact k)
              exact tail239 ⟨(1 : Int32), (by simp [own_in3, c320_194, c327_215, c340_217, c347_226]), pre234⟩
        · skip
          have pre235 : Go p.tables e below S0 T192 (mkF m 395 #[vI p0, vI p1, vI p2, vI p3, vI p4, vI p5, vI (3 : Int32), vI v6, vI v6, vI v7, vI v8, vI v9, vI v10, vI v11, vI v12, vI v13, vR b148, vI j293_s0_179, vI (own_in3 j293_s0_179 v6 v7 v8 v9 v10 v11), .unset] [(.int (1 : Int32))]) := fun t k => pre214 t (by
            refine XS.icmpYes X192.here hx rfl (pc0 := 327) (pc' := 390) rfl (hb hby at_327) rfl (flt c327_215).2.2.2 (by decide) (by decide) ?_
            show Steps p.tables e below (T192.setTop (mkF m 390 #[vI p0, vI p1, vI p2, vI p3, vI p4, vI p5, vI (3 : Int32), vI v6, vI v6, vI v7, vI v8, vI v9, vI v10, vI v11, vI v12, vI v13, vR b148, vI j293_s0_179, vI (own_in3 j293_s0_179 v6 v7 v8 v9 v10 v11), .unset] [])) _
            refine XS.iconst X192.here hx rfl (hb hby at_390) ?_
            show Steps p.tables e below (T192.setTop (mkF m 391 #[vI p0, vI p1, vI p2, vI p3, vI p4, vI p5, vI (3 : Int32), vI v6, vI v6, vI v7, vI v8, vI v9, vI v10, vI v11, vI v12, vI v13, vR b148, vI j293_s0_179, vI (own_in3 j293_s0_179 v6 v7 v8 v9 v10 v11), .unset] [(.int (1 : Int32))])) _
            refine XS.goto X192.here hx rfl (pc0 := 391) (pc' := 395) rfl (hb hby at_391) (by decide) (by decide) ?_
            show Steps p.tables e below (T192.setTop (mkF m 395 #[vI p0, vI p1, vI p2, vI p3, vI p4, vI p5, vI (3 : Int32), vI v6, vI v6, vI v7, vI v8, vI v9, vI v10, vI v11, vI v12, vI v13, vR b148, vI j293_s0_179, vI (own_in3 j293_s0_179 v6 v7 v8 v9 v10 v11), .unset] [(.int (1 : Int32))])) _
            exact k)
          exact tail239 ⟨(1 : Int32), (by simp [own_in3, c320_194, c327_215]), pre235⟩
    rintro ⟨j395_s0_236, hj395_237, pre238⟩
    have key := hj395_237.symm
    have pre240 : Go p.tables e below S0 T192 (mkF m 401 #[vI p0, vI p1, vI p2, vI p3, vI p4, vI p5, vI (3 : Int32), vI v6, vI v6, vI v7, vI v8, vI v9, vI v10, vI v11, vI v12, vI v13, vR b148, vI j293_s0_179, vI (own_in3 j293_s0_179 v6 v7 v8 v9 v10 v11), vI j395_s0_236] [(.int j395_s0_236), (.int (own_in3 j293_s0_179 v6 v7 v8 v9 v10 v11))]) := fun t k => pre238 t (by
      refine XS.istore X192.here hx rfl (hb hby at_395) rfl (l' := #[vI p0, vI p1, vI p2, vI p3, vI p4, vI p5, vI (3 : Int32), vI v6, vI v6, vI v7, vI v8, vI v9, vI v10, vI v11, vI v12, vI v13, vR b148, vI j293_s0_179, vI (own_in3 j293_s0_179 v6 v7 v8 v9 v10 v11), vI j395_s0_236]) rfl ?_
      show Steps p.tables e below (T192.setTop (mkF m 397 #[vI p0, vI p1, vI p2, vI p3, vI p4, vI p5, vI (3 : Int32), vI v6, vI v6, vI v7, vI v8, vI v9, vI v10, vI v11, vI v12, vI v13, vR b148, vI j293_s0_179, vI (own_in3 j293_s0_179 v6 v7 v8 v9 v10 v11), vI j395_s0_236] [])) _
      refine XS.iload X192.here hx rfl (hb hby at_397) rfl ?_
      show Steps p.tables e below (T192.setTop (mkF m 399 #[vI p0, vI p1, vI p2, vI p3, vI p4, vI p5, vI (3 : Int32), vI v6, vI v6, vI v7, vI v8, vI v9, vI v10, vI v11, vI v12, vI v13, vR b148, vI j293_s0_179, vI (own_in3 j293_s0_179 v6 v7 v8 v9 v10 v11), vI j395_s0_236] [(.int (own_in3 j293_s0_179 v6 v7 v8 v9 v10 v11))])) _
      refine XS.iload X192.here hx rfl (hb hby at_399) rfl ?_
      show Steps p.tables e below (T192.setTop (mkF m 401 #[vI p0, vI p1, vI p2, vI p3, vI p4, vI p5, vI (3 : Int32), vI v6, vI v6, vI v7, vI v8, vI v9, vI v10, vI v11, vI v12, vI v13, vR b148, vI j293_s0_179, vI (own_in3 j293_s0_179 v6 v7 v8 v9 v10 v11), vI j395_s0_236] [(.int j395_s0_236), (.int (own_in3 j293_s0_179 v6 v7 v8 v9 v10 v11))])) _
      exact k)
    have cc241 : (own_in3 j293_s0_179 v6 v7 v8 v9 v10 v11) = j395_s0_236 := key
    have pre242 : Go p.tables e below S0 T192 (mkF m 409 #[vI p0, vI p1, vI p2, vI p3, vI p4, vI p5, vI (3 : Int32), vI v6, vI v6, vI v7, vI v8, vI v9, vI v10, vI v11, vI v12, vI v13, vR b148, vI j293_s0_179, vI (own_in3 j293_s0_179 v6 v7 v8 v9 v10 v11), vI j395_s0_236] [(.int (1 : Int32))]) := fun t k => pre240 t (by
      refine XS.icmpNo X192.here hx rfl (hb hby at_401) rfl (teq cc241).2 ?_
      show Steps p.tables e below (T192.setTop (mkF m 404 #[vI p0, vI p1, vI p2, vI p3, vI p4, vI p5, vI (3 : Int32), vI v6, vI v6, vI v7, vI v8, vI v9, vI v10, vI v11, vI v12, vI v13, vR b148, vI j293_s0_179, vI (own_in3 j293_s0_179 v6 v7 v8 v9 v10 v11), vI j395_s0_236] [])) _
      refine XS.iconst X192.here hx rfl (hb hby at_404) ?_
      show Steps p.tables e below (T192.setTop (mkF m 405 #[vI p0, vI p1, vI p2, vI p3, vI p4, vI p5, vI (3 : Int32), vI v6, vI v6, vI v7, vI v8, vI v9, vI v10, vI v11, vI v12, vI v13, vR b148, vI j293_s0_179, vI (own_in3 j293_s0_179 v6 v7 v8 v9 v10 v11), vI j395_s0_236] [(.int (1 : Int32))])) _
      refine XS.goto X192.here hx rfl (pc0 := 405) (pc' := 409) rfl (hb hby at_405) (by decide) (by decide) ?_
      show Steps p.tables e below (T192.setTop (mkF m 409 #[vI p0, vI p1, vI p2, vI p3, vI p4, vI p5, vI (3 : Int32), vI v6, vI v6, vI v7, vI v8, vI v9, vI v10, vI v11, vI v12, vI v13, vR b148, vI j293_s0_179, vI (own_in3 j293_s0_179 v6 v7 v8 v9 v10 v11), vI j395_s0_236] [(.int (1 : Int32))])) _
      exact k)
    obtain ⟨fs, hr, hrun, hended, hW, hsame⟩ := X192.leave (v := some (.int (1 : Int32))) (fun h => by rw [Bd.returns] at h; cases h)
    exact ⟨_, _, pre242.fin hS0 (retN X192 hx (t := .boolean) Bd.returns (by simp) (hb hby at_409) hr), hrun, hended, _, _, rfl, (by
      show Q0 Z p0 p1 p2 p3 p4 p5 h0 n0 _ T192.heap _
      rw [eq192]
      exact ⟨rfl, N192⟩), ⟨_, rfl⟩, hW, hsame.mono (by decide) (by decide)⟩
  · skip
    have pre243 : Go p.tables e below S0 T5 (mkF m 225 #[vI p0, vI p1, vI p2, vI p3, vI p4, vI p5, vI (4 : Int32), vI v6, vI v6, vI v7, vI v8, vI v9, vI v10, vI v11, vI v12, vI v13, .unset, .unset, .unset, .unset] [(.int (8 : Int32))]) := fun t k => pre13 t (by
      refine XS.iload X5.here hx rfl (hb hby at_107) rfl ?_
      show Steps p.tables e below (T5.setTop (mkF m 109 #[vI p0, vI p1, vI p2, vI p3, vI p4, vI p5, vI (4 : Int32), vI v6, vI v6, vI v7, vI v8, vI v9, vI v10, vI v11, vI v12, vI v13, .unset, .unset, .unset, .unset] [(.int (4 : Int32))])) _
      refine XS.ifYes X5.here hx rfl (pc0 := 109) (pc' := 120) rfl (hb hby at_109) rfl ((if0 _ _).trans (feq (by decide : ¬ ((4 : Int32) = (0 : Int32)))).2) (by decide) (by decide) ?_
      show Steps p.tables e below (T5.setTop (mkF m 120 #[vI p0, vI p1, vI p2, vI p3, vI p4, vI p5, vI (4 : Int32), vI v6, vI v6, vI v7, vI v8, vI v9, vI v10, vI v11, vI v12, vI v13, .unset, .unset, .unset, .unset] [])) _
      refine XS.iload X5.here hx rfl (hb hby at_120) rfl ?_
      show Steps p.tables e below (T5.setTop (mkF m 122 #[vI p0, vI p1, vI p2, vI p3, vI p4, vI p5, vI (4 : Int32), vI v6, vI v6, vI v7, vI v8, vI v9, vI v10, vI v11, vI v12, vI v13, .unset, .unset, .unset, .unset] [(.int (4 : Int32))])) _
      refine XS.iconst X5.here hx rfl (hb hby at_122) ?_
      show Steps p.tables e below (T5.setTop (mkF m 123 #[vI p0, vI p1, vI p2, vI p3, vI p4, vI p5, vI (4 : Int32), vI v6, vI v6, vI v7, vI v8, vI v9, vI v10, vI v11, vI v12, vI v13, .unset, .unset, .unset, .unset] [(.int (1 : Int32)), (.int (4 : Int32))])) _
      refine XS.icmpYes X5.here hx rfl (pc0 := 123) (pc' := 144) rfl (hb hby at_123) rfl (feq (by decide : ¬ ((4 : Int32) = (1 : Int32)))).2 (by decide) (by decide) ?_
      show Steps p.tables e below (T5.setTop (mkF m 144 #[vI p0, vI p1, vI p2, vI p3, vI p4, vI p5, vI (4 : Int32), vI v6, vI v6, vI v7, vI v8, vI v9, vI v10, vI v11, vI v12, vI v13, .unset, .unset, .unset, .unset] [])) _
      refine XS.iload X5.here hx rfl (hb hby at_144) rfl ?_
      show Steps p.tables e below (T5.setTop (mkF m 146 #[vI p0, vI p1, vI p2, vI p3, vI p4, vI p5, vI (4 : Int32), vI v6, vI v6, vI v7, vI v8, vI v9, vI v10, vI v11, vI v12, vI v13, .unset, .unset, .unset, .unset] [(.int (4 : Int32))])) _
      refine XS.iconst X5.here hx rfl (hb hby at_146) ?_
      show Steps p.tables e below (T5.setTop (mkF m 147 #[vI p0, vI p1, vI p2, vI p3, vI p4, vI p5, vI (4 : Int32), vI v6, vI v6, vI v7, vI v8, vI v9, vI v10, vI v11, vI v12, vI v13, .unset, .unset, .unset, .unset] [(.int (2 : Int32)), (.int (4 : Int32))])) _
      refine XS.icmpYes X5.here hx rfl (pc0 := 147) (pc' := 178) rfl (hb hby at_147) rfl (feq (by decide : ¬ ((4 : Int32) = (2 : Int32)))).2 (by decide) (by decide) ?_
      show Steps p.tables e below (T5.setTop (mkF m 178 #[vI p0, vI p1, vI p2, vI p3, vI p4, vI p5, vI (4 : Int32), vI v6, vI v6, vI v7, vI v8, vI v9, vI v10, vI v11, vI v12, vI v13, .unset, .unset, .unset, .unset] [])) _
      refine XS.iload X5.here hx rfl (hb hby at_178) rfl ?_
      show Steps p.tables e below (T5.setTop (mkF m 180 #[vI p0, vI p1, vI p2, vI p3, vI p4, vI p5, vI (4 : Int32), vI v6, vI v6, vI v7, vI v8, vI v9, vI v10, vI v11, vI v12, vI v13, .unset, .unset, .unset, .unset] [(.int (4 : Int32))])) _
      refine XS.iconst X5.here hx rfl (hb hby at_180) ?_
      show Steps p.tables e below (T5.setTop (mkF m 181 #[vI p0, vI p1, vI p2, vI p3, vI p4, vI p5, vI (4 : Int32), vI v6, vI v6, vI v7, vI v8, vI v9, vI v10, vI v11, vI v12, vI v13, .unset, .unset, .unset, .unset] [(.int (3 : Int32)), (.int (4 : Int32))])) _
      refine XS.icmpYes X5.here hx rfl (pc0 := 181) (pc' := 223) rfl (hb hby at_181) rfl (feq (by decide : ¬ ((4 : Int32) = (3 : Int32)))).2 (by decide) (by decide) ?_
      show Steps p.tables e below (T5.setTop (mkF m 223 #[vI p0, vI p1, vI p2, vI p3, vI p4, vI p5, vI (4 : Int32), vI v6, vI v6, vI v7, vI v8, vI v9, vI v10, vI v11, vI v12, vI v13, .unset, .unset, .unset, .unset] [])) _
      refine XS.bipush X5.here hx rfl (hb hby at_223) ?_
      show Steps p.tables e below (T5.setTop (mkF m 225 #[vI p0, vI p1, vI p2, vI p3, vI p4, vI p5, vI (4 : Int32), vI v6, vI v6, vI v7, vI v8, vI v9, vI v10, vI v11, vI v12, vI v13, .unset, .unset, .unset, .unset] [(.int (8 : Int32))])) _
      exact k)
    obtain ⟨T244, h244, kA244, X244, e244, E244, A244, st244⟩ := newP X5 hx hZ (hw _ (List.mem_of_getElem? (i := 9) rfl)) eq5 (g := (mkF m 225 #[vI p0, vI p1, vI p2, vI p3, vI p4, vI p5, vI (4 : Int32), vI v6, vI v6, vI v7, vI v8, vI v9, vI v10, vI v11, vI v12, vI v13, .unset, .unset, .unset, .unset] [(.int (8 : Int32))])) rfl (hb hby at_225) rfl (by decide) (cap := 8) (by decide) (by decide) (by decide) (by decide)
    obtain ⟨b244, g244⟩ : ∃ z, z = h0.size := ⟨_, rfl⟩
    rw [← g244] at A244 st244
    have pre244 : Go p.tables e below S0 T244 (mkF m 227 #[vI p0, vI p1, vI p2, vI p3, vI p4, vI p5, vI (4 : Int32), vI v6, vI v6, vI v7, vI v8, vI v9, vI v10, vI v11, vI v12, vI v13, .unset, .unset, .unset, .unset] [(.ref b244)]) := fun t k => pre243 t (st244 t k)
    have bo244 : n0 ≤ b244 := Nat.le_trans Z0 (Nat.le_of_eq g244.symm)
    have zz246 : n0 ≤ h244.size := Nat.le_trans Z0 E244.1
    have av244 : Arv Z h244 b244 kA244 .int (8 : Int32) [(.int (0 : Int32)), (.int (0 : Int32)), (.int (0 : Int32)), (.int (0 : Int32)), (.int (0 : Int32)), (.int (0 : Int32)), (.int (0 : Int32)), (.int (0 : Int32))] (.int (0 : Int32)) := (Arv.new A244 (by decide)).pad (pad_rep [] (.int (0 : Int32)) 8)
    have pre247 : Go p.tables e below S0 T244 (mkF m 231 #[vI p0, vI p1, vI p2, vI p3, vI p4, vI p5, vI (4 : Int32), vI v6, vI v6, vI v7, vI v8, vI v9, vI v10, vI v11, vI v12, vI v13, .unset, .unset, .unset, .unset] [(.int v6), (.int (0 : Int32)), (.ref b244), (.ref b244)]) := fun t k => pre244 t (by
      refine XS.dup X244.here hx rfl (hb hby at_227) rfl rfl ?_
      show Steps p.tables e below (T244.setTop (mkF m 228 #[vI p0, vI p1, vI p2, vI p3, vI p4, vI p5, vI (4 : Int32), vI v6, vI v6, vI v7, vI v8, vI v9, vI v10, vI v11, vI v12, vI v13, .unset, .unset, .unset, .unset] [(.ref b244), (.ref b244)])) _
      refine XS.iconst X244.here hx rfl (hb hby at_228) ?_
      show Steps p.tables e below (T244.setTop (mkF m 229 #[vI p0, vI p1, vI p2, vI p3, vI p4, vI p5, vI (4 : Int32), vI v6, vI v6, vI v7, vI v8, vI v9, vI v10, vI v11, vI v12, vI v13, .unset, .unset, .unset, .unset] [(.int (0 : Int32)), (.ref b244), (.ref b244)])) _
      refine XS.iload X244.here hx rfl (hb hby at_229) rfl ?_
      show Steps p.tables e below (T244.setTop (mkF m 231 #[vI p0, vI p1, vI p2, vI p3, vI p4, vI p5, vI (4 : Int32), vI v6, vI v6, vI v7, vI v8, vI v9, vI v10, vI v11, vI v12, vI v13, .unset, .unset, .unset, .unset] [(.int v6), (.int (0 : Int32)), (.ref b244), (.ref b244)])) _
      exact k)
    obtain ⟨cl248, Ar248, q248, S248, M248, H248, G248⟩ := id av244
    have in248 : ¬ ((0 : Int32) < 0 ∨ cl248.slots.size ≤ ((0 : Int32)).toNatClampNeg) := inb_of S248 ⟨by decide, by decide⟩
    obtain ⟨T248, h248, X248, e248, W248, st248⟩ := stI X244 hx hZ e244 Ar248 (j := (0 : Int32)) in248 (g := (mkF m 231 #[vI p0, vI p1, vI p2, vI p3, vI p4, vI p5, vI (4 : Int32), vI v6, vI v6, vI v7, vI v8, vI v9, vI v10, vI v11, vI v12, vI v13, .unset, .unset, .unset, .unset] [(.int v6), (.int (0 : Int32)), (.ref b244), (.ref b244)])) rfl rfl (hb hby at_231)
    have pre248 : Go p.tables e below S0 T248 (mkF m 232 #[vI p0, vI p1, vI p2, vI p3, vI p4, vI p5, vI (4 : Int32), vI v6, vI v6, vI v7, vI v8, vI v9, vI v10, vI v11, vI v12, vI v13, .unset, .unset, .unset, .unset] [(.ref b244)]) := fun t k => pre247 t (st248 t k)
    have N248 := Fr.snoc X248 N5 bo244
    have av248 : Arv Z h248 b244 kA244 .int (8 : Int32) [(.int v6), (.int (0 : Int32)), (.int (0 : Int32)), (.int (0 : Int32)), (.int (0 : Int32)), (.int (0 : Int32)), (.int (0 : Int32)), (.int (0 : Int32))] (.int (0 : Int32)) := Arv.set Ar248 q248 S248 M248 H248 G248 rfl W248 0 rfl (Nat.le_of_ble_eq_true rfl)
    have zz250 : n0 ≤ h248.size := Nat.le_trans zz246 (Keep.of_wr W248).1
    have pre251 : Go p.tables e below S0 T248 (mkF m 236 #[vI p0, vI p1, vI p2, vI p3, vI p4, vI p5, vI (4 : Int32), vI v6, vI v6, vI v7, vI v8, vI v9, vI v10, vI v11, vI v12, vI v13, .unset, .unset, .unset, .unset] [(.int v7), (.int (1 : Int32)), (.ref b244), (.ref b244)]) := fun t k => pre248 t (by
      refine XS.dup X248.here hx rfl (hb hby at_232) rfl rfl ?_
      show Steps p.tables e below (T248.setTop (mkF m 233 #[vI p0, vI p1, vI p2, vI p3, vI p4, vI p5, vI (4 : Int32), vI v6, vI v6, vI v7, vI v8, vI v9, vI v10, vI v11, vI v12, vI v13, .unset, .unset, .unset, .unset] [(.ref b244), (.ref b244)])) _
      refine XS.iconst X248.here hx rfl (hb hby at_233) ?_
      show Steps p.tables e below (T248.setTop (mkF m 234 #[vI p0, vI p1, vI p2, vI p3, vI p4, vI p5, vI (4 : Int32), vI v6, vI v6, vI v7, vI v8, vI v9, vI v10, vI v11, vI v12, vI v13, .unset, .unset, .unset, .unset] [(.int (1 : Int32)), (.ref b244), (.ref b244)])) _
      refine XS.iload X248.here hx rfl (hb hby at_234) rfl ?_
      show Steps p.tables e below (T248.setTop (mkF m 236 #[vI p0, vI p1, vI p2, vI p3, vI p4, vI p5, vI (4 : Int32), vI v6, vI v6, vI v7, vI v8, vI v9, vI v10, vI v11, vI v12, vI v13, .unset, .unset, .unset, .unset] [(.int v7), (.int (1 : Int32)), (.ref b244), (.ref b244)])) _
      exact k)
    obtain ⟨cl252, Ar252, q252, S252, M252, H252, G252⟩ := id av248
    have in252 : ¬ ((1 : Int32) < 0 ∨ cl252.slots.size ≤ ((1 : Int32)).toNatClampNeg) := inb_of S252 ⟨by decide, by decide⟩
    obtain ⟨T252, h252, X252, e252, W252, st252⟩ := stI X248 hx hZ e248 Ar252 (j := (1 : Int32)) in252 (g := (mkF m 236 #[vI p0, vI p1, vI p2, vI p3, vI p4, vI p5, vI (4 : Int32), vI v6, vI v6, vI v7, vI v8, vI v9, vI v10, vI v11, vI v12, vI v13, .unset, .unset, .unset, .unset] [(.int v7), (.int (1 : Int32)), (.ref b244), (.ref b244)])) rfl rfl (hb hby at_236)
    have pre252 : Go p.tables e below S0 T252 (mkF m 237 #[vI p0, vI p1, vI p2, vI p3, vI p4, vI p5, vI (4 : Int32), vI v6, vI v6, vI v7, vI v8, vI v9, vI v10, vI v11, vI v12, vI v13, .unset, .unset, .unset, .unset] [(.ref b244)]) := fun t k => pre251 t (st252 t k)
    have N252 := Fr.snoc X252 N248 bo244
    have av252 : Arv Z h252 b244 kA244 .int (8 : Int32) [(.int v6), (.int v7), (.int (0 : Int32)), (.int (0 : Int32)), (.int (0 : Int32)), (.int (0 : Int32)), (.int (0 : Int32)), (.int (0 : Int32))] (.int (0 : Int32)) := Arv.set Ar252 q252 S252 M252 H252 G252 rfl W252 1 rfl (Nat.le_of_ble_eq_true rfl)
    have zz254 : n0 ≤ h252.size := Nat.le_trans zz250 (Keep.of_wr W252).1
    have pre255 : Go p.tables e below S0 T252 (mkF m 241 #[vI p0, vI p1, vI p2, vI p3, vI p4, vI p5, vI (4 : Int32), vI v6, vI v6, vI v7, vI v8, vI v9, vI v10, vI v11, vI v12, vI v13, .unset, .unset, .unset, .unset] [(.int v8), (.int (2 : Int32)), (.ref b244), (.ref b244)]) := fun t k => pre252 t (by
      refine XS.dup X252.here hx rfl (hb hby at_237) rfl rfl ?_
      show Steps p.tables e below (T252.setTop (mkF m 238 #[vI p0, vI p1, vI p2, vI p3, vI p4, vI p5, vI (4 : Int32), vI v6, vI v6, vI v7, vI v8, vI v9, vI v10, vI v11, vI v12, vI v13, .unset, .unset, .unset, .unset] [(.ref b244), (.ref b244)])) _
      refine XS.iconst X252.here hx rfl (hb hby at_238) ?_
      show Steps p.tables e below (T252.setTop (mkF m 239 #[vI p0, vI p1, vI p2, vI p3, vI p4, vI p5, vI (4 : Int32), vI v6, vI v6, vI v7, vI v8, vI v9, vI v10, vI v11, vI v12, vI v13, .unset, .unset, .unset, .unset] [(.int (2 : Int32)), (.ref b244), (.ref b244)])) _
      refine XS.iload X252.here hx rfl (hb hby at_239) rfl ?_
      show Steps p.tables e below (T252.setTop (mkF m 241 #[vI p0, vI p1, vI p2, vI p3, vI p4, vI p5, vI (4 : Int32), vI v6, vI v6, vI v7, vI v8, vI v9, vI v10, vI v11, vI v12, vI v13, .unset, .unset, .unset, .unset] [(.int v8), (.int (2 : Int32)), (.ref b244), (.ref b244)])) _
      exact k)
    obtain ⟨cl256, Ar256, q256, S256, M256, H256, G256⟩ := id av252
    have in256 : ¬ ((2 : Int32) < 0 ∨ cl256.slots.size ≤ ((2 : Int32)).toNatClampNeg) := inb_of S256 ⟨by decide, by decide⟩
    obtain ⟨T256, h256, X256, e256, W256, st256⟩ := stI X252 hx hZ e252 Ar256 (j := (2 : Int32)) in256 (g := (mkF m 241 #[vI p0, vI p1, vI p2, vI p3, vI p4, vI p5, vI (4 : Int32), vI v6, vI v6, vI v7, vI v8, vI v9, vI v10, vI v11, vI v12, vI v13, .unset, .unset, .unset, .unset] [(.int v8), (.int (2 : Int32)), (.ref b244), (.ref b244)])) rfl rfl (hb hby at_241)
    have pre256 : Go p.tables e below S0 T256 (mkF m 242 #[vI p0, vI p1, vI p2, vI p3, vI p4, vI p5, vI (4 : Int32), vI v6, vI v6, vI v7, vI v8, vI v9, vI v10, vI v11, vI v12, vI v13, .unset, .unset, .unset, .unset] [(.ref b244)]) := fun t k => pre255 t (st256 t k)
    have N256 := Fr.snoc X256 N252 bo244
    have av256 : Arv Z h256 b244 kA244 .int (8 : Int32) [(.int v6), (.int v7), (.int v8), (.int (0 : Int32)), (.int (0 : Int32)), (.int (0 : Int32)), (.int (0 : Int32)), (.int (0 : Int32))] (.int (0 : Int32)) := Arv.set Ar256 q256 S256 M256 H256 G256 rfl W256 2 rfl (Nat.le_of_ble_eq_true rfl)
    have zz258 : n0 ≤ h256.size := Nat.le_trans zz254 (Keep.of_wr W256).1
    have pre259 : Go p.tables e below S0 T256 (mkF m 246 #[vI p0, vI p1, vI p2, vI p3, vI p4, vI p5, vI (4 : Int32), vI v6, vI v6, vI v7, vI v8, vI v9, vI v10, vI v11, vI v12, vI v13, .unset, .unset, .unset, .unset] [(.int v9), (.int (3 : Int32)), (.ref b244), (.ref b244)]) := fun t k => pre256 t (by
      refine XS.dup X256.here hx rfl (hb hby at_242) rfl rfl ?_
      show Steps p.tables e below (T256.setTop (mkF m 243 #[vI p0, vI p1, vI p2, vI p3, vI p4, vI p5, vI (4 : Int32), vI v6, vI v6, vI v7, vI v8, vI v9, vI v10, vI v11, vI v12, vI v13, .unset, .unset, .unset, .unset] [(.ref b244), (.ref b244)])) _
      refine XS.iconst X256.here hx rfl (hb hby at_243) ?_
      show Steps p.tables e below (T256.setTop (mkF m 244 #[vI p0, vI p1, vI p2, vI p3, vI p4, vI p5, vI (4 : Int32), vI v6, vI v6, vI v7, vI v8, vI v9, vI v10, vI v11, vI v12, vI v13, .unset, .unset, .unset, .unset] [(.int (3 : Int32)), (.ref b244), (.ref b244)])) _
      refine XS.iload X256.here hx rfl (hb hby at_244) rfl ?_
      show Steps p.tables e below (T256.setTop (mkF m 246 #[vI p0, vI p1, vI p2, vI p3, vI p4, vI p5, vI (4 : Int32), vI v6, vI v6, vI v7, vI v8, vI v9, vI v10, vI v11, vI v12, vI v13, .unset, .unset, .unset, .unset] [(.int v9), (.int (3 : Int32)), (.ref b244), (.ref b244)])) _
      exact k)
    obtain ⟨cl260, Ar260, q260, S260, M260, H260, G260⟩ := id av256
    have in260 : ¬ ((3 : Int32) < 0 ∨ cl260.slots.size ≤ ((3 : Int32)).toNatClampNeg) := inb_of S260 ⟨by decide, by decide⟩
    obtain ⟨T260, h260, X260, e260, W260, st260⟩ := stI X256 hx hZ e256 Ar260 (j := (3 : Int32)) in260 (g := (mkF m 246 #[vI p0, vI p1, vI p2, vI p3, vI p4, vI p5, vI (4 : Int32), vI v6, vI v6, vI v7, vI v8, vI v9, vI v10, vI v11, vI v12, vI v13, .unset, .unset, .unset, .unset] [(.int v9), (.int (3 : Int32)), (.ref b244), (.ref b244)])) rfl rfl (hb hby at_246)
    have pre260 : Go p.tables e below S0 T260 (mkF m 247 #[vI p0, vI p1, vI p2, vI p3, vI p4, vI p5, vI (4 : Int32), vI v6, vI v6, vI v7, vI v8, vI v9, vI v10, vI v11, vI v12, vI v13, .unset, .unset, .unset, .unset] [(.ref b244)]) := fun t k => pre259 t (st260 t k)
    have N260 := Fr.snoc X260 N256 bo244
    have av260 : Arv Z h260 b244 kA244 .int (8 : Int32) [(.int v6), (.int v7), (.int v8), (.int v9), (.int (0 : Int32)), (.int (0 : Int32)), (.int (0 : Int32)), (.int (0 : Int32))] (.int (0 : Int32)) := Arv.set Ar260 q260 S260 M260 H260 G260 rfl W260 3 rfl (Nat.le_of_ble_eq_true rfl)
    have zz262 : n0 ≤ h260.size := Nat.le_trans zz258 (Keep.of_wr W260).1
    have pre263 : Go p.tables e below S0 T260 (mkF m 251 #[vI p0, vI p1, vI p2, vI p3, vI p4, vI p5, vI (4 : Int32), vI v6, vI v6, vI v7, vI v8, vI v9, vI v10, vI v11, vI v12, vI v13, .unset, .unset, .unset, .unset] [(.int v10), (.int (4 : Int32)), (.ref b244), (.ref b244)]) := fun t k => pre260 t (by
      refine XS.dup X260.here hx rfl (hb hby at_247) rfl rfl ?_
      show Steps p.tables e below (T260.setTop (mkF m 248 #[vI p0, vI p1, vI p2, vI p3, vI p4, vI p5, vI (4 : Int32), vI v6, vI v6, vI v7, vI v8, vI v9, vI v10, vI v11, vI v12, vI v13, .unset, .unset, .unset, .unset] [(.ref b244), (.ref b244)])) _
      refine XS.iconst X260.here hx rfl (hb hby at_248) ?_
      show Steps p.tables e below (T260.setTop (mkF m 249 #[vI p0, vI p1, vI p2, vI p3, vI p4, vI p5, vI (4 : Int32), vI v6, vI v6, vI v7, vI v8, vI v9, vI v10, vI v11, vI v12, vI v13, .unset, .unset, .unset, .unset] [(.int (4 : Int32)), (.ref b244), (.ref b244)])) _
      refine XS.iload X260.here hx rfl (hb hby at_249) rfl ?_
      show Steps p.tables e below (T260.setTop (mkF m 251 #[vI p0, vI p1, vI p2, vI p3, vI p4, vI p5, vI (4 : Int32), vI v6, vI v6, vI v7, vI v8, vI v9, vI v10, vI v11, vI v12, vI v13, .unset, .unset, .unset, .unset] [(.int v10), (.int (4 : Int32)), (.ref b244), (.ref b244)])) _
      exact k)
    obtain ⟨cl264, Ar264, q264, S264, M264, H264, G264⟩ := id av260
    have in264 : ¬ ((4 : Int32) < 0 ∨ cl264.slots.size ≤ ((4 : Int32)).toNatClampNeg) := inb_of S264 ⟨by decide, by decide⟩
    obtain ⟨T264, h264, X264, e264, W264, st264⟩ := stI X260 hx hZ e260 Ar264 (j := (4 : Int32)) in264 (g := (mkF m 251 #[vI p0, vI p1, vI p2, vI p3, vI p4, vI p5, vI (4 : Int32), vI v6, vI v6, vI v7, vI v8, vI v9, vI v10, vI v11, vI v12, vI v13, .unset, .unset, .unset, .unset] [(.int v10), (.int (4 : Int32)), (.ref b244), (.ref b244)])) rfl rfl (hb hby at_251)
    have pre264 : Go p.tables e below S0 T264 (mkF m 252 #[vI p0, vI p1, vI p2, vI p3, vI p4, vI p5, vI (4 : Int32), vI v6, vI v6, vI v7, vI v8, vI v9, vI v10, vI v11, vI v12, vI v13, .unset, .unset, .unset, .unset] [(.ref b244)]) := fun t k => pre263 t (st264 t k)
    have N264 := Fr.snoc X264 N260 bo244
    have av264 : Arv Z h264 b244 kA244 .int (8 : Int32) [(.int v6), (.int v7), (.int v8), (.int v9), (.int v10), (.int (0 : Int32)), (.int (0 : Int32)), (.int (0 : Int32))] (.int (0 : Int32)) := Arv.set Ar264 q264 S264 M264 H264 G264 rfl W264 4 rfl (Nat.le_of_ble_eq_true rfl)
    have zz266 : n0 ≤ h264.size := Nat.le_trans zz262 (Keep.of_wr W264).1
    have pre267 : Go p.tables e below S0 T264 (mkF m 256 #[vI p0, vI p1, vI p2, vI p3, vI p4, vI p5, vI (4 : Int32), vI v6, vI v6, vI v7, vI v8, vI v9, vI v10, vI v11, vI v12, vI v13, .unset, .unset, .unset, .unset] [(.int v11), (.int (5 : Int32)), (.ref b244), (.ref b244)]) := fun t k => pre264 t (by
      refine XS.dup X264.here hx rfl (hb hby at_252) rfl rfl ?_
      show Steps p.tables e below (T264.setTop (mkF m 253 #[vI p0, vI p1, vI p2, vI p3, vI p4, vI p5, vI (4 : Int32), vI v6, vI v6, vI v7, vI v8, vI v9, vI v10, vI v11, vI v12, vI v13, .unset, .unset, .unset, .unset] [(.ref b244), (.ref b244)])) _
      refine XS.iconst X264.here hx rfl (hb hby at_253) ?_
      show Steps p.tables e below (T264.setTop (mkF m 254 #[vI p0, vI p1, vI p2, vI p3, vI p4, vI p5, vI (4 : Int32), vI v6, vI v6, vI v7, vI v8, vI v9, vI v10, vI v11, vI v12, vI v13, .unset, .unset, .unset, .unset] [(.int (5 : Int32)), (.ref b244), (.ref b244)])) _
      refine XS.iload X264.here hx rfl (hb hby at_254) rfl ?_
      show Steps p.tables e below (T264.setTop (mkF m 256 #[vI p0, vI p1, vI p2, vI p3, vI p4, vI p5, vI (4 : Int32), vI v6, vI v6, vI v7, vI v8, vI v9, vI v10, vI v11, vI v12, vI v13, .unset, .unset, .unset, .unset] [(.int v11), (.int (5 : Int32)), (.ref b244), (.ref b244)])) _
      exact k)
    obtain ⟨cl268, Ar268, q268, S268, M268, H268, G268⟩ := id av264
    have in268 : ¬ ((5 : Int32) < 0 ∨ cl268.slots.size ≤ ((5 : Int32)).toNatClampNeg) := inb_of S268 ⟨by decide, by decide⟩
    obtain ⟨T268, h268, X268, e268, W268, st268⟩ := stI X264 hx hZ e264 Ar268 (j := (5 : Int32)) in268 (g := (mkF m 256 #[vI p0, vI p1, vI p2, vI p3, vI p4, vI p5, vI (4 : Int32), vI v6, vI v6, vI v7, vI v8, vI v9, vI v10, vI v11, vI v12, vI v13, .unset, .unset, .unset, .unset] [(.int v11), (.int (5 : Int32)), (.ref b244), (.ref b244)])) rfl rfl (hb hby at_256)
    have pre268 : Go p.tables e below S0 T268 (mkF m 257 #[vI p0, vI p1, vI p2, vI p3, vI p4, vI p5, vI (4 : Int32), vI v6, vI v6, vI v7, vI v8, vI v9, vI v10, vI v11, vI v12, vI v13, .unset, .unset, .unset, .unset] [(.ref b244)]) := fun t k => pre267 t (st268 t k)
    have N268 := Fr.snoc X268 N264 bo244
    have av268 : Arv Z h268 b244 kA244 .int (8 : Int32) [(.int v6), (.int v7), (.int v8), (.int v9), (.int v10), (.int v11), (.int (0 : Int32)), (.int (0 : Int32))] (.int (0 : Int32)) := Arv.set Ar268 q268 S268 M268 H268 G268 rfl W268 5 rfl (Nat.le_of_ble_eq_true rfl)
    have zz270 : n0 ≤ h268.size := Nat.le_trans zz266 (Keep.of_wr W268).1
    have pre271 : Go p.tables e below S0 T268 (mkF m 262 #[vI p0, vI p1, vI p2, vI p3, vI p4, vI p5, vI (4 : Int32), vI v6, vI v6, vI v7, vI v8, vI v9, vI v10, vI v11, vI v12, vI v13, .unset, .unset, .unset, .unset] [(.int v12), (.int (6 : Int32)), (.ref b244), (.ref b244)]) := fun t k => pre268 t (by
      refine XS.dup X268.here hx rfl (hb hby at_257) rfl rfl ?_
      show Steps p.tables e below (T268.setTop (mkF m 258 #[vI p0, vI p1, vI p2, vI p3, vI p4, vI p5, vI (4 : Int32), vI v6, vI v6, vI v7, vI v8, vI v9, vI v10, vI v11, vI v12, vI v13, .unset, .unset, .unset, .unset] [(.ref b244), (.ref b244)])) _
      refine XS.bipush X268.here hx rfl (hb hby at_258) ?_
      show Steps p.tables e below (T268.setTop (mkF m 260 #[vI p0, vI p1, vI p2, vI p3, vI p4, vI p5, vI (4 : Int32), vI v6, vI v6, vI v7, vI v8, vI v9, vI v10, vI v11, vI v12, vI v13, .unset, .unset, .unset, .unset] [(.int (6 : Int32)), (.ref b244), (.ref b244)])) _
      refine XS.iload X268.here hx rfl (hb hby at_260) rfl ?_
      show Steps p.tables e below (T268.setTop (mkF m 262 #[vI p0, vI p1, vI p2, vI p3, vI p4, vI p5, vI (4 : Int32), vI v6, vI v6, vI v7, vI v8, vI v9, vI v10, vI v11, vI v12, vI v13, .unset, .unset, .unset, .unset] [(.int v12), (.int (6 : Int32)), (.ref b244), (.ref b244)])) _
      exact k)
    obtain ⟨cl272, Ar272, q272, S272, M272, H272, G272⟩ := id av268
    have in272 : ¬ ((6 : Int32) < 0 ∨ cl272.slots.size ≤ ((6 : Int32)).toNatClampNeg) := inb_of S272 ⟨by decide, by decide⟩
    obtain ⟨T272, h272, X272, e272, W272, st272⟩ := stI X268 hx hZ e268 Ar272 (j := (6 : Int32)) in272 (g := (mkF m 262 #[vI p0, vI p1, vI p2, vI p3, vI p4, vI p5, vI (4 : Int32), vI v6, vI v6, vI v7, vI v8, vI v9, vI v10, vI v11, vI v12, vI v13, .unset, .unset, .unset, .unset] [(.int v12), (.int (6 : Int32)), (.ref b244), (.ref b244)])) rfl rfl (hb hby at_262)
    have pre272 : Go p.tables e below S0 T272 (mkF m 263 #[vI p0, vI p1, vI p2, vI p3, vI p4, vI p5, vI (4 : Int32), vI v6, vI v6, vI v7, vI v8, vI v9, vI v10, vI v11, vI v12, vI v13, .unset, .unset, .unset, .unset] [(.ref b244)]) := fun t k => pre271 t (st272 t k)
    have N272 := Fr.snoc X272 N268 bo244
    have av272 : Arv Z h272 b244 kA244 .int (8 : Int32) [(.int v6), (.int v7), (.int v8), (.int v9), (.int v10), (.int v11), (.int v12), (.int (0 : Int32))] (.int (0 : Int32)) := Arv.set Ar272 q272 S272 M272 H272 G272 rfl W272 6 rfl (Nat.le_of_ble_eq_true rfl)
    have zz274 : n0 ≤ h272.size := Nat.le_trans zz270 (Keep.of_wr W272).1
    have pre275 : Go p.tables e below S0 T272 (mkF m 268 #[vI p0, vI p1, vI p2, vI p3, vI p4, vI p5, vI (4 : Int32), vI v6, vI v6, vI v7, vI v8, vI v9, vI v10, vI v11, vI v12, vI v13, .unset, .unset, .unset, .unset] [(.int v13), (.int (7 : Int32)), (.ref b244), (.ref b244)]) := fun t k => pre272 t (by
      refine XS.dup X272.here hx rfl (hb hby at_263) rfl rfl ?_
      show Steps p.tables e below (T272.setTop (mkF m 264 #[vI p0, vI p1, vI p2, vI p3, vI p4, vI p5, vI (4 : Int32), vI v6, vI v6, vI v7, vI v8, vI v9, vI v10, vI v11, vI v12, vI v13, .unset, .unset, .unset, .unset] [(.ref b244), (.ref b244)])) _
      refine XS.bipush X272.here hx rfl (hb hby at_264) ?_
      show Steps p.tables e below (T272.setTop (mkF m 266 #[vI p0, vI p1, vI p2, vI p3, vI p4, vI p5, vI (4 : Int32), vI v6, vI v6, vI v7, vI v8, vI v9, vI v10, vI v11, vI v12, vI v13, .unset, .unset, .unset, .unset] [(.int (7 : Int32)), (.ref b244), (.ref b244)])) _
      refine XS.iload X272.here hx rfl (hb hby at_266) rfl ?_
      show Steps p.tables e below (T272.setTop (mkF m 268 #[vI p0, vI p1, vI p2, vI p3, vI p4, vI p5, vI (4 : Int32), vI v6, vI v6, vI v7, vI v8, vI v9, vI v10, vI v11, vI v12, vI v13, .unset, .unset, .unset, .unset] [(.int v13), (.int (7 : Int32)), (.ref b244), (.ref b244)])) _
      exact k)
    obtain ⟨cl276, Ar276, q276, S276, M276, H276, G276⟩ := id av272
    have in276 : ¬ ((7 : Int32) < 0 ∨ cl276.slots.size ≤ ((7 : Int32)).toNatClampNeg) := inb_of S276 ⟨by decide, by decide⟩
    obtain ⟨T276, h276, X276, e276, W276, st276⟩ := stI X272 hx hZ e272 Ar276 (j := (7 : Int32)) in276 (g := (mkF m 268 #[vI p0, vI p1, vI p2, vI p3, vI p4, vI p5, vI (4 : Int32), vI v6, vI v6, vI v7, vI v8, vI v9, vI v10, vI v11, vI v12, vI v13, .unset, .unset, .unset, .unset] [(.int v13), (.int (7 : Int32)), (.ref b244), (.ref b244)])) rfl rfl (hb hby at_268)
    have pre276 : Go p.tables e below S0 T276 (mkF m 269 #[vI p0, vI p1, vI p2, vI p3, vI p4, vI p5, vI (4 : Int32), vI v6, vI v6, vI v7, vI v8, vI v9, vI v10, vI v11, vI v12, vI v13, .unset, .unset, .unset, .unset] [(.ref b244)]) := fun t k => pre275 t (st276 t k)
    have N276 := Fr.snoc X276 N272 bo244
    have av276 : Arv Z h276 b244 kA244 .int (8 : Int32) [(.int v6), (.int v7), (.int v8), (.int v9), (.int v10), (.int v11), (.int v12), (.int v13)] (.int (0 : Int32)) := Arv.set Ar276 q276 S276 M276 H276 G276 rfl W276 7 rfl (Nat.le_of_ble_eq_true rfl)
    have zz278 : n0 ≤ h276.size := Nat.le_trans zz274 (Keep.of_wr W276).1
    have pre279 : Go p.tables e below S0 T276 (mkF m 275 #[vI p0, vI p1, vI p2, vI p3, vI p4, vI p5, vI (4 : Int32), vI v6, vI v6, vI v7, vI v8, vI v9, vI v10, vI v11, vI v12, vI v13, vR b244, .unset, .unset, .unset] [(.int (p5 &&& (1 : Int32)))]) := fun t k => pre276 t (by
      refine XS.astore X276.here hx rfl (hb hby at_269) rfl rfl (l' := #[vI p0, vI p1, vI p2, vI p3, vI p4, vI p5, vI (4 : Int32), vI v6, vI v6, vI v7, vI v8, vI v9, vI v10, vI v11, vI v12, vI v13, vR b244, .unset, .unset, .unset]) rfl ?_
      show Steps p.tables e below (T276.setTop (mkF m 271 #[vI p0, vI p1, vI p2, vI p3, vI p4, vI p5, vI (4 : Int32), vI v6, vI v6, vI v7, vI v8, vI v9, vI v10, vI v11, vI v12, vI v13, vR b244, .unset, .unset, .unset] [])) _
      refine XS.iload X276.here hx rfl (hb hby at_271) rfl ?_
      show Steps p.tables e below (T276.setTop (mkF m 273 #[vI p0, vI p1, vI p2, vI p3, vI p4, vI p5, vI (4 : Int32), vI v6, vI v6, vI v7, vI v8, vI v9, vI v10, vI v11, vI v12, vI v13, vR b244, .unset, .unset, .unset] [(.int p5)])) _
      refine XS.iconst X276.here hx rfl (hb hby at_273) ?_
      show Steps p.tables e below (T276.setTop (mkF m 274 #[vI p0, vI p1, vI p2, vI p3, vI p4, vI p5, vI (4 : Int32), vI v6, vI v6, vI v7, vI v8, vI v9, vI v10, vI v11, vI v12, vI v13, vR b244, .unset, .unset, .unset] [(.int (1 : Int32)), (.int p5)])) _
      refine XS.iand X276.here hx rfl (hb hby at_274) rfl ?_
      show Steps p.tables e below (T276.setTop (mkF m 275 #[vI p0, vI p1, vI p2, vI p3, vI p4, vI p5, vI (4 : Int32), vI v6, vI v6, vI v7, vI v8, vI v9, vI v10, vI v11, vI v12, vI v13, vR b244, .unset, .unset, .unset] [(.int (p5 &&& (1 : Int32)))])) _
      exact k)
    refine cps (A := ∃ (j293_s0_283 : Int32), (Go p.tables e below S0 T276 (mkF m 293 #[vI p0, vI p1, vI p2, vI p3, vI p4, vI p5, vI (4 : Int32), vI v6, vI v6, vI v7, vI v8, vI v9, vI v10, vI v11, vI v12, vI v13, vR b244, .unset, .unset, .unset] [(.int j293_s0_283)]))) (fun tail285 => ?_) ?_
    · skip
      by_cases c275_280 : (p5 &&& (1 : Int32)) = (0 : Int32)
      · skip
        have pre281 : Go p.tables e below S0 T276 (mkF m 293 #[vI p0, vI p1, vI p2, vI p3, vI p4, vI p5, vI (4 : Int32), vI v6, vI v6, vI v7, vI v8, vI v9, vI v10, vI v11, vI v12, vI v13, vR b244, .unset, .unset, .unset] [(.int ((v6 + (p4 &&& (63 : Int32))) - (4 : Int32)))]) := fun t k => pre279 t (by
          refine XS.ifYes X276.here hx rfl (pc0 := 275) (pc' := 283) rfl (hb hby at_275) rfl ((if0 _ _).trans (teq c275_280).1) (by decide) (by decide) ?_
          show Steps p.tables e below (T276.setTop (mkF m 283 #[vI p0, vI p1, vI p2, vI p3, vI p4, vI p5, vI (4 : Int32), vI v6, vI v6, vI v7, vI v8, vI v9, vI v10, vI v11, vI v12, vI v13, vR b244, .unset, .unset, .unset] [])) _
          refine XS.iload X276.here hx rfl (hb hby at_283) rfl ?_
          show Steps p.tables e below (T276.setTop (mkF m 285 #[vI p0, vI p1, vI p2, vI p3, vI p4, vI p5, vI (4 : Int32), vI v6, vI v6, vI v7, vI v8, vI v9, vI v10, vI v11, vI v12, vI v13, vR b244, .unset, .unset, .unset] [(.int v6)])) _
          refine XS.iload X276.here hx rfl (hb hby at_285) rfl ?_
          show Steps p.tables e below (T276.setTop (mkF m 287 #[vI p0, vI p1, vI p2, vI p3, vI p4, vI p5, vI (4 : Int32), vI v6, vI v6, vI v7, vI v8, vI v9, vI v10, vI v11, vI v12, vI v13, vR b244, .unset, .unset, .unset] [(.int p4), (.int v6)])) _
          refine XS.bipush X276.here hx rfl (hb hby at_287) ?_
          show Steps p.tables e below (T276.setTop (mkF m 289 #[vI p0, vI p1, vI p2, vI p3, vI p4, vI p5, vI (4 : Int32), vI v6, vI v6, vI v7, vI v8, vI v9, vI v10, vI v11, vI v12, vI v13, vR b244, .unset, .unset, .unset] [(.int (63 : Int32)), (.int p4), (.int v6)])) _
          refine XS.iand X276.here hx rfl (hb hby at_289) rfl ?_
          show Steps p.tables e below (T276.setTop (mkF m 290 #[vI p0, vI p1, vI p2, vI p3, vI p4, vI p5, vI (4 : Int32), vI v6, vI v6, vI v7, vI v8, vI v9, vI v10, vI v11, vI v12, vI v13, vR b244, .unset, .unset, .unset] [(.int (p4 &&& (63 : Int32))), (.int v6)])) _
          refine XS.iadd X276.here hx rfl (hb hby at_290) rfl ?_
          show Steps p.tables e below (T276.setTop (mkF m 291 #[vI p0, vI p1, vI p2, vI p3, vI p4, vI p5, vI (4 : Int32), vI v6, vI v6, vI v7, vI v8, vI v9, vI v10, vI v11, vI v12, vI v13, vR b244, .unset, .unset, .unset] [(.int (v6 + (p4 &&& (63 : Int32))))])) _
          refine XS.iconst X276.here hx rfl (hb hby at_291) ?_
          show Steps p.tables e below (T276.setTop (mkF m 292 #[vI p0, vI p1, vI p2, vI p3, vI p4, vI p5, vI (4 : Int32), vI v6, vI v6, vI v7, vI v8, vI v9, vI v10, vI v11, vI v12, vI v13, vR b244, .unset, .unset, .unset] [(.int (4 : Int32)), (.int (v6 + (p4 &&& (63 : Int32))))])) _
          refine XS.isub X276.here hx rfl (hb hby at_292) rfl ?_
          show Steps p.tables e below (T276.setTop (mkF m 293 #[vI p0, vI p1, vI p2, vI p3, vI p4, vI p5, vI (4 : Int32), vI v6, vI v6, vI v7, vI v8, vI v9, vI v10, vI v11, vI v12, vI v13, vR b244, .unset, .unset, .unset] [(.int ((v6 + (p4 &&& (63 : Int32))) - (4 : Int32)))])) _
          exact k)
        exact tail285 ⟨((v6 + (p4 &&& (63 : Int32))) - (4 : Int32)), pre281⟩
      · skip
        have pre282 : Go p.tables e below S0 T276 (mkF m 293 #[vI p0, vI p1, vI p2, vI p3, vI p4, vI p5, vI (4 : Int32), vI v6, vI v6, vI v7, vI v8, vI v9, vI v10, vI v11, vI v12, vI v13, vR b244, .unset, .unset, .unset] [(.int p4)]) := fun t k => pre279 t (by
          refine XS.ifNo X276.here hx rfl (hb hby at_275) rfl ((if0 _ _).trans (feq c275_280).1) ?_
          show Steps p.tables e below (T276.setTop (mkF m 278 #[vI p0, vI p1, vI p2, vI p3, vI p4, vI p5, vI (4 : Int32), vI v6, vI v6, vI v7, vI v8, vI v9, vI v10, vI v11, vI v12, vI v13, vR b244, .unset, .unset, .unset] [])) _
          refine XS.iload X276.here hx rfl (hb hby at_278) rfl ?_
          show Steps p.tables e below (T276.setTop (mkF m 280 #[vI p0, vI p1, vI p2, vI p3, vI p4, vI p5, vI (4 : Int32), vI v6, vI v6, vI v7, vI v8, vI v9, vI v10, vI v11, vI v12, vI v13, vR b244, .unset, .unset, .unset] [(.int p4)])) _
          refine XS.goto X276.here hx rfl (pc0 := 280) (pc' := 293) rfl (hb hby at_280) (by decide) (by decide) ?_
          show Steps p.tables e below (T276.setTop (mkF m 293 #[vI p0, vI p1, vI p2, vI p3, vI p4, vI p5, vI (4 : Int32), vI v6, vI v6, vI v7, vI v8, vI v9, vI v10, vI v11, vI v12, vI v13, vR b244, .unset, .unset, .unset] [(.int p4)])) _
          exact k)
        exact tail285 ⟨p4, pre282⟩
    rintro ⟨j293_s0_283, pre284⟩
    have pre286 : Go p.tables e below S0 T276 (mkF m 295 #[vI p0, vI p1, vI p2, vI p3, vI p4, vI p5, vI (4 : Int32), vI v6, vI v6, vI v7, vI v8, vI v9, vI v10, vI v11, vI v12, vI v13, vR b244, vI j293_s0_283, .unset, .unset] []) := fun t k => pre284 t (by
      refine XS.istore X276.here hx rfl (hb hby at_293) rfl (l' := #[vI p0, vI p1, vI p2, vI p3, vI p4, vI p5, vI (4 : Int32), vI v6, vI v6, vI v7, vI v8, vI v9, vI v10, vI v11, vI v12, vI v13, vR b244, vI j293_s0_283, .unset, .unset]) rfl ?_
      show Steps p.tables e below (T276.setTop (mkF m 295 #[vI p0, vI p1, vI p2, vI p3, vI p4, vI p5, vI (4 : Int32), vI v6, vI v6, vI v7, vI v8, vI v9, vI v10, vI v11, vI v12, vI v13, vR b244, vI j293_s0_283, .unset, .unset] [])) _
      exact k)
    obtain ⟨T287, h287, X287, e287, E287, A287, D287, -, st287⟩ := newO X276 hx hZ hown (hw _ (List.mem_of_getElem? (i := 10) rfl)) (hw _ (List.mem_of_getElem? (i := 11) rfl)) (hw _ (List.mem_of_getElem? (i := 12) rfl)) e276 (g := (mkF m 295 #[vI p0, vI p1, vI p2, vI p3, vI p4, vI p5, vI (4 : Int32), vI v6, vI v6, vI v7, vI v8, vI v9, vI v10, vI v11, vI v12, vI v13, vR b244, vI j293_s0_283, .unset, .unset] [])) rfl (hb hby at_295) (by decide) (by decide)
    obtain ⟨b287, g287⟩ : ∃ z, z = h276.size := ⟨_, rfl⟩
    rw [← g287] at A287 D287 st287
    have pre287 : Go p.tables e below S0 T287 (mkF m 298 #[vI p0, vI p1, vI p2, vI p3, vI p4, vI p5, vI (4 : Int32), vI v6, vI v6, vI v7, vI v8, vI v9, vI v10, vI v11, vI v12, vI v13, vR b244, vI j293_s0_283, .unset, .unset] [(.ref b287)]) := fun t k => pre286 t (st287 t k)
    have ne288 : b244 ≠ b287 := Nat.ne_of_lt (Nat.lt_of_lt_of_le av276.lt (Nat.le_of_eq g287.symm))
    have bo287 : n0 ≤ b287 := Nat.le_trans zz278 (Nat.le_of_eq g287.symm)
    have f289_1 := av276.ext E287
    have zz290 : n0 ≤ h287.size := Nat.le_trans zz278 E287.1
    have fn287_ranges : Fld Z h287 b287 "com/example/attest/attest/metadata/ScopeSyntax$Chars" "ranges" "[I" .null := D287 (Or.inr (hw _ (List.mem_of_getElem? (i := 25) rfl))) (ty := (.array .int)) (by decide)
    have pre291 : Go p.tables e below S0 T287 (mkF m 301 #[vI p0, vI p1, vI p2, vI p3, vI p4, vI p5, vI (4 : Int32), vI v6, vI v6, vI v7, vI v8, vI v9, vI v10, vI v11, vI v12, vI v13, vR b244, vI j293_s0_283, .unset, .unset] [(.ref b244), (.ref b287), (.ref b287)]) := fun t k => pre287 t (by
      refine XS.dup X287.here hx rfl (hb hby at_298) rfl rfl ?_
      show Steps p.tables e below (T287.setTop (mkF m 299 #[vI p0, vI p1, vI p2, vI p3, vI p4, vI p5, vI (4 : Int32), vI v6, vI v6, vI v7, vI v8, vI v9, vI v10, vI v11, vI v12, vI v13, vR b244, vI j293_s0_283, .unset, .unset] [(.ref b287), (.ref b287)])) _
      refine XS.aload X287.here hx rfl (hb hby at_299) rfl rfl ?_
      show Steps p.tables e below (T287.setTop (mkF m 301 #[vI p0, vI p1, vI p2, vI p3, vI p4, vI p5, vI (4 : Int32), vI v6, vI v6, vI v7, vI v8, vI v9, vI v10, vI v11, vI v12, vI v13, vR b244, vI j293_s0_283, .unset, .unset] [(.ref b244), (.ref b287), (.ref b287)])) _
      exact k)
    obtain ⟨_, _, ⟨T292, qL292, qk292, qn292⟩, -, X292, ⟨Lc292, hQ292, ql292, qy292, qz292⟩, st292⟩ := X287.specialBack hx (y := (⟨"com/example/attest/attest/metadata/ScopeSyntax$Chars", "<init>", "([I)V"⟩ : MethodName)) rfl hown (mvT hZ (hw _ (List.mem_of_getElem? (i := 13) rfl))) (mvT hZ (hw _ (List.mem_of_getElem? (i := 14) rfl))) (mvT hZ (hw _ (List.mem_of_getElem? (i := 15) rfl))) (by decide) (backOf (W := 1) (rm3 l Z A0 hw [] b287 b244 h287 n0 zz290 A287 fn287_ranges bo287) hZ (hw _ (List.mem_of_getElem? (i := 15) rfl)) (hw _ (List.mem_of_getElem? (i := 12) rfl)) (by decide) (by decide)) (g := (mkF m 301 #[vI p0, vI p1, vI p2, vI p3, vI p4, vI p5, vI (4 : Int32), vI v6, vI v6, vI v7, vI v8, vI v9, vI v10, vI v11, vI v12, vI v13, vR b244, vI j293_s0_283, .unset, .unset] [(.ref b244), (.ref b287), (.ref b287)])) rfl (by rw [hml]; rfl) (Steps.refl _) (a := b287) (argsL := [(.ref b244)]) (rest := [(.ref b287)]) (lenOf pd_2 rfl) rfl (by show 2 * 0 + _ ≤ _; exact Nat.le_of_eq rfl) (hb hby at_301) (fun _ _ => ⟨rfl, e287, (by decide : 2 + 0 ≤ _), (by decide : 9 + 0 ≤ _)⟩)
    dsimp only [Pt.U, Pt.locs, Pt.cells, Pt.slots] at X292 ql292 qy292 qz292 st292 hQ292
    subst ql292 qy292 qz292
    obtain ⟨rfl, Nq292, Kq292, nf292_0, nf292_1⟩ := hQ292
    have N292 := Fr.app N276 Nq292
    have pre292 : Go p.tables e below S0 T292 (mkF m 304 #[vI p0, vI p1, vI p2, vI p3, vI p4, vI p5, vI (4 : Int32), vI v6, vI v6, vI v7, vI v8, vI v9, vI v10, vI v11, vI v12, vI v13, vR b244, vI j293_s0_283, .unset, .unset] [(.ref b287)]) := fun t k => pre291 t (st292.trans k)
    have f293_1 := f289_1.keep Kq292 (ninS ne288 nin0)
    have zz294 : n0 ≤ T292.heap.size := Nat.le_trans zz290 Kq292.1
    have pre295 : Go p.tables e below S0 T292 (mkF m 306 #[vI p0, vI p1, vI p2, vI p3, vI p4, vI p5, vI (4 : Int32), vI v6, vI v6, vI v7, vI v8, vI v9, vI v10, vI v11, vI v12, vI v13, vR b244, vI j293_s0_283, .unset, .unset] [(.int j293_s0_283), (.ref b287)]) := fun t k => pre292 t (by
      refine XS.iload X292.here hx rfl (hb hby at_304) rfl ?_
      show Steps p.tables e below (T292.setTop (mkF m 306 #[vI p0, vI p1, vI p2, vI p3, vI p4, vI p5, vI (4 : Int32), vI v6, vI v6, vI v7, vI v8, vI v9, vI v10, vI v11, vI v12, vI v13, vR b244, vI j293_s0_283, .unset, .unset] [(.int j293_s0_283), (.ref b287)])) _
      exact k)
    obtain ⟨cq296, kq296, qa296, qb296, qc296⟩ := isOf hZ rfl nf292_0
    obtain ⟨_, _, ⟨T296, qL296, qk296, qn296⟩, -, X296, ⟨Lc296, hQ296, ql296, qy296, qz296⟩, st296⟩ := X292.virtualBack hx (y := (⟨"com/example/attest/attest/metadata/ScopeSyntax$Chars", "contains", "(I)Z"⟩ : MethodName)) (z := (⟨"com/example/attest/attest/metadata/ScopeSyntax$Chars", "contains", "(I)Z"⟩ : MethodName)) hown (mvT hZ (hw _ (List.mem_of_getElem? (i := 26) rfl))) (mvT hZ (hw _ (List.mem_of_getElem? (i := 27) rfl))) (notFace_of_selects (args := #[]) (mvT hZ (hw _ (List.mem_of_getElem? (i := 29) rfl)))) (mvT hZ (hw _ (List.mem_of_getElem? (i := 29) rfl))) (mvT hZ (hw _ (List.mem_of_getElem? (i := 28) rfl))) (by decide) (backOf (W := 0) (rm6_4 l Z A0 hw [] b287 j293_s0_283 b244 kA244 v6 v7 v8 v9 v10 v11 v12 v13 T292.heap n0 zz294 nf292_1 f293_1 sorted4) hZ (hw _ (List.mem_of_getElem? (i := 30) rfl)) (hw _ (List.mem_of_getElem? (i := 12) rfl)) (by decide) (by decide)) qa296 qc296 (g := (mkF m 306 #[vI p0, vI p1, vI p2, vI p3, vI p4, vI p5, vI (4 : Int32), vI v6, vI v6, vI v7, vI v8, vI v9, vI v10, vI v11, vI v12, vI v13, vR b244, vI j293_s0_283, .unset, .unset] [(.int j293_s0_283), (.ref b287)])) rfl (by rw [hml]; rfl) (Steps.refl _) (argsL := [(.int j293_s0_283)]) (rest := []) (lenOf pd_3 rfl) rfl (by show 2 * 0 + _ ≤ _; exact Nat.le_of_eq rfl) (hb hby at_306) (fun _ _ => ⟨rfl, rfl, (by decide : 2 + 0 ≤ _), (by decide : 9 + 0 ≤ _)⟩)
    dsimp only [Pt.U, Pt.locs, Pt.cells, Pt.slots] at X296 ql296 qy296 qz296 st296 hQ296
    subst ql296 qy296 qz296
    obtain ⟨rfl, Nq296, eq296⟩ := hQ296
    have N296 := Fr.app N292 Nq296
    have pre296 : Go p.tables e below S0 T296 (mkF m 309 #[vI p0, vI p1, vI p2, vI p3, vI p4, vI p5, vI (4 : Int32), vI v6, vI v6, vI v7, vI v8, vI v9, vI v10, vI v11, vI v12, vI v13, vR b244, vI j293_s0_283, .unset, .unset] [(.int (own_in4 j293_s0_283 v6 v7 v8 v9 v10 v11 v12 v13))]) := fun t k => pre295 t (st296.trans k)
    have pre297 : Go p.tables e below S0 T296 (mkF m 320 #[vI p0, vI p1, vI p2, vI p3, vI p4, vI p5, vI (4 : Int32), vI v6, vI v6, vI v7, vI v8, vI v9, vI v10, vI v11, vI v12, vI v13, vR b244, vI j293_s0_283, vI (own_in4 j293_s0_283 v6 v7 v8 v9 v10 v11 v12 v13), .unset] [(.int j293_s0_283), (.int v6)]) := fun t k => pre296 t (by
      refine XS.istore X296.here hx rfl (hb hby at_309) rfl (l' := #[vI p0, vI p1, vI p2, vI p3, vI p4, vI p5, vI (4 : Int32), vI v6, vI v6, vI v7, vI v8, vI v9, vI v10, vI v11, vI v12, vI v13, vR b244, vI j293_s0_283, vI (own_in4 j293_s0_283 v6 v7 v8 v9 v10 v11 v12 v13), .unset]) rfl ?_
      show Steps p.tables e below (T296.setTop (mkF m 311 #[vI p0, vI p1, vI p2, vI p3, vI p4, vI p5, vI (4 : Int32), vI v6, vI v6, vI v7, vI v8, vI v9, vI v10, vI v11, vI v12, vI v13, vR b244, vI j293_s0_283, vI (own_in4 j293_s0_283 v6 v7 v8 v9 v10 v11 v12 v13), .unset] [])) _
      refine XS.iload X296.here hx rfl (hb hby at_311) rfl ?_
      show Steps p.tables e below (T296.setTop (mkF m 313 #[vI p0, vI p1, vI p2, vI p3, vI p4, vI p5, vI (4 : Int32), vI v6, vI v6, vI v7, vI v8, vI v9, vI v10, vI v11, vI v12, vI v13, vR b244, vI j293_s0_283, vI (own_in4 j293_s0_283 v6 v7 v8 v9 v10 v11 v12 v13), .unset] [(.int (4 : Int32))])) _
      refine XS.ifNo X296.here hx rfl (hb hby at_313) rfl ((if0 _ _).trans (tlt (by decide : (0 : Int32) < (4 : Int32))).2.2.2) ?_
      show Steps p.tables e below (T296.setTop (mkF m 316 #[vI p0, vI p1, vI p2, vI p3, vI p4, vI p5, vI (4 : Int32), vI v6, vI v6, vI v7, vI v8, vI v9, vI v10, vI v11, vI v12, vI v13, vR b244, vI j293_s0_283, vI (own_in4 j293_s0_283 v6 v7 v8 v9 v10 v11 v12 v13), .unset] [])) _
      refine XS.iload X296.here hx rfl (hb hby at_316) rfl ?_
      show Steps p.tables e below (T296.setTop (mkF m 318 #[vI p0, vI p1, vI p2, vI p3, vI p4, vI p5, vI (4 : Int32), vI v6, vI v6, vI v7, vI v8, vI v9, vI v10, vI v11, vI v12, vI v13, vR b244, vI j293_s0_283, vI (own_in4 j293_s0_283 v6 v7 v8 v9 v10 v11 v12 v13), .unset] [(.int v6)])) _
      refine XS.iload X296.here hx rfl (hb hby at_318) rfl ?_
      show Steps p.tables e below (T296.setTop (mkF m 320 #[vI p0, vI p1, vI p2, vI p3, vI p4, vI p5, vI (4 : Int32), vI v6, vI v6, vI v7, vI v8, vI v9, vI v10, vI v11, vI v12, vI v13, vR b244, vI j293_s0_283, vI (own_in4 j293_s0_283 v6 v7 v8 v9 v10 v11 v12 v13), .unset] [(.int j293_s0_283), (.int v6)])) _
      exact k)
    refine cps (A := ∃ (j395_s0_388 : Int32), (j395_s0_388 = own_in4 j293_s0_283 v6 v7 v8 v9 v10 v11 v12 v13) ∧ (Go p.tables e below S0 T296 (mkF m 395 #[vI p0, vI p1, vI p2, vI p3, vI p4, vI p5, vI (4 : Int32), vI v6, vI v6, vI v7, vI v8, vI v9, vI v10, vI v11, vI v12, vI v13, vR b244, vI j293_s0_283, vI (own_in4 j293_s0_283 v6 v7 v8 v9 v10 v11 v12 v13), .unset] [(.int j395_s0_388)]))) (fun tail391 => ?_) ?_
    · skip
      by_cases c320_298 : j293_s0_283 < v6
      · skip
        have pre299 : Go p.tables e below S0 T296 (mkF m 340 #[vI p0, vI p1, vI p2, vI p3, vI p4, vI p5, vI (4 : Int32), vI v6, vI v6, vI v7, vI v8, vI v9, vI v10, vI v11, vI v12, vI v13, vR b244, vI j293_s0_283, vI (own_in4 j293_s0_283 v6 v7 v8 v9 v10 v11 v12 v13), .unset] [(.int j293_s0_283), (.int v8)]) := fun t k => pre297 t (by
          refine XS.icmpYes X296.here hx rfl (pc0 := 320) (pc' := 330) rfl (hb hby at_320) rfl (tlt c320_298).2.2.1 (by decide) (by decide) ?_
          show Steps p.tables e below (T296.setTop (mkF m 330 #[vI p0, vI p1, vI p2, vI p3, vI p4, vI p5, vI (4 : Int32), vI v6, vI v6, vI v7, vI v8, vI v9, vI v10, vI v11, vI v12, vI v13, vR b244, vI j293_s0_283, vI (own_in4 j293_s0_283 v6 v7 v8 v9 v10 v11 v12 v13), .unset] [])) _
          refine XS.iload X296.here hx rfl (hb hby at_330) rfl ?_
          show Steps p.tables e below (T296.setTop (mkF m 332 #[vI p0, vI p1, vI p2, vI p3, vI p4, vI p5, vI (4 : Int32), vI v6, vI v6, vI v7, vI v8, vI v9, vI v10, vI v11, vI v12, vI v13, vR b244, vI j293_s0_283, vI (own_in4 j293_s0_283 v6 v7 v8 v9 v10 v11 v12 v13), .unset] [(.int (4 : Int32))])) _
          refine XS.iconst X296.here hx rfl (hb hby at_332) ?_
          show Steps p.tables e below (T296.setTop (mkF m 333 #[vI p0, vI p1, vI p2, vI p3, vI p4, vI p5, vI (4 : Int32), vI v6, vI v6, vI v7, vI v8, vI v9, vI v10, vI v11, vI v12, vI v13, vR b244, vI j293_s0_283, vI (own_in4 j293_s0_283 v6 v7 v8 v9 v10 v11 v12 v13), .unset] [(.int (1 : Int32)), (.int (4 : Int32))])) _
          refine XS.icmpNo X296.here hx rfl (hb hby at_333) rfl (tlt (by decide : (1 : Int32) < (4 : Int32))).2.2.2 ?_
          show Steps p.tables e below (T296.setTop (mkF m 336 #[vI p0, vI p1, vI p2, vI p3, vI p4, vI p5, vI (4 : Int32), vI v6, vI v6, vI v7, vI v8, vI v9, vI v10, vI v11, vI v12, vI v13, vR b244, vI j293_s0_283, vI (own_in4 j293_s0_283 v6 v7 v8 v9 v10 v11 v12 v13), .unset] [])) _
          refine XS.iload X296.here hx rfl (hb hby at_336) rfl ?_
          show Steps p.tables e below (T296.setTop (mkF m 338 #[vI p0, vI p1, vI p2, vI p3, vI p4, vI p5, vI (4 : Int32), vI v6, vI v6, vI v7, vI v8, vI v9, vI v10, vI v11, vI v12, vI v13, vR b244, vI j293_s0_283, vI (own_in4 j293_s0_283 v6 v7 v8 v9 v10 v11 v12 v13), .unset] [(.int v8)])) _
          refine XS.iload X296.here hx rfl (hb hby at_338) rfl ?_
          show Steps p.tables e below (T296.setTop (mkF m 340 #[vI p0, vI p1, vI p2, vI p3, vI p4, vI p5, vI (4 : Int32), vI v6, vI v6, vI v7, vI v8, vI v9, vI v10, vI v11, vI v12, vI v13, vR b244, vI j293_s0_283, vI (own_in4 j293_s0_283 v6 v7 v8 v9 v10 v11 v12 v13), .unset] [(.int j293_s0_283), (.int v8)])) _
          exact k)
        by_cases c340_300 : j293_s0_283 < v8
        · skip
          have pre301 : Go p.tables e below S0 T296 (mkF m 360 #[vI p0, vI p1, vI p2, vI p3, vI p4, vI p5, vI (4 : Int32), vI v6, vI v6, vI v7, vI v8, vI v9, vI v10, vI v11, vI v12, vI v13, vR b244, vI j293_s0_283, vI (own_in4 j293_s0_283 v6 v7 v8 v9 v10 v11 v12 v13), .unset] [(.int j293_s0_283), (.int v10)]) := fun t k => pre299 t (by
            refine XS.icmpYes X296.here hx rfl (pc0 := 340) (pc' := 350) rfl (hb hby at_340) rfl (tlt c340_300).2.2.1 (by decide) (by decide) ?_
            show Steps p.tables e below (T296.setTop (mkF m 350 #[vI p0, vI p1, vI p2, vI p3, vI p4, vI p5, vI (4 : Int32), vI v6, vI v6, vI v7, vI v8, vI v9, vI v10, vI v11, vI v12, vI v13, vR b244, vI j293_s0_283, vI (own_in4 j293_s0_283 v6 v7 v8 v9 v10 v11 v12 v13), .unset] [])) _
            refine XS.iload X296.here hx rfl (hb hby at_350) rfl ?_
            show Steps p.tables e below (T296.setTop (mkF m 352 #[vI p0, vI p1, vI p2, vI p3, vI p4, vI p5, vI (4 : Int32), vI v6, vI v6, vI v7, vI v8, vI v9, vI v10, vI v11, vI v12, vI v13, vR b244, vI j293_s0_283, vI (own_in4 j293_s0_283 v6 v7 v8 v9 v10 v11 v12 v13), .unset] [(.int (4 : Int32))])) _
            refine XS.iconst X296.here hx rfl (hb hby at_352) ?_
            show Steps p.tables e below (T296.setTop (mkF m 353 #[vI p0, vI p1, vI p2, vI p3, vI p4, vI p5, vI (4 : Int32), vI v6, vI v6, vI v7, vI v8, vI v9, vI v10, vI v11, vI v12, vI v13, vR b244, vI j293_s0_283, vI (own_in4 j293_s0_283 v6 v7 v8 v9 v10 v11 v12 v13), .unset] [(.int (2 : Int32)), (.int (4 : Int32))])) _
            refine XS.icmpNo X296.here hx rfl (hb hby at_353) rfl (tlt (by decide : (2 : Int32) < (4 : Int32))).2.2.2 ?_
            show Steps p.tables e below (T296.setTop (mkF m 356 #[vI p0, vI p1, vI p2, vI p3, vI p4, vI p5, vI (4 : Int32), vI v6, vI v6, vI v7, vI v8, vI v9, vI v10, vI v11, vI v12, vI v13, vR b244, vI j293_s0_283, vI (own_in4 j293_s0_283 v6 v7 v8 v9 v10 v11 v12 v13), .unset] [])) _
            refine XS.iload X296.here hx rfl (hb hby at_356) rfl ?_
            show Steps p.tables e below (T296.setTop (mkF m 358 #[vI p0, vI p1, vI p2, vI p3, vI p4, vI p5, vI (4 : Int32), vI v6, vI v6, vI v7, vI v8, vI v9, vI v10, vI v11, vI v12, vI v13, vR b244, vI j293_s0_283, vI (own_in4 j293_s0_283 v6 v7 v8 v9 v10 v11 v12 v13), .unset] [(.int v10)])) _
            refine XS.iload X296.here hx rfl (hb hby at_358) rfl ?_
            show Steps p.tables e below (T296.setTop (mkF m 360 #[vI p0, vI p1, vI p2, vI p3, vI p4, vI p5, vI (4 : Int32), vI v6, vI v6, vI v7, vI v8, vI v9, vI v10, vI v11, vI v12, vI v13, vR b244, vI j293_s0_283, vI (own_in4 j293_s0_283 v6 v7 v8 v9 v10 v11 v12 v13), .unset] [(.int j293_s0_283), (.int v10)])) _
            exact k)
          by_cases c360_302 : j293_s0_283 < v10
          · skip
            have pre303 : Go p.tables e below S0 T296 (mkF m 380 #[vI p0, vI p1, vI p2, vI p3, vI p4, vI p5, vI (4 : Int32), vI v6, vI v6, vI v7, vI v8, vI v9, vI v10, vI v11, vI v12, vI v13, vR b244, vI j293_s0_283, vI (own_in4 j293_s0_283 v6 v7 v8 v9 v10 v11 v12 v13), .unset] [(.int j293_s0_283), (.int v12)]) := fun t k => pre301 t (by
              refine XS.icmpYes X296.here hx rfl (pc0 := 360) (pc' := 370) rfl (hb hby at_360) rfl (tlt c360_302).2.2.1 (by decide) (by decide) ?_
              show Steps p.tables e below (T296.setTop (mkF m 370 #[vI p0, vI p1, vI p2, vI p3, vI p4, vI p5, vI (4 : Int32), vI v6, vI v6, vI v7, vI v8, vI v9, vI v10, vI v11, vI v12, vI v13, vR b244, vI j293_s0_283, vI (own_in4 j293_s0_283 v6 v7 v8 v9 v10 v11 v12 v13), .unset] [])) _
              refine XS.iload X296.here hx rfl (hb hby at_370) rfl ?_
              show Steps p.tables e below (T296.setTop (mkF m 372 #[vI p0, vI p1, vI p2, vI p3, vI p4, vI p5, vI (4 : Int32), vI v6, vI v6, vI v7, vI v8, vI v9, vI v10, vI v11, vI v12, vI v13, vR b244, vI j293_s0_283, vI (own_in4 j293_s0_283 v6 v7 v8 v9 v10 v11 v12 v13), .unset] [(.int (4 : Int32))])) _
              refine XS.iconst X296.here hx rfl (hb hby at_372) ?_
              show Steps p.tables e below (T296.setTop (mkF m 373 #[vI p0, vI p1, vI p2, vI p3, vI p4, vI p5, vI (4 : Int32), vI v6, vI v6, vI v7, vI v8, vI v9, vI v10, vI v11, vI v12, vI v13, vR b244, vI j293_s0_283, vI (own_in4 j293_s0_283 v6 v7 v8 v9 v10 v11 v12 v13), .unset] [(.int (3 : Int32)), (.int (4 : Int32))])) _
              refine XS.icmpNo X296.here hx rfl (hb hby at_373) rfl (tlt (by decide : (3 : Int32) < (4 : Int32))).2.2.2 ?_
              show Steps p.tables e below (T296.setTop (mkF m 376 #[vI p0, vI p1, vI p2, vI p3, vI p4, vI p5, vI (4 : Int32), vI v6, vI v6, vI v7, vI v8, vI v9, vI v10, vI v11, vI v12, vI v13, vR b244, vI j293_s0_283, vI (own_in4 j293_s0_283 v6 v7 v8 v9 v10 v11 v12 v13), .unset] [])) _
              refine XS.iload X296.here hx rfl (hb hby at_376) rfl ?_
              show Steps p.tables e below (T296.setTop (mkF m 378 #[vI p0, vI p1, vI p2, vI p3, vI p4, vI p5, vI (4 : Int32), vI v6, vI v6, vI v7, vI v8, vI v9, vI v10, vI v11, vI v12, vI v13, vR b244, vI j293_s0_283, vI (own_in4 j293_s0_283 v6 v7 v8 v9 v10 v11 v12 v13), .unset] [(.int v12)])) _
              refine XS.iload X296.here hx rfl (hb hby at_378) rfl ?_
              show Steps p.tables e below (T296.setTop (mkF m 380 #[vI p0, vI p1, vI p2, vI p3, vI p4, vI p5, vI (4 : Int32), vI v6, vI v6, vI v7, vI v8, vI v9, vI v10, vI v11, vI v12, vI v13, vR b244, vI j293_s0_283, vI (own_in4 j293_s0_283 v6 v7 v8 v9 v10 v11 v12 v13), .unset] [(.int j293_s0_283), (.int v12)])) _
              exact k)
            by_cases c380_304 : j293_s0_283 < v12
            · skip
              have pre305 : Go p.tables e below S0 T296 (mkF m 395 #[vI p0, vI p1, vI p2, vI p3, vI p4, vI p5, vI (4 : Int32), vI v6, vI v6, vI v7, vI v8, vI v9, vI v10, vI v11, vI v12, vI v13, vR b244, vI j293_s0_283, vI (own_in4 j293_s0_283 v6 v7 v8 v9 v10 v11 v12 v13), .unset] [(.int (0 : Int32))]) := fun t k => pre303 t (by
                refine XS.icmpYes X296.here hx rfl (pc0 := 380) (pc' := 394) rfl (hb hby at_380) rfl (tlt c380_304).2.2.1 (by decide) (by decide) ?_
                show Steps p.tables e below (T296.setTop (mkF m 394 #[vI p0, vI p1, vI p2, vI p3, vI p4, vI p5, vI (4 : Int32), vI v6, vI v6, vI v7, vI v8, vI v9, vI v10, vI v11, vI v12, vI v13, vR b244, vI j293_s0_283, vI (own_in4 j293_s0_283 v6 v7 v8 v9 v10 v11 v12 v13), .unset] [])) _
                refine XS.iconst X296.here hx rfl (hb hby at_394) ?_
                show Steps p.tables e below (T296.setTop (mkF m 395 #[vI p0, vI p1, vI p2, vI p3, vI p4, vI p5, vI (4 : Int32), vI v6, vI v6, vI v7, vI v8, vI v9, vI v10, vI v11, vI v12, vI v13, vR b244, vI j293_s0_283, vI (own_in4 j293_s0_283 v6 v7 v8 v9 v10 v11 v12 v13), .unset] [(.int (0 : Int32))])) _
                exact k)
              exact tail391 ⟨(0 : Int32), (by simp [own_in4, c320_298, c340_300, c360_302, c380_304]), pre305⟩
            · skip
              have pre306 : Go p.tables e below S0 T296 (mkF m 387 #[vI p0, vI p1, vI p2, vI p3, vI p4, vI p5, vI (4 : Int32), vI v6, vI v6, vI v7, vI v8, vI v9, vI v10, vI v11, vI v12, vI v13, vR b244, vI j293_s0_283, vI (own_in4 j293_s0_283 v6 v7 v8 v9 v10 v11 v12 v13), .unset] [(.int v13), (.int j293_s0_283)]) := fun t k => pre303 t (by
                refine XS.icmpNo X296.here hx rfl (hb hby at_380) rfl (flt c380_304).2.2.1 ?_
                show Steps p.tables e below (T296.setTop (mkF m 383 #[vI p0, vI p1, vI p2, vI p3, vI p4, vI p5, vI (4 : Int32), vI v6, vI v6, vI v7, vI v8, vI v9, vI v10, vI v11, vI v12, vI v13, vR b244, vI j293_s0_283, vI (own_in4 j293_s0_283 v6 v7 v8 v9 v10 v11 v12 v13), .unset] [])) _
                refine XS.iload X296.here hx rfl (hb hby at_383) rfl ?_
                show Steps p.tables e below (T296.setTop (mkF m 385 #[vI p0, vI p1, vI p2, vI p3, vI p4, vI p5, vI (4 : Int32), vI v6, vI v6, vI v7, vI v8, vI v9, vI v10, vI v11, vI v12, vI v13, vR b244, vI j293_s0_283, vI (own_in4 j293_s0_283 v6 v7 v8 v9 v10 v11 v12 v13), .unset] [(.int j293_s0_283)])) _
                refine XS.iload X296.here hx rfl (hb hby at_385) rfl ?_
                show Steps p.tables e below (T296.setTop (mkF m 387 #[vI p0, vI p1, vI p2, vI p3, vI p4, vI p5, vI (4 : Int32), vI v6, vI v6, vI v7, vI v8, vI v9, vI v10, vI v11, vI v12, vI v13, vR b244, vI j293_s0_283, vI (own_in4 j293_s0_283 v6 v7 v8 v9 v10 v11 v12 v13), .unset] [(.int v13), (.int j293_s0_283)])) _
                exact k)
              by_cases c387_307 : v13 < j293_s0_283
              · skip
                have pre308 : Go p.tables e below S0 T296 (mkF m 395 #[vI p0, vI p1, vI p2, vI p3, vI p4, vI p5, vI (4 : Int32), vI v6, vI v6, vI v7, vI v8, vI v9, vI v10, vI v11, vI v12, vI v13, vR b244, vI j293_s0_283, vI (own_in4 j293_s0_283 v6 v7 v8 v9 v10 v11 v12 v13), .unset] [(.int (0 : Int32))]) := fun t k => pre306 t (by
                  refine XS.icmpYes X296.here hx rfl (pc0 := 387) (pc' := 394) rfl (hb hby at_387) rfl (tlt c387_307).2.2.1 (by decide) (by decide) ?_
                  show Steps p.tables e below (T296.setTop (mkF m 394 #[vI p0, vI p1, vI p2, vI p3, vI p4, vI p5, vI (4 : Int32), vI v6, vI v6, vI v7, vI v8, vI v9, vI v10, vI v11, vI v12, vI v13, vR b244, vI j293_s0_283, vI (own_in4 j293_s0_283 v6 v7 v8 v9 v10 v11 v12 v13), .unset] [])) _
                  refine XS.iconst X296.here hx rfl (hb hby at_394) ?_
                  show Steps p.tables e below (T296.setTop (mkF m 395 #[vI p0, vI p1, vI p2, vI p3, vI p4, vI p5, vI (4 : Int32), vI v6, vI v6, vI v7, vI v8, vI v9, vI v10, vI v11, vI v12, vI v13, vR b244, vI j293_s0_283, vI (own_in4 j293_s0_283 v6 v7 v8 v9 v10 v11 v12 v13), .unset] [(.int (0 : Int32))])) _
                  exact k)
                exact tail391 ⟨(0 : Int32), (by simp [own_in4, c320_298, c340_300, c360_302, c380_304, c387_307]), pre308⟩
              · skip
                have pre309 : Go p.tables e below S0 T296 (mkF m 395 #[vI p0, vI p1, vI p2, vI p3, vI p4, vI p5, vI (4 : Int32), vI v6, vI v6, vI v7, vI v8, vI v9, vI v10, vI v11, vI v12, vI v13, vR b244, vI j293_s0_283, vI (own_in4 j293_s0_283 v6 v7 v8 v9 v10 v11 v12 v13), .unset] [(.int (1 : Int32))]) := fun t k => pre306 t (by
                  refine XS.icmpNo X296.here hx rfl (hb hby at_387) rfl (flt c387_307).2.2.1 ?_
                  show Steps p.tables e below (T296.setTop (mkF m 390 #[vI p0, vI p1, vI p2, vI p3, vI p4, vI p5, vI (4 : Int32), vI v6, vI v6, vI v7, vI v8, vI v9, vI v10, vI v11, vI v12, vI v13, vR b244, vI j293_s0_283, vI (own_in4 j293_s0_283 v6 v7 v8 v9 v10 v11 v12 v13), .unset] [])) _
                  refine XS.iconst X296.here hx rfl (hb hby at_390) ?_
                  show Steps p.tables e below (T296.setTop (mkF m 391 #[vI p0, vI p1, vI p2, vI p3, vI p4, vI p5, vI (4 : Int32), vI v6, vI v6, vI v7, vI v8, vI v9, vI v10, vI v11, vI v12, vI v13, vR b244, vI j293_s0_283, vI (own_in4 j293_s0_283 v6 v7 v8 v9 v10 v11 v12 v13), .unset] [(.int (1 : Int32))])) _
                  refine XS.goto X296.here hx rfl (pc0 := 391) (pc' := 395) rfl (hb hby at_391) (by decide) (by decide) ?_
                  show Steps p.tables e below (T296.setTop (mkF m 395 #[vI p0, vI p1, vI p2, vI p3, vI p4, vI p5, vI (4 : Int32), vI v6, vI v6, vI v7, vI v8, vI v9, vI v10, vI v11, vI v12, vI v13, vR b244, vI j293_s0_283, vI (own_in4 j293_s0_283 v6 v7 v8 v9 v10 v11 v12 v13), .unset] [(.int (1 : Int32))])) _
                  exact k)
                exact tail391 ⟨(1 : Int32), (by simp [own_in4, c320_298, c340_300, c360_302, c380_304, c387_307]), pre309⟩
          · skip
            have pre310 : Go p.tables e below S0 T296 (mkF m 367 #[vI p0, vI p1, vI p2, vI p3, vI p4, vI p5, vI (4 : Int32), vI v6, vI v6, vI v7, vI v8, vI v9, vI v10, vI v11, vI v12, vI v13, vR b244, vI j293_s0_283, vI (own_in4 j293_s0_283 v6 v7 v8 v9 v10 v11 v12 v13), .unset] [(.int v11), (.int j293_s0_283)]) := fun t k => pre301 t (by
              refine XS.icmpNo X296.here hx rfl (hb hby at_360) rfl (flt c360_302).2.2.1 ?_
              show Steps p.tables e below (T296.setTop (mkF m 363 #[vI p0, vI p1, vI p2, vI p3, vI p4, vI p5, vI (4 : Int32), vI v6, vI v6, vI v7, vI v8, vI v9, vI v10, vI v11, vI v12, vI v13, vR b244, vI j293_s0_283, vI (own_in4 j293_s0_283 v6 v7 v8 v9 v10 v11 v12 v13), .unset] [])) _
              refine XS.iload X296.here hx rfl (hb hby at_363) rfl ?_
              show Steps p.tables e below (T296.setTop (mkF m 365 #[vI p0, vI p1, vI p2, vI p3, vI p4, vI p5, vI (4 : Int32), vI v6, vI v6, vI v7, vI v8, vI v9, vI v10, vI v11, vI v12, vI v13, vR b244, vI j293_s0_283, vI (own_in4 j293_s0_283 v6 v7 v8 v9 v10 v11 v12 v13), .unset] [(.int j293_s0_283)])) _
              refine XS.iload X296.here hx rfl (hb hby at_365) rfl ?_
              show Steps p.tables e below (T296.setTop (mkF m 367 #[vI p0, vI p1, vI p2, vI p3, vI p4, vI p5, vI (4 : Int32), vI v6, vI v6, vI v7, vI v8, vI v9, vI v10, vI v11, vI v12, vI v13, vR b244, vI j293_s0_283, vI (own_in4 j293_s0_283 v6 v7 v8 v9 v10 v11 v12 v13), .unset] [(.int v11), (.int j293_s0_283)])) _
              exact k)
            by_cases c367_311 : v11 < j293_s0_283
            · skip
              have pre312 : Go p.tables e below S0 T296 (mkF m 380 #[vI p0, vI p1, vI p2, vI p3, vI p4, vI p5, vI (4 : Int32), vI v6, vI v6, vI v7, vI v8, vI v9, vI v10, vI v11, vI v12, vI v13, vR b244, vI j293_s0_283, vI (own_in4 j293_s0_283 v6 v7 v8 v9 v10 v11 v12 v13), .unset] [(.int j293_s0_283), (.int v12)]) := fun t k => pre310 t (by
                refine XS.icmpNo X296.here hx rfl (hb hby at_367) rfl (tlt c367_311).2.2.2 ?_
                show Steps p.tables e below (T296.setTop (mkF m 370 #[vI p0, vI p1, vI p2, vI p3, vI p4, vI p5, vI (4 : Int32), vI v6, vI v6, vI v7, vI v8, vI v9, vI v10, vI v11, vI v12, vI v13, vR b244, vI j293_s0_283, vI (own_in4 j293_s0_283 v6 v7 v8 v9 v10 v11 v12 v13), .unset] [])) _
                refine XS.iload X296.here hx rfl (hb hby at_370) rfl ?_
                show Steps p.tables e below (T296.setTop (mkF m 372 #[vI p0, vI p1, vI p2, vI p3, vI p4, vI p5, vI (4 : Int32), vI v6, vI v6, vI v7, vI v8, vI v9, vI v10, vI v11, vI v12, vI v13, vR b244, vI j293_s0_283, vI (own_in4 j293_s0_283 v6 v7 v8 v9 v10 v11 v12 v13), .unset] [(.int (4 : Int32))])) _
                refine XS.iconst X296.here hx rfl (hb hby at_372) ?_
                show Steps p.tables e below (T296.setTop (mkF m 373 #[vI p0, vI p1, vI p2, vI p3, vI p4, vI p5, vI (4 : Int32), vI v6, vI v6, vI v7, vI v8, vI v9, vI v10, vI v11, vI v12, vI v13, vR b244, vI j293_s0_283, vI (own_in4 j293_s0_283 v6 v7 v8 v9 v10 v11 v12 v13), .unset] [(.int (3 : Int32)), (.int (4 : Int32))])) _
                refine XS.icmpNo X296.here hx rfl (hb hby at_373) rfl (tlt (by decide : (3 : Int32) < (4 : Int32))).2.2.2 ?_
                show Steps p.tables e below (T296.setTop (mkF m 376 #[vI p0, vI p1, vI p2, vI p3, vI p4, vI p5, vI (4 : Int32), vI v6, vI v6, vI v7, vI v8, vI v9, vI v10, vI v11, vI v12, vI v13, vR b244, vI j293_s0_283, vI (own_in4 j293_s0_283 v6 v7 v8 v9 v10 v11 v12 v13), .unset] [])) _
                refine XS.iload X296.here hx rfl (hb hby at_376) rfl ?_
                show Steps p.tables e below (T296.setTop (mkF m 378 #[vI p0, vI p1, vI p2, vI p3, vI p4, vI p5, vI (4 : Int32), vI v6, vI v6, vI v7, vI v8, vI v9, vI v10, vI v11, vI v12, vI v13, vR b244, vI j293_s0_283, vI (own_in4 j293_s0_283 v6 v7 v8 v9 v10 v11 v12 v13), .unset] [(.int v12)])) _
                refine XS.iload X296.here hx rfl (hb hby at_378) rfl ?_
                show Steps p.tables e below (T296.setTop (mkF m 380 #[vI p0, vI p1, vI p2, vI p3, vI p4, vI p5, vI (4 : Int32), vI v6, vI v6, vI v7, vI v8, vI v9, vI v10, vI v11, vI v12, vI v13, vR b244, vI j293_s0_283, vI (own_in4 j293_s0_283 v6 v7 v8 v9 v10 v11 v12 v13), .unset] [(.int j293_s0_283), (.int v12)])) _
                exact k)
              by_cases c380_313 : j293_s0_283 < v12
              · skip
                have pre314 : Go p.tables e below S0 T296 (mkF m 395 #[vI p0, vI p1, vI p2, vI p3, vI p4, vI p5, vI (4 : Int32), vI v6, vI v6, vI v7, vI v8, vI v9, vI v10, vI v11, vI v12, vI v13, vR b244, vI j293_s0_283, vI (own_in4 j293_s0_283 v6 v7 v8 v9 v10 v11 v12 v13), .unset] [(.int (0 : Int32))]) := fun t k => pre312 t (by
                  refine XS.icmpYes X296.here hx rfl (pc0 := 380) (pc' := 394) rfl (hb hby at_380) rfl (tlt c380_313).2.2.1 (by decide) (by decide) ?_
                  show Steps p.tables e below (T296.setTop (mkF m 394 #[vI p0, vI p1, vI p2, vI p3, vI p4, vI p5, vI (4 : Int32), vI v6, vI v6, vI v7, vI v8, vI v9, vI v10, vI v11, vI v12, vI v13, vR b244, vI j293_s0_283, vI (own_in4 j293_s0_283 v6 v7 v8 v9 v10 v11 v12 v13), .unset] [])) _
                  refine XS.iconst X296.here hx rfl (hb hby at_394) ?_
                  show Steps p.tables e below (T296.setTop (mkF m 395 #[vI p0, vI p1, vI p2, vI p3, vI p4, vI p5, vI (4 : Int32), vI v6, vI v6, vI v7, vI v8, vI v9, vI v10, vI v11, vI v12, vI v13, vR b244, vI j293_s0_283, vI (own_in4 j293_s0_283 v6 v7 v8 v9 v10 v11 v12 v13), .unset] [(.int (0 : Int32))])) _
                  exact k)
                exact tail391 ⟨(0 : Int32), (by simp [own_in4, c320_298, c340_300, c360_302, c367_311, c380_313]), pre314⟩
              · skip
                have pre315 : Go p.tables e below S0 T296 (mkF m 387 #[vI p0, vI p1, vI p2, vI p3, vI p4, vI p5, vI (4 : Int32), vI v6, vI v6, vI v7, vI v8, vI v9, vI v10, vI v11, vI v12, vI v13, vR b244, vI j293_s0_283, vI (own_in4 j293_s0_283 v6 v7 v8 v9 v10 v11 v12 v13), .unset] [(.int v13), (.int j293_s0_283)]) := fun t k => pre312 t (by
                  refine XS.icmpNo X296.here hx rfl (hb hby at_380) rfl (flt c380_313).2.2.1 ?_
                  show Steps p.tables e below (T296.setTop (mkF m 383 #[vI p0, vI p1, vI p2, vI p3, vI p4, vI p5, vI (4 : Int32), vI v6, vI v6, vI v7, vI v8, vI v9, vI v10, vI v11, vI v12, vI v13, vR b244, vI j293_s0_283, vI (own_in4 j293_s0_283 v6 v7 v8 v9 v10 v11 v12 v13), .unset] [])) _
                  refine XS.iload X296.here hx rfl (hb hby at_383) rfl ?_
                  show Steps p.tables e below (T296.setTop (mkF m 385 #[vI p0, vI p1, vI p2, vI p3, vI p4, vI p5, vI (4 : Int32), vI v6, vI v6, vI v7, vI v8, vI v9, vI v10, vI v11, vI v12, vI v13, vR b244, vI j293_s0_283, vI (own_in4 j293_s0_283 v6 v7 v8 v9 v10 v11 v12 v13), .unset] [(.int j293_s0_283)])) _
                  refine XS.iload X296.here hx rfl (hb hby at_385) rfl ?_
                  show Steps p.tables e below (T296.setTop (mkF m 387 #[vI p0, vI p1, vI p2, vI p3, vI p4, vI p5, vI (4 : Int32), vI v6, vI v6, vI v7, vI v8, vI v9, vI v10, vI v11, vI v12, vI v13, vR b244, vI j293_s0_283, vI (own_in4 j293_s0_283 v6 v7 v8 v9 v10 v11 v12 v13), .unset] [(.int v13), (.int j293_s0_283)])) _
                  exact k)
                by_cases c387_316 : v13 < j293_s0_283
                · skip
                  have pre317 : Go p.tables e below S0 T296 (mkF m 395 #[vI p0, vI p1, vI p2, vI p3, vI p4, vI p5, vI (4 : Int32), vI v6, vI v6, vI v7, vI v8, vI v9, vI v10, vI v11, vI v12, vI v13, vR b244, vI j293_s0_283, vI (own_in4 j293_s0_283 v6 v7 v8 v9 v10 v11 v12 v13), .unset] [(.int (0 : Int32))]) := fun t k => pre315 t (by
                    refine XS.icmpYes X296.here hx rfl (pc0 := 387) (pc' := 394) rfl (hb hby at_387) rfl (tlt c387_316).2.2.1 (by decide) (by decide) ?_
                    show Steps p.tables e below (T296.setTop (mkF m 394 #[vI p0, vI p1, vI p2, vI p3, vI p4, vI p5, vI (4 : Int32), vI v6, vI v6, vI v7, vI v8, vI v9, vI v10, vI v11, vI v12, vI v13, vR b244, vI j293_s0_283, vI (own_in4 j293_s0_283 v6 v7 v8 v9 v10 v11 v12 v13), .unset] [])) _
                    refine XS.iconst X296.here hx rfl (hb hby at_394) ?_
                    show Steps p.tables e below (T296.setTop (mkF m 395 #[vI p0, vI p1, vI p2, vI p3, vI p4, vI p5, vI (4 : Int32), vI v6, vI v6, vI v7, vI v8, vI v9, vI v10, vI v11, vI v12, vI v13, vR b244, vI j293_s0_283, vI (own_in4 j293_s0_283 v6 v7 v8 v9 v10 v11 v12 v13), .unset] [(.int (0 : Int32))])) _
                    exact k)
                  exact tail391 ⟨(0 : Int32), (by simp [own_in4, c320_298, c340_300, c360_302, c367_311, c380_313, c387_316]), pre317⟩
                · skip
                  have pre318 : Go p.tables e below S0 T296 (mkF m 395 #[vI p0, vI p1, vI p2, vI p3, vI p4, vI p5, vI (4 : Int32), vI v6, vI v6, vI v7, vI v8, vI v9, vI v10, vI v11, vI v12, vI v13, vR b244, vI j293_s0_283, vI (own_in4 j293_s0_283 v6 v7 v8 v9 v10 v11 v12 v13), .unset] [(.int (1 : Int32))]) := fun t k => pre315 t (by
                    refine XS.icmpNo X296.here hx rfl (hb hby at_387) rfl (flt c387_316).2.2.1 ?_
                    show Steps p.tables e below (T296.setTop (mkF m 390 #[vI p0, vI p1, vI p2, vI p3, vI p4, vI p5, vI (4 : Int32), vI v6, vI v6, vI v7, vI v8, vI v9, vI v10, vI v11, vI v12, vI v13, vR b244, vI j293_s0_283, vI (own_in4 j293_s0_283 v6 v7 v8 v9 v10 v11 v12 v13), .unset] [])) _
                    refine XS.iconst X296.here hx rfl (hb hby at_390) ?_
                    show Steps p.tables e below (T296.setTop (mkF m 391 #[vI p0, vI p1, vI p2, vI p3, vI p4, vI p5, vI (4 : Int32), vI v6, vI v6, vI v7, vI v8, vI v9, vI v10, vI v11, vI v12, vI v13, vR b244, vI j293_s0_283, vI (own_in4 j293_s0_283 v6 v7 v8 v9 v10 v11 v12 v13), .unset] [(.int (1 : Int32))])) _
                    refine XS.goto X296.here hx rfl (pc0 := 391) (pc' := 395) rfl (hb hby at_391) (by decide) (by decide) ?_
                    show Steps p.tables e below (T296.setTop (mkF m 395 #[vI p0, vI p1, vI p2, vI p3, vI p4, vI p5, vI (4 : Int32), vI v6, vI v6, vI v7, vI v8, vI v9, vI v10, vI v11, vI v12, vI v13, vR b244, vI j293_s0_283, vI (own_in4 j293_s0_283 v6 v7 v8 v9 v10 v11 v12 v13), .unset] [(.int (1 : Int32))])) _
                    exact k)
                  exact tail391 ⟨(1 : Int32), (by simp [own_in4, c320_298, c340_300, c360_302, c367_311, c380_313, c387_316]), pre318⟩
            · skip
              have pre319 : Go p.tables e below S0 T296 (mkF m 395 #[vI p0, vI p1, vI p2, vI p3, vI p4, vI p5, vI (4 : Int32), vI v6, vI v6, vI v7, vI v8, vI v9, vI v10, vI v11, vI v12, vI v13, vR b244, vI j293_s0_283, vI (own_in4 j293_s0_283 v6 v7 v8 v9 v10 v11 v12 v13), .unset] [(.int (1 : Int32))]) := fun t k => pre310 t (by
                refine XS.icmpYes X296.here hx rfl (pc0 := 367) (pc' := 390) rfl (hb hby at_367) rfl (flt c367_311).2.2.2 (by decide) (by decide) ?_
                show Steps p.tables e below (T296.setTop (mkF m 390 #[vI p0, vI p1, vI p2, vI p3, vI p4, vI p5, vI (4 : Int32), vI v6, vI v6, vI v7, vI v8, vI v9, vI v10, vI v11, vI v12, vI v13, vR b244, vI j293_s0_283, vI (own_in4 j293_s0_283 v6 v7 v8 v9 v10 v11 v12 v13), .unset] [])) _
                refine XS.iconst X296.here hx rfl (hb hby at_390) ?_
                show Steps p.tables e below (T296.setTop (mkF m 391 #[vI p0, vI p1, vI p2, vI p3, vI p4, vI p5, vI (4 : Int32), vI v6, vI v6, vI v7, vI v8, vI v9, vI v10, vI v11, vI v12, vI v13, vR b244, vI j293_s0_283, vI (own_in4 j293_s0_283 v6 v7 v8 v9 v10 v11 v12 v13), .unset] [(.int (1 : Int32))])) _
                refine XS.goto X296.here hx rfl (pc0 := 391) (pc' := 395) rfl (hb hby at_391) (by decide) (by decide) ?_
                show Steps p.tables e below (T296.setTop (mkF m 395 #[vI p0, vI p1, vI p2, vI p3, vI p4, vI p5, vI (4 : Int32), vI v6, vI v6, vI v7, vI v8, vI v9, vI v10, vI v11, vI v12, vI v13, vR b244, vI j293_s0_283, vI (own_in4 j293_s0_283 v6 v7 v8 v9 v10 v11 v12 v13), .unset] [(.int (1 : Int32))])) _
                exact k)
              exact tail391 ⟨(1 : Int32), (by simp [own_in4, c320_298, c340_300, c360_302, c367_311]), pre319⟩
        · skip
          have pre320 : Go p.tables e below S0 T296 (mkF m 347 #[vI p0, vI p1, vI p2, vI p3, vI p4, vI p5, vI (4 : Int32), vI v6, vI v6, vI v7, vI v8, vI v9, vI v10, vI v11, vI v12, vI v13, vR b244, vI j293_s0_283, vI (own_in4 j293_s0_283 v6 v7 v8 v9 v10 v11 v12 v13), .unset] [(.int v9), (.int j293_s0_283)]) := fun t k => pre299 t (by
            refine XS.icmpNo X296.here hx rfl (hb hby at_340) rfl (flt c340_300).2.2.1 ?_
            show Steps p.tables e below (T296.setTop (mkF m 343 #[vI p0, vI p1, vI p2, vI p3, vI p4, vI p5, vI (4 : Int32), vI v6, vI v6, vI v7, vI v8, vI v9, vI v10, vI v11, vI v12, vI v13, vR b244, vI j293_s0_283, vI (own_in4 j293_s0_283 v6 v7 v8 v9 v10 v11 v12 v13), .unset] [])) _
            refine XS.iload X296.here hx rfl (hb hby at_343) rfl ?_
            show Steps p.tables e below (T296.setTop (mkF m 345 #[vI p0, vI p1, vI p2, vI p3, vI p4, vI p5, vI (4 : Int32), vI v6, vI v6, vI v7, vI v8, vI v9, vI v10, vI v11, vI v12, vI v13, vR b244, vI j293_s0_283, vI (own_in4 j293_s0_283 v6 v7 v8 v9 v10 v11 v12 v13), .unset] [(.int j293_s0_283)])) _
            refine XS.iload X296.here hx rfl (hb hby at_345) rfl ?_
            show Steps p.tables e below (T296.setTop (mkF m 347 #[vI p0, vI p1, vI p2, vI p3, vI p4, vI p5, vI (4 : Int32), vI v6, vI v6, vI v7, vI v8, vI v9, vI v10, vI v11, vI v12, vI v13, vR b244, vI j293_s0_283, vI (own_in4 j293_s0_283 v6 v7 v8 v9 v10 v11 v12 v13), .unset] [(.int v9), (.int j293_s0_283)])) _
            exact k)
          by_cases c347_321 : v9 < j293_s0_283
          · skip
            have pre322 : Go p.tables e below S0 T296 (mkF m 360 #[vI p0, vI p1, vI p2, vI p3, vI p4, vI p5, vI (4 : Int32), vI v6, vI v6, vI v7, vI v8, vI v9, vI v10, vI v11, vI v12, vI v13, vR b244, vI j293_s0_283, vI (own_in4 j293_s0_283 v6 v7 v8 v9 v10 v11 v12 v13), .unset] [(.int j293_s0_283), (.int v10)]) := fun t k => pre320 t (by
              refine XS.icmpNo X296.here hx rfl (hb hby at_347) rfl (tlt c347_321).2.2.2 ?_
              show Steps p.tables e below (T296.setTop (mkF m 350 #[vI p0, vI p1, vI p2, vI p3, vI p4, vI p5, vI (4 : Int32), vI v6, vI v6, vI v7, vI v8, vI v9, vI v10, vI v11, vI v12, vI v13, vR b244, vI j293_s0_283, vI (own_in4 j293_s0_283 v6 v7 v8 v9 v10 v11 v12 v13), .unset] [])) _
              refine XS.iload X296.here hx rfl (hb hby at_350) rfl ?_
              show Steps p.tables e below (T296.setTop (mkF m 352 #[vI p0, vI p1, vI p2, vI p3, vI p4, vI p5, vI (4 : Int32), vI v6, vI v6, vI v7, vI v8, vI v9, vI v10, vI v11, vI v12, vI v13, vR b244, vI j293_s0_283, vI (own_in4 j293_s0_283 v6 v7 v8 v9 v10 v11 v12 v13), .unset] [(.int (4 : Int32))])) _
              refine XS.iconst X296.here hx rfl (hb hby at_352) ?_
              show Steps p.tables e below (T296.setTop (mkF m 353 #[vI p0, vI p1, vI p2, vI p3, vI p4, vI p5, vI (4 : Int32), vI v6, vI v6, vI v7, vI v8, vI v9, vI v10, vI v11, vI v12, vI v13, vR b244, vI j293_s0_283, vI (own_in4 j293_s0_283 v6 v7 v8 v9 v10 v11 v12 v13), .unset] [(.int (2 : Int32)), (.int (4 : Int32))])) _
              refine XS.icmpNo X296.here hx rfl (hb hby at_353) rfl (tlt (by decide : (2 : Int32) < (4 : Int32))).2.2.2 ?_
              show Steps p.tables e below (T296.setTop (mkF m 356 #[vI p0, vI p1, vI p2, vI p3, vI p4, vI p5, vI (4 : Int32), vI v6, vI v6, vI v7, vI v8, vI v9, vI v10, vI v11, vI v12, vI v13, vR b244, vI j293_s0_283, vI (own_in4 j293_s0_283 v6 v7 v8 v9 v10 v11 v12 v13), .unset] [])) _
              refine XS.iload X296.here hx rfl (hb hby at_356) rfl ?_
              show Steps p.tables e below (T296.setTop (mkF m 358 #[vI p0, vI p1, vI p2, vI p3, vI p4, vI p5, vI (4 : Int32), vI v6, vI v6, vI v7, vI v8, vI v9, vI v10, vI v11, vI v12, vI v13, vR b244, vI j293_s0_283, vI (own_in4 j293_s0_283 v6 v7 v8 v9 v10 v11 v12 v13), .unset] [(.int v10)])) _
              refine XS.iload X296.here hx rfl (hb hby at_358) rfl ?_
              show Steps p.tables e below (T296.setTop (mkF m 360 #[vI p0, vI p1, vI p2, vI p3, vI p4, vI p5, vI (4 : Int32), vI v6, vI v6, vI v7, vI v8, vI v9, vI v10, vI v11, vI v12, vI v13, vR b244, vI j293_s0_283, vI (own_in4 j293_s0_283 v6 v7 v8 v9 v10 v11 v12 v13), .unset] [(.int j293_s0_283), (.int v10)])) _
              exact k)
            by_cases c360_323 : j293_s0_283 < v10
            · skip
              have pre324 : Go p.tables e below S0 T296 (mkF m 380 #[vI p0, vI p1, vI p2, vI p3, vI p4, vI p5, vI (4 : Int32), vI v6, vI v6, vI v7, vI v8, vI v9, vI v10, vI v11, vI v12, vI v13, vR b244, vI j293_s0_283, vI (own_in4 j293_s0_283 v6 v7 v8 v9 v10 v11 v12 v13), .unset] [(.int j293_s0_283), (.int v12)]) := fun t k => pre322 t (by
                refine XS.icmpYes X296.here hx rfl (pc0 := 360) (pc' := 370) rfl (hb hby at_360) rfl (tlt c360_323).2.2.1 (by decide) (by decide) ?_
                show Steps p.tables e below (T296.setTop (mkF m 370 #[vI p0, vI p1, vI p2, vI p3, vI p4, vI p5, vI (4 : Int32), vI v6, vI v6, vI v7, vI v8, vI v9, vI v10, vI v11, vI v12, vI v13, vR b244, vI j293_s0_283, vI (own_in4 j293_s0_283 v6 v7 v8 v9 v10 v11 v12 v13), .unset] [])) _
                refine XS.iload X296.here hx rfl (hb hby at_370) rfl ?_
                show Steps p.tables e below (T296.setTop (mkF m 372 #[vI p0, vI p1, vI p2, vI p3, vI p4, vI p5, vI (4 : Int32), vI v6, vI v6, vI v7, vI v8, vI v9, vI v10, vI v11, vI v12, vI v13, vR b244, vI j293_s0_283, vI (own_in4 j293_s0_283 v6 v7 v8 v9 v10 v11 v12 v13), .unset] [(.int (4 : Int32))])) _
                refine XS.iconst X296.here hx rfl (hb hby at_372) ?_
                show Steps p.tables e below (T296.setTop (mkF m 373 #[vI p0, vI p1, vI p2, vI p3, vI p4, vI p5, vI (4 : Int32), vI v6, vI v6, vI v7, vI v8, vI v9, vI v10, vI v11, vI v12, vI v13, vR b244, vI j293_s0_283, vI (own_in4 j293_s0_283 v6 v7 v8 v9 v10 v11 v12 v13), .unset] [(.int (3 : Int32)), (.int (4 : Int32))])) _
                refine XS.icmpNo X296.here hx rfl (hb hby at_373) rfl (tlt (by decide : (3 : Int32) < (4 : Int32))).2.2.2 ?_
                show Steps p.tables e below (T296.setTop (mkF m 376 #[vI p0, vI p1, vI p2, vI p3, vI p4, vI p5, vI (4 : Int32), vI v6, vI v6, vI v7, vI v8, vI v9, vI v10, vI v11, vI v12, vI v13, vR b244, vI j293_s0_283, vI (own_in4 j293_s0_283 v6 v7 v8 v9 v10 v11 v12 v13), .unset] [])) _
                refine XS.iload X296.here hx rfl (hb hby at_376) rfl ?_
                show Steps p.tables e below (T296.setTop (mkF m 378 #[vI p0, vI p1, vI p2, vI p3, vI p4, vI p5, vI (4 : Int32), vI v6, vI v6, vI v7, vI v8, vI v9, vI v10, vI v11, vI v12, vI v13, vR b244, vI j293_s0_283, vI (own_in4 j293_s0_283 v6 v7 v8 v9 v10 v11 v12 v13), .unset] [(.int v12)])) _
                refine XS.iload X296.here hx rfl (hb hby at_378) rfl ?_
                show Steps p.tables e below (T296.setTop (mkF m 380 #[vI p0, vI p1, vI p2, vI p3, vI p4, vI p5, vI (4 : Int32), vI v6, vI v6, vI v7, vI v8, vI v9, vI v10, vI v11, vI v12, vI v13, vR b244, vI j293_s0_283, vI (own_in4 j293_s0_283 v6 v7 v8 v9 v10 v11 v12 v13), .unset] [(.int j293_s0_283), (.int v12)])) _
                exact k)
              by_cases c380_325 : j293_s0_283 < v12
              · skip
                have pre326 : Go p.tables e below S0 T296 (mkF m 395 #[vI p0, vI p1, vI p2, vI p3, vI p4, vI p5, vI (4 : Int32), vI v6, vI v6, vI v7, vI v8, vI v9, vI v10, vI v11, vI v12, vI v13, vR b244, vI j293_s0_283, vI (own_in4 j293_s0_283 v6 v7 v8 v9 v10 v11 v12 v13), .unset] [(.int (0 : Int32))]) := fun t k => pre324 t (by
                  refine XS.icmpYes X296.here hx rfl (pc0 := 380) (pc' := 394) rfl (hb hby at_380) rfl (tlt c380_325).2.2.1 (by decide) (by decide) ?_
                  show Steps p.tables e below (T296.setTop (mkF m 394 #[vI p0, vI p1, vI p2, vI p3, vI p4, vI p5, vI (4 : Int32), vI v6, vI v6, vI v7, vI v8, vI v9, vI v10, vI v11, vI v12, vI v13, vR b244, vI j293_s0_283, vI (own_in4 j293_s0_283 v6 v7 v8 v9 v10 v11 v12 v13), .unset] [])) _
                  refine XS.iconst X296.here hx rfl (hb hby at_394) ?_
                  show Steps p.tables e below (T296.setTop (mkF m 395 #[vI p0, vI p1, vI p2, vI p3, vI p4, vI p5, vI (4 : Int32), vI v6, vI v6, vI v7, vI v8, vI v9, vI v10, vI v11, vI v12, vI v13, vR b244, vI j293_s0_283, vI (own_in4 j293_s0_283 v6 v7 v8 v9 v10 v11 v12 v13), .unset] [(.int (0 : Int32))])) _
                  exact k)
                exact tail391 ⟨(0 : Int32), (by simp [own_in4, c320_298, c340_300, c347_321, c360_323, c380_325]), pre326⟩
              · skip
                have pre327 : Go p.tables e below S0 T296 (mkF m 387 #[vI p0, vI p1, vI p2, vI p3, vI p4, vI p5, vI (4 : Int32), vI v6, vI v6, vI v7, vI v8, vI v9, vI v10, vI v11, vI v12, vI v13, vR b244, vI j293_s0_283, vI (own_in4 j293_s0_283 v6 v7 v8 v9 v10 v11 v12 v13), .unset] [(.int v13), (.int j293_s0_283)]) := fun t k => pre324 t (by
                  refine XS.icmpNo X296.here hx rfl (hb hby at_380) rfl (flt c380_325).2.2.1 ?_
                  show Steps p.tables e below (T296.setTop (mkF m 383 #[vI p0, vI p1, vI p2, vI p3, vI p4, vI p5, vI (4 : Int32), vI v6, vI v6, vI v7, vI v8, vI v9, vI v10, vI v11, vI v12, vI v13, vR b244, vI j293_s0_283, vI (own_in4 j293_s0_283 v6 v7 v8 v9 v10 v11 v12 v13), .unset] [])) _
                  refine XS.iload X296.here hx rfl (hb hby at_383) rfl ?_
                  show Steps p.tables e below (T296.setTop (mkF m 385 #[vI p0, vI p1, vI p2, vI p3, vI p4, vI p5, vI (4 : Int32), vI v6, vI v6, vI v7, vI v8, vI v9, vI v10, vI v11, vI v12, vI v13, vR b244, vI j293_s0_283, vI (own_in4 j293_s0_283 v6 v7 v8 v9 v10 v11 v12 v13), .unset] [(.int j293_s0_283)])) _
                  refine XS.iload X296.here hx rfl (hb hby at_385) rfl ?_
                  show Steps p.tables e below (T296.setTop (mkF m 387 #[vI p0, vI p1, vI p2, vI p3, vI p4, vI p5, vI (4 : Int32), vI v6, vI v6, vI v7, vI v8, vI v9, vI v10, vI v11, vI v12, vI v13, vR b244, vI j293_s0_283, vI (own_in4 j293_s0_283 v6 v7 v8 v9 v10 v11 v12 v13), .unset] [(.int v13), (.int j293_s0_283)])) _
                  exact k)
                by_cases c387_328 : v13 < j293_s0_283
                · skip
                  have pre329 : Go p.tables e below S0 T296 (mkF m 395 #[vI p0, vI p1, vI p2, vI p3, vI p4, vI p5, vI (4 : Int32), vI v6, vI v6, vI v7, vI v8, vI v9, vI v10, vI v11, vI v12, vI v13, vR b244, vI j293_s0_283, vI (own_in4 j293_s0_283 v6 v7 v8 v9 v10 v11 v12 v13), .unset] [(.int (0 : Int32))]) := fun t k => pre327 t (by
                    refine XS.icmpYes X296.here hx rfl (pc0 := 387) (pc' := 394) rfl (hb hby at_387) rfl (tlt c387_328).2.2.1 (by decide) (by decide) ?_
                    show Steps p.tables e below (T296.setTop (mkF m 394 #[vI p0, vI p1, vI p2, vI p3, vI p4, vI p5, vI (4 : Int32), vI v6, vI v6, vI v7, vI v8, vI v9, vI v10, vI v11, vI v12, vI v13, vR b244, vI j293_s0_283, vI (own_in4 j293_s0_283 v6 v7 v8 v9 v10 v11 v12 v13), .unset] [])) _
                    refine XS.iconst X296.here hx rfl (hb hby at_394) ?_
                    show Steps p.tables e below (T296.setTop (mkF m 395 #[vI p0, vI p1, vI p2, vI p3, vI p4, vI p5, vI (4 : Int32), vI v6, vI v6, vI v7, vI v8, vI v9, vI v10, vI v11, vI v12, vI v13, vR b244, vI j293_s0_283, vI (own_in4 j293_s0_283 v6 v7 v8 v9 v10 v11 v12 v13), .unset] [(.int (0 : Int32))])) _
                    exact k)
                  exact tail391 ⟨(0 : Int32), (by simp [own_in4, c320_298, c340_300, c347_321, c360_323, c380_325, c387_328]), pre329⟩
                · skip
                  have pre330 : Go p.tables e below S0 T296 (mkF m 395 #[vI p0, vI p1, vI p2, vI p3, vI p4, vI p5, vI (4 : Int32), vI v6, vI v6, vI v7, vI v8, vI v9, vI v10, vI v11, vI v12, vI v13, vR b244, vI j293_s0_283, vI (own_in4 j293_s0_283 v6 v7 v8 v9 v10 v11 v12 v13), .unset] [(.int (1 : Int32))]) := fun t k => pre327 t (by
                    refine XS.icmpNo X296.here hx rfl (hb hby at_387) rfl (flt c387_328).2.2.1 ?_
                    show Steps p.tables e below (T296.setTop (mkF m 390 #[vI p0, vI p1, vI p2, vI p3, vI p4, vI p5, vI (4 : Int32), vI v6, vI v6, vI v7, vI v8, vI v9, vI v10, vI v11, vI v12, vI v13, vR b244, vI j293_s0_283, vI (own_in4 j293_s0_283 v6 v7 v8 v9 v10 v11 v12 v13), .unset] [])) _
                    refine XS.iconst X296.here hx rfl (hb hby at_390) ?_
                    show Steps p.tables e below (T296.setTop (mkF m 391 #[vI p0, vI p1, vI p2, vI p3, vI p4, vI p5, vI (4 : Int32), vI v6, vI v6, vI v7, vI v8, vI v9, vI v10, vI v11, vI v12, vI v13, vR b244, vI j293_s0_283, vI (own_in4 j293_s0_283 v6 v7 v8 v9 v10 v11 v12 v13), .unset] [(.int (1 : Int32))])) _
                    refine XS.goto X296.here hx rfl (pc0 := 391) (pc' := 395) rfl (hb hby at_391) (by decide) (by decide) ?_
                    show Steps p.tables e below (T296.setTop (mkF m 395 #[vI p0, vI p1, vI p2, vI p3, vI p4, vI p5, vI (4 : Int32), vI v6, vI v6, vI v7, vI v8, vI v9, vI v10, vI v11, vI v12, vI v13, vR b244, vI j293_s0_283, vI (own_in4 j293_s0_283 v6 v7 v8 v9 v10 v11 v12 v13), .unset] [(.int (1 : Int32))])) _
                    exact k)
                  exact tail391 ⟨(1 : Int32), (by simp [own_in4, c320_298, c340_300, c347_321, c360_323, c380_325, c387_328]), pre330⟩
            · skip
              have pre331 : Go p.tables e below S0 T296 (mkF m 367 #[vI p0, vI p1, vI p2, vI p3, vI p4, vI p5, vI (4 : Int32), vI v6, vI v6, vI v7, vI v8, vI v9, vI v10, vI v11, vI v12, vI v13, vR b244, vI j293_s0_283, vI (own_in4 j293_s0_283 v6 v7 v8 v9 v10 v11 v12 v13), .unset] [(.int v11), (.int j293_s0_283)]) := fun t k => pre322 t (by
                refine XS.icmpNo X296.here hx rfl (hb hby at_360) rfl (flt c360_323).2.2.1 ?_
                show Steps p.tables e below (T296.setTop (mkF m 363 #[vI p0, vI p1, vI p2, vI p3, vI p4, vI p5, vI (4 : Int32), vI v6, vI v6, vI v7, vI v8, vI v9, vI v10, vI v11, vI v12, vI v13, vR b244, vI j293_s0_283, vI (own_in4 j293_s0_283 v6 v7 v8 v9 v10 v11 v12 v13), .unset] [])) _
                refine XS.iload X296.here hx rfl (hb hby at_363) rfl ?_
                show Steps p.tables e below (T296.setTop (mkF m 365 #[vI p0, vI p1, vI p2, vI p3, vI p4, vI p5, vI (4 : Int32), vI v6, vI v6, vI v7, vI v8, vI v9, vI v10, vI v11, vI v12, vI v13, vR b244, vI j293_s0_283, vI (own_in4 j293_s0_283 v6 v7 v8 v9 v10 v11 v12 v13), .unset] [(.int j293_s0_283)])) _
                refine XS.iload X296.here hx rfl (hb hby at_365) rfl ?_
                show Steps p.tables e below (T296.setTop (mkF m 367 #[vI p0, vI p1, vI p2, vI p3, vI p4, vI p5, vI (4 : Int32), vI v6, vI v6, vI v7, vI v8, vI v9, vI v10, vI v11, vI v12, vI v13, vR b244, vI j293_s0_283, vI (own_in4 j293_s0_283 v6 v7 v8 v9 v10 v11 v12 v13), .unset] [(.int v11), (.int j293_s0_283)])) _
                exact k)
              by_cases c367_332 : v11 < j293_s0_283
              · skip
                have pre333 : Go p.tables e below S0 T296 (mkF m 380 #[vI p0, vI p1, vI p2, vI p3, vI p4, vI p5, vI (4 : Int32), vI v6, vI v6, vI v7, vI v8, vI v9, vI v10, vI v11, vI v12, vI v13, vR b244, vI j293_s0_283, vI (own_in4 j293_s0_283 v6 v7 v8 v9 v10 v11 v12 v13), .unset] [(.int j293_s0_283), (.int v12)]) := fun t k => pre331 t (by
                  refine XS.icmpNo X296.here hx rfl (hb hby at_367) rfl (tlt c367_332).2.2.2 ?_
                  show Steps p.tables e below (T296.setTop (mkF m 370 #[vI p0, vI p1, vI p2, vI p3, vI p4, vI p5, vI (4 : Int32), vI v6, vI v6, vI v7, vI v8, vI v9, vI v10, vI v11, vI v12, vI v13, vR b244, vI j293_s0_283, vI (own_in4 j293_s0_283 v6 v7 v8 v9 v10 v11 v12 v13), .unset] [])) _
                  refine XS.iload X296.here hx rfl (hb hby at_370) rfl ?_
                  show Steps p.tables e below (T296.setTop (mkF m 372 #[vI p0, vI p1, vI p2, vI p3, vI p4, vI p5, vI (4 : Int32), vI v6, vI v6, vI v7, vI v8, vI v9, vI v10, vI v11, vI v12, vI v13, vR b244, vI j293_s0_283, vI (own_in4 j293_s0_283 v6 v7 v8 v9 v10 v11 v12 v13), .unset] [(.int (4 : Int32))])) _
                  refine XS.iconst X296.here hx rfl (hb hby at_372) ?_
                  show Steps p.tables e below (T296.setTop (mkF m 373 #[vI p0, vI p1, vI p2, vI p3, vI p4, vI p5, vI (4 : Int32), vI v6, vI v6, vI v7, vI v8, vI v9, vI v10, vI v11, vI v12, vI v13, vR b244, vI j293_s0_283, vI (own_in4 j293_s0_283 v6 v7 v8 v9 v10 v11 v12 v13), .unset] [(.int (3 : Int32)), (.int (4 : Int32))])) _
                  refine XS.icmpNo X296.here hx rfl (hb hby at_373) rfl (tlt (by decide : (3 : Int32) < (4 : Int32))).2.2.2 ?_
                  show Steps p.tables e below (T296.setTop (mkF m 376 #[vI p0, vI p1, vI p2, vI p3, vI p4, vI p5, vI (4 : Int32), vI v6, vI v6, vI v7, vI v8, vI v9, vI v10, vI v11, vI v12, vI v13, vR b244, vI j293_s0_283, vI (own_in4 j293_s0_283 v6 v7 v8 v9 v10 v11 v12 v13), .unset] [])) _
                  refine XS.iload X296.here hx rfl (hb hby at_376) rfl ?_
                  show Steps p.tables e below (T296.setTop (mkF m 378 #[vI p0, vI p1, vI p2, vI p3, vI p4, vI p5, vI (4 : Int32), vI v6, vI v6, vI v7, vI v8, vI v9, vI v10, vI v11, vI v12, vI v13, vR b244, vI j293_s0_283, vI (own_in4 j293_s0_283 v6 v7 v8 v9 v10 v11 v12 v13), .unset] [(.int v12)])) _
                  refine XS.iload X296.here hx rfl (hb hby at_378) rfl ?_
                  show Steps p.tables e below (T296.setTop (mkF m 380 #[vI p0, vI p1, vI p2, vI p3, vI p4, vI p5, vI (4 : Int32), vI v6, vI v6, vI v7, vI v8, vI v9, vI v10, vI v11, vI v12, vI v13, vR b244, vI j293_s0_283, vI (own_in4 j293_s0_283 v6 v7 v8 v9 v10 v11 v12 v13), .unset] [(.int j293_s0_283), (.int v12)])) _
                  exact k)
                by_cases c380_334 : j293_s0_283 < v12
                · skip
                  have pre335 : Go p.tables e below S0 T296 (mkF m 395 #[vI p0, vI p1, vI p2, vI p3, vI p4, vI p5, vI (4 : Int32), vI v6, vI v6, vI v7, vI v8, vI v9, vI v10, vI v11, vI v12, vI v13, vR b244, vI j293_s0_283, vI (own_in4 j293_s0_283 v6 v7 v8 v9 v10 v11 v12 v13), .unset] [(.int (0 : Int32))]) := fun t k => pre333 t (by
                    refine XS.icmpYes X296.here hx rfl (pc0 := 380) (pc' := 394) rfl (hb hby at_380) rfl (tlt c380_334).2.2.1 (by decide) (by decide) ?_
                    show Steps p.tables e below (T296.setTop (mkF m 394 #[vI p0, vI p1, vI p2, vI p3, vI p4, vI p5, vI (4 : Int32), vI v6, vI v6, vI v7, vI v8, vI v9, vI v10, vI v11, vI v12, vI v13, vR b244, vI j293_s0_283, vI (own_in4 j293_s0_283 v6 v7 v8 v9 v10 v11 v12 v13), .unset] [])) _
                    refine XS.iconst X296.here hx rfl (hb hby at_394) ?_
                    show Steps p.tables e below (T296.setTop (mkF m 395 #[vI p0, vI p1, vI p2, vI p3, vI p4, vI p5, vI (4 : Int32), vI v6, vI v6, vI v7, vI v8, vI v9, vI v10, vI v11, vI v12, vI v13, vR b244, vI j293_s0_283, vI (own_in4 j293_s0_283 v6 v7 v8 v9 v10 v11 v12 v13), .unset] [(.int (0 : Int32))])) _
                    exact k)
                  exact tail391 ⟨(0 : Int32), (by simp [own_in4, c320_298, c340_300, c347_321, c360_323, c367_332, c380_334]), pre335⟩
                · skip
                  have pre336 : Go p.tables e below S0 T296 (mkF m 387 #[vI p0, vI p1, vI p2, vI p3, vI p4, vI p5, vI (4 : Int32), vI v6, vI v6, vI v7, vI v8, vI v9, vI v10, vI v11, vI v12, vI v13, vR b244, vI j293_s0_283, vI (own_in4 j293_s0_283 v6 v7 v8 v9 v10 v11 v12 v13), .unset] [(.int v13), (.int j293_s0_283)]) := fun t k => pre333 t (by
                    refine XS.icmpNo X296.here hx rfl (hb hby at_380) rfl (flt c380_334).2.2.1 ?_
                    show Steps p.tables e below (T296.setTop (mkF m 383 #[vI p0, vI p1, vI p2, vI p3, vI p4, vI p5, vI (4 : Int32), vI v6, vI v6, vI v7, vI v8, vI v9, vI v10, vI v11, vI v12, vI v13, vR b244, vI j293_s0_283, vI (own_in4 j293_s0_283 v6 v7 v8 v9 v10 v11 v12 v13), .unset] [])) _
                    refine XS.iload X296.here hx rfl (hb hby at_383) rfl ?_
                    show Steps p.tables e below (T296.setTop (mkF m 385 #[vI p0, vI p1, vI p2, vI p3, vI p4, vI p5, vI (4 : Int32), vI v6, vI v6, vI v7, vI v8, vI v9, vI v10, vI v11, vI v12, vI v13, vR b244, vI j293_s0_283, vI (own_in4 j293_s0_283 v6 v7 v8 v9 v10 v11 v12 v13), .unset] [(.int j293_s0_283)])) _
                    refine XS.iload X296.here hx rfl (hb hby at_385) rfl ?_
                    show Steps p.tables e below (T296.setTop (mkF m 387 #[vI p0, vI p1, vI p2, vI p3, vI p4, vI p5, vI (4 : Int32), vI v6, vI v6, vI v7, vI v8, vI v9, vI v10, vI v11, vI v12, vI v13, vR b244, vI j293_s0_283, vI (own_in4 j293_s0_283 v6 v7 v8 v9 v10 v11 v12 v13), .unset] [(.int v13), (.int j293_s0_283)])) _
                    exact k)
                  by_cases c387_337 : v13 < j293_s0_283
                  · skip
                    have pre338 : Go p.tables e below S0 T296 (mkF m 395 #[vI p0, vI p1, vI p2, vI p3, vI p4, vI p5, vI (4 : Int32), vI v6, vI v6, vI v7, vI v8, vI v9, vI v10, vI v11, vI v12, vI v13, vR b244, vI j293_s0_283, vI (own_in4 j293_s0_283 v6 v7 v8 v9 v10 v11 v12 v13), .unset] [(.int (0 : Int32))]) := fun t k => pre336 t (by
                      refine XS.icmpYes X296.here hx rfl (pc0 := 387) (pc' := 394) rfl (hb hby at_387) rfl (tlt c387_337).2.2.1 (by decide) (by decide) ?_
                      show Steps p.tables e below (T296.setTop (mkF m 394 #[vI p0, vI p1, vI p2, vI p3, vI p4, vI p5, vI (4 : Int32), vI v6, vI v6, vI v7, vI v8, vI v9, vI v10, vI v11, vI v12, vI v13, vR b244, vI j293_s0_283, vI (own_in4 j293_s0_283 v6 v7 v8 v9 v10 v11 v12 v13), .unset] [])) _
                      refine XS.iconst X296.here hx rfl (hb hby at_394) ?_
                      show Steps p.tables e below (T296.setTop (mkF m 395 #[vI p0, vI p1, vI p2, vI p3, vI p4, vI p5, vI (4 : Int32), vI v6, vI v6, vI v7, vI v8, vI v9, vI v10, vI v11, vI v12, vI v13, vR b244, vI j293_s0_283, vI (own_in4 j293_s0_283 v6 v7 v8 v9 v10 v11 v12 v13), .unset] [(.int (0 : Int32))])) _
                      exact k)
                    exact tail391 ⟨(0 : Int32), (by simp [own_in4, c320_298, c340_300, c347_321, c360_323, c367_332, c380_334, c387_337]), pre338⟩
                  · skip
                    have pre339 : Go p.tables e below S0 T296 (mkF m 395 #[vI p0, vI p1, vI p2, vI p3, vI p4, vI p5, vI (4 : Int32), vI v6, vI v6, vI v7, vI v8, vI v9, vI v10, vI v11, vI v12, vI v13, vR b244, vI j293_s0_283, vI (own_in4 j293_s0_283 v6 v7 v8 v9 v10 v11 v12 v13), .unset] [(.int (1 : Int32))]) := fun t k => pre336 t (by
                      refine XS.icmpNo X296.here hx rfl (hb hby at_387) rfl (flt c387_337).2.2.1 ?_
                      show Steps p.tables e below (T296.setTop (mkF m 390 #[vI p0, vI p1, vI p2, vI p3, vI p4, vI p5, vI (4 : Int32), vI v6, vI v6, vI v7, vI v8, vI v9, vI v10, vI v11, vI v12, vI v13, vR b244, vI j293_s0_283, vI (own_in4 j293_s0_283 v6 v7 v8 v9 v10 v11 v12 v13), .unset] [])) _
                      refine XS.iconst X296.here hx rfl (hb hby at_390) ?_
                      show Steps p.tables e below (T296.setTop (mkF m 391 #[vI p0, vI p1, vI p2, vI p3, vI p4, vI p5, vI (4 : Int32), vI v6, vI v6, vI v7, vI v8, vI v9, vI v10, vI v11, vI v12, vI v13, vR b244, vI j293_s0_283, vI (own_in4 j293_s0_283 v6 v7 v8 v9 v10 v11 v12 v13), .unset] [(.int (1 : Int32))])) _
                      refine XS.goto X296.here hx rfl (pc0 := 391) (pc' := 395) rfl (hb hby at_391) (by decide) (by decide) ?_
                      show Steps p.tables e below (T296.setTop (mkF m 395 #[vI p0, vI p1, vI p2, vI p3, vI p4, vI p5, vI (4 : Int32), vI v6, vI v6, vI v7, vI v8, vI v9, vI v10, vI v11, vI v12, vI v13, vR b244, vI j293_s0_283, vI (own_in4 j293_s0_283 v6 v7 v8 v9 v10 v11 v12 v13), .unset] [(.int (1 : Int32))])) _
                      exact k)
                    exact tail391 ⟨(1 : Int32), (by simp [own_in4, c320_298, c340_300, c347_321, c360_323, c367_332, c380_334, c387_337]), pre339⟩
              · skip
                have pre340 : Go p.tables e below S0 T296 (mkF m 395 #[vI p0, vI p1, vI p2, vI p3, vI p4, vI p5, vI (4 : Int32), vI v6, vI v6, vI v7, vI v8, vI v9, vI v10, vI v11, vI v12, vI v13, vR b244, vI j293_s0_283, vI (own_in4 j293_s0_283 v6 v7 v8 v9 v10 v11 v12 v13), .unset] [(.int (1 : Int32))]) := fun t k => pre331 t (by
                  refine XS.icmpYes X296.here hx rfl (pc0 := 367) (pc' := 390) rfl (hb hby at_367) rfl (flt c367_332).2.2.2 (by decide) (by decide) ?_
                  show Steps p.tables e below (T296.setTop (mkF m 390 #[vI p0, vI p1, vI p2, vI p3, vI p4, vI p5, vI (4 : Int32), vI v6, vI v6, vI v7, vI v8, vI v9, vI v10, vI v11, vI v12, vI v13, vR b244, vI j293_s0_283, vI (own_in4 j293_s0_283 v6 v7 v8 v9 v10 v11 v12 v13), .unset] [])) _
                  refine XS.iconst X296.here hx rfl (hb hby at_390) ?_
                  show Steps p.tables e below (T296.setTop (mkF m 391 #[vI p0, vI p1, vI p2, vI p3, vI p4, vI p5, vI (4 : Int32), vI v6, vI v6, vI v7, vI v8, vI v9, vI v10, vI v11, vI v12, vI v13, vR b244, vI j293_s0_283, vI (own_in4 j293_s0_283 v6 v7 v8 v9 v10 v11 v12 v13), .unset] [(.int (1 : Int32))])) _
                  refine XS.goto X296.here hx rfl (pc0 := 391) (pc' := 395) rfl (hb hby at_391) (by decide) (by decide) ?_
                  show Steps p.tables e below (T296.setTop (mkF m 395 #[vI p0, vI p1, vI p2, vI p3, vI p4, vI p5, vI (4 : Int32), vI v6, vI v6, vI v7, vI v8, vI v9, vI v10, vI v11, vI v12, vI v13, vR b244, vI j293_s0_283, vI (own_in4 j293_s0_283 v6 v7 v8 v9 v10 v11 v12 v13), .unset] [(.int (1 : Int32))])) _
                  exact k)
                exact tail391 ⟨(1 : Int32), (by simp [own_in4, c320_298, c340_300, c347_321, c360_323, c367_332]), pre340⟩
          · skip
            have pre341 : Go p.tables e below S0 T296 (mkF m 395 #[vI p0, vI p1, vI p2, vI p3, vI p4, vI p5, vI (4 : Int32), vI v6, vI v6, vI v7, vI v8, vI v9, vI v10, vI v11, vI v12, vI v13, vR b244, vI j293_s0_283, vI (own_in4 j293_s0_283 v6 v7 v8 v9 v10 v11 v12 v13), .unset] [(.int (1 : Int32))]) := fun t k => pre320 t (by
              refine XS.icmpYes X296.here hx rfl (pc0 := 347) (pc' := 390) rfl (hb hby at_347) rfl (flt c347_321).2.2.2 (by decide) (by decide) ?_
              show Steps p.tables e below (T296.setTop (mkF m 390 #[vI p0, vI p1, vI p2, vI p3, vI p4, vI p5, vI (4 : Int32), vI v6, vI v6, vI v7, vI v8, vI v9, vI v10, vI v11, vI v12, vI v13, vR b244, vI j293_s0_283, vI (own_in4 j293_s0_283 v6 v7 v8 v9 v10 v11 v12 v13), .unset] [])) _
              refine XS.iconst X296.here hx rfl (hb hby at_390) ?_
              show Steps p.tables e below (T296.setTop (mkF m 391 #[vI p0, vI p1, vI p2, vI p3, vI p4, vI p5, vI (4 : Int32), vI v6, vI v6, vI v7, vI v8, vI v9, vI v10, vI v11, vI v12, vI v13, vR b244, vI j293_s0_283, vI (own_in4 j293_s0_283 v6 v7 v8 v9 v10 v11 v12 v13), .unset] [(.int (1 : Int32))])) _
              refine XS.goto X296.here hx rfl (pc0 := 391) (pc' := 395) rfl (hb hby at_391) (by decide) (by decide) ?_
              show Steps p.tables e below (T296.setTop (mkF m 395 #[vI p0, vI p1, vI p2, vI p3, vI p4, vI p5, vI (4 : Int32), vI v6, vI v6, vI v7, vI v8, vI v9, vI v10, vI v11, vI v12, vI v13, vR b244, vI j293_s0_283, vI (own_in4 j293_s0_283 v6 v7 v8 v9 v10 v11 v12 v13), .unset] [(.int (1 : Int32))])) _
              exact k)
            exact tail391 ⟨(1 : Int32), (by simp [own_in4, c320_298, c340_300, c347_321]), pre341⟩
      · skip
        have pre342 : Go p.tables e below S0 T296 (mkF m 327 #[vI p0, vI p1, vI p2, vI p3, vI p4, vI p5, vI (4 : Int32), vI v6, vI v6, vI v7, vI v8, vI v9, vI v10, vI v11, vI v12, vI v13, vR b244, vI j293_s0_283, vI (own_in4 j293_s0_283 v6 v7 v8 v9 v10 v11 v12 v13), .unset] [(.int v7), (.int j293_s0_283)]) := fun t k => pre297 t (by
          refine XS.icmpNo X296.here hx rfl (hb hby at_320) rfl (flt c320_298).2.2.1 ?_
          show Steps p.tables e below (T296.setTop (mkF m 323 #[vI p0, vI p1, vI p2, vI p3, vI p4, vI p5, vI (4 : Int32), vI v6, vI v6, vI v7, vI v8, vI v9, vI v10, vI v11, vI v12, vI v13, vR b244, vI j293_s0_283, vI (own_in4 j293_s0_283 v6 v7 v8 v9 v10 v11 v12 v13), .unset] [])) _
          refine XS.iload X296.here hx rfl (hb hby at_323) rfl ?_
          show Steps p.tables e below (T296.setTop (mkF m 325 #[vI p0, vI p1, vI p2, vI p3, vI p4, vI p5, vI (4 : Int32), vI v6, vI v6, vI v7, vI v8, vI v9, vI v10, vI v11, vI v12, vI v13, vR b244, vI j293_s0_283, vI (own_in4 j293_s0_283 v6 v7 v8 v9 v10 v11 v12 v13), .unset] [(.int j293_s0_283)])) _
          refine XS.iload X296.here hx rfl (hb hby at_325) rfl ?_
          show Steps p.tables e below (T296.setTop (mkF m 327 #[vI p0, vI p1, vI p2, vI p3, vI p4, vI p5, vI (4 : Int32), vI v6, vI v6, vI v7, vI v8, vI v9, vI v10, vI v11, vI v12, vI v13, vR b244, vI j293_s0_283, vI (own_in4 j293_s0_283 v6 v7 v8 v9 v10 v11 v12 v13), .unset] [(.int v7), (.int j293_s0_283)])) _
          exact k)
        by_cases c327_343 : v7 < j293_s0_283
        · skip
          have pre344 : Go p.tables e below S0 T296 (mkF m 340 #[vI p0, vI p1, vI p2, vI p3, vI p4, vI p5, vI (4 : Int32), vI v6, vI v6, vI v7, vI v8, vI v9, vI v10, vI v11, vI v12, vI v13, vR b244, vI j293_s0_283, vI (own_in4 j293_s0_283 v6 v7 v8 v9 v10 v11 v12 v13), .unset] [(.int j293_s0_283), (.int v8)]) := fun t k => pre342 t (by
            refine XS.icmpNo X296.here hx rfl (hb hby at_327) rfl (tlt c327_343).2.2.2 ?_
            show Steps p.tables e below (T296.setTop (mkF m 330 #[vI p0, vI p1, vI p2, vI p3, vI p4, vI p5, vI (4 : Int32), vI v6, vI v6, vI v7, vI v8, vI v9, vI v10, vI v11, vI v12, vI v13, vR b244, vI j293_s0_283, vI (own_in4 j293_s0_283 v6 v7 v8 v9 v10 v11 v12 v13), .unset] [])) _
            refine XS.iload X296.here hx rfl (hb hby at_330) rfl ?_
            show Steps p.tables e below (T296.setTop (mkF m 332 #[vI p0, vI p1, vI p2, vI p3, vI p4, vI p5, vI (4 : Int32), vI v6, vI v6, vI v7, vI v8, vI v9, vI v10, vI v11, vI v12, vI v13, vR b244, vI j293_s0_283, vI (own_in4 j293_s0_283 v6 v7 v8 v9 v10 v11 v12 v13), .unset] [(.int (4 : Int32))])) _
            refine XS.iconst X296.here hx rfl (hb hby at_332) ?_
            show Steps p.tables e below (T296.setTop (mkF m 333 #[vI p0, vI p1, vI p2, vI p3, vI p4, vI p5, vI (4 : Int32), vI v6, vI v6, vI v7, vI v8, vI v9, vI v10, vI v11, vI v12, vI v13, vR b244, vI j293_s0_283, vI (own_in4 j293_s0_283 v6 v7 v8 v9 v10 v11 v12 v13), .unset] [(.int (1 : Int32)), (.int (4 : Int32))])) _
            refine XS.icmpNo X296.here hx rfl (hb hby at_333) rfl (tlt (by decide : (1 : Int32) < (4 : Int32))).2.2.2 ?_
            show Steps p.tables e below (T296.setTop (mkF m 336 #[vI p0, vI p1, vI p2, vI p3, vI p4, vI p5, vI (4 : Int32), vI v6, vI v6, vI v7, vI v8, vI v9, vI v10, vI v11, vI v12, vI v13, vR b244, vI j293_s0_283, vI (own_in4 j293_s0_283 v6 v7 v8 v9 v10 v11 v12 v13), .unset] [])) _
            refine XS.iload X296.here hx rfl (hb hby at_336) rfl ?_
            show Steps p.tables e below (T296.setTop (mkF m 338 #[vI p0, vI p1, vI p2, vI p3, vI p4, vI p5, vI (4 : Int32), vI v6, vI v6, vI v7, vI v8, vI v9, vI v10, vI v11, vI v12, vI v13, vR b244, vI j293_s0_283, vI (own_in4 j293_s0_283 v6 v7 v8 v9 v10 v11 v12 v13), .unset] [(.int v8)])) _
            refine XS.iload X296.here hx rfl (hb hby at_338) rfl ?_
            show Steps p.tables e below (T296.setTop (mkF m 340 #[vI p0, vI p1, vI p2, vI p3, vI p4, vI p5, vI (4 : Int32), vI v6, vI v6, vI v7, vI v8, vI v9, vI v10, vI v11, vI v12, vI v13, vR b244, vI j293_s0_283, vI (own_in4 j293_s0_283 v6 v7 v8 v9 v10 v11 v12 v13), .unset] [(.int j293_s0_283), (.int v8)])) _
            exact k)
          by_cases c340_345 : j293_s0_283 < v8
          · skip
            have pre346 : Go p.tables e below S0 T296 (mkF m 360 #[vI p0, vI p1, vI p2, vI p3, vI p4, vI p5, vI (4 : Int32), vI v6, vI v6, vI v7, vI v8, vI v9, vI v10, vI v11, vI v12, vI v13, vR b244, vI j293_s0_283, vI (own_in4 j293_s0_283 v6 v7 v8 v9 v10 v11 v12 v13), .unset] [(.int j293_s0_283), (.int v10)]) := fun t k => pre344 t (by
              refine XS.icmpYes X296.here hx rfl (pc0 := 340) (pc' := 350) rfl (hb hby at_340) rfl (tlt c340_345).2.2.1 (by decide) (by decide) ?_
              show Steps p.tables e below (T296.setTop (mkF m 350 #[vI p0, vI p1, vI p2, vI p3, vI p4, vI p5, vI (4 : Int32), vI v6, vI v6, vI v7, vI v8, vI v9, vI v10, vI v11, vI v12, vI v13, vR b244, vI j293_s0_283, vI (own_in4 j293_s0_283 v6 v7 v8 v9 v10 v11 v12 v13), .unset] [])) _
              refine XS.iload X296.here hx rfl (hb hby at_350) rfl ?_
              show Steps p.tables e below (T296.setTop (mkF m 352 #[vI p0, vI p1, vI p2, vI p3, vI p4, vI p5, vI (4 : Int32), vI v6, vI v6, vI v7, vI v8, vI v9, vI v10, vI v11, vI v12, vI v13, vR b244, vI j293_s0_283, vI (own_in4 j293_s0_283 v6 v7 v8 v9 v10 v11 v12 v13), .unset] [(.int (4 : Int32))])) _
              refine XS.iconst X296.here hx rfl (hb hby at_352) ?_
              show Steps p.tables e below (T296.setTop (mkF m 353 #[vI p0, vI p1, vI p2, vI p3, vI p4, vI p5, vI (4 : Int32), vI v6, vI v6, vI v7, vI v8, vI v9, vI v10, vI v11, vI v12, vI v13, vR b244, vI j293_s0_283, vI (own_in4 j293_s0_283 v6 v7 v8 v9 v10 v11 v12 v13), .unset] [(.int (2 : Int32)), (.int (4 : Int32))])) _
              refine XS.icmpNo X296.here hx rfl (hb hby at_353) rfl (tlt (by decide : (2 : Int32) < (4 : Int32))).2.2.2 ?_
              show Steps p.tables e below (T296.setTop (mkF m 356 #[vI p0, vI p1, vI p2, vI p3, vI p4, vI p5, vI (4 : Int32), vI v6, vI v6, vI v7, vI v8, vI v9, vI v10, vI v11, vI v12, vI v13, vR b244, vI j293_s0_283, vI (own_in4 j293_s0_283 v6 v7 v8 v9 v10 v11 v12 v13), .unset] [])) _
              refine XS.iload X296.here hx rfl (hb hby at_356) rfl ?_
              show Steps p.tables e below (T296.setTop (mkF m 358 #[vI p0, vI p1, vI p2, vI p3, vI p4, vI p5, vI (4 : Int32), vI v6, vI v6, vI v7, vI v8, vI v9, vI v10, vI v11, vI v12, vI v13, vR b244, vI j293_s0_283, vI (own_in4 j293_s0_283 v6 v7 v8 v9 v10 v11 v12 v13), .unset] [(.int v10)])) _
              refine XS.iload X296.here hx rfl (hb hby at_358) rfl ?_
              show Steps p.tables e below (T296.setTop (mkF m 360 #[vI p0, vI p1, vI p2, vI p3, vI p4, vI p5, vI (4 : Int32), vI v6, vI v6, vI v7, vI v8, vI v9, vI v10, vI v11, vI v12, vI v13, vR b244, vI j293_s0_283, vI (own_in4 j293_s0_283 v6 v7 v8 v9 v10 v11 v12 v13), .unset] [(.int j293_s0_283), (.int v10)])) _
              exact k)
            by_cases c360_347 : j293_s0_283 < v10
            · skip
              have pre348 : Go p.tables e below S0 T296 (mkF m 380 #[vI p0, vI p1, vI p2, vI p3, vI p4, vI p5, vI (4 : Int32), vI v6, vI v6, vI v7, vI v8, vI v9, vI v10, vI v11, vI v12, vI v13, vR b244, vI j293_s0_283, vI (own_in4 j293_s0_283 v6 v7 v8 v9 v10 v11 v12 v13), .unset] [(.int j293_s0_283), (.int v12)]) := fun t k => pre346 t (by
                refine XS.icmpYes X296.here hx rfl (pc0 := 360) (pc' := 370) rfl (hb hby at_360) rfl (tlt c360_347).2.2.1 (by decide) (by decide) ?_
                show Steps p.tables e below (T296.setTop (mkF m 370 #[vI p0, vI p1, vI p2, vI p3, vI p4, vI p5, vI (4 : Int32), vI v6, vI v6, vI v7, vI v8, vI v9, vI v10, vI v11, vI v12, vI v13, vR b244, vI j293_s0_283, vI (own_in4 j293_s0_283 v6 v7 v8 v9 v10 v11 v12 v13), .unset] [])) _
                refine XS.iload X296.here hx rfl (hb hby at_370) rfl ?_
                show Steps p.tables e below (T296.setTop (mkF m 372 #[vI p0, vI p1, vI p2, vI p3, vI p4, vI p5, vI (4 : Int32), vI v6, vI v6, vI v7, vI v8, vI v9, vI v10, vI v11, vI v12, vI v13, vR b244, vI j293_s0_283, vI (own_in4 j293_s0_283 v6 v7 v8 v9 v10 v11 v12 v13), .unset] [(.int (4 : Int32))])) _
                refine XS.iconst X296.here hx rfl (hb hby at_372) ?_
                show Steps p.tables e below (T296.setTop (mkF m 373 #[vI p0, vI p1, vI p2, vI p3, vI p4, vI p5, vI (4 : Int32), vI v6, vI v6, vI v7, vI v8, vI v9, vI v10, vI v11, vI v12, vI v13, vR b244, vI j293_s0_283, vI (own_in4 j293_s0_283 v6 v7 v8 v9 v10 v11 v12 v13), .unset] [(.int (3 : Int32)), (.int (4 : Int32))])) _
                refine XS.icmpNo X296.here hx rfl (hb hby at_373) rfl (tlt (by decide : (3 : Int32) < (4 : Int32))).2.2.2 ?_
                show Steps p.tables e below (T296.setTop (mkF m 376 #[vI p0, vI p1, vI p2, vI p3, vI p4, vI p5, vI (4 : Int32), vI v6, vI v6, vI v7, vI v8, vI v9, vI v10, vI v11, vI v12, vI v13, vR b244, vI j293_s0_283, vI (own_in4 j293_s0_283 v6 v7 v8 v9 v10 v11 v12 v13), .unset] [])) _
                refine XS.iload X296.here hx rfl (hb hby at_376) rfl ?_
                show Steps p.tables e below (T296.setTop (mkF m 378 #[vI p0, vI p1, vI p2, vI p3, vI p4, vI p5, vI (4 : Int32), vI v6, vI v6, vI v7, vI v8, vI v9, vI v10, vI v11, vI v12, vI v13, vR b244, vI j293_s0_283, vI (own_in4 j293_s0_283 v6 v7 v8 v9 v10 v11 v12 v13), .unset] [(.int v12)])) _
                refine XS.iload X296.here hx rfl (hb hby at_378) rfl ?_
                show Steps p.tables e below (T296.setTop (mkF m 380 #[vI p0, vI p1, vI p2, vI p3, vI p4, vI p5, vI (4 : Int32), vI v6, vI v6, vI v7, vI v8, vI v9, vI v10, vI v11, vI v12, vI v13, vR b244, vI j293_s0_283, vI (own_in4 j293_s0_283 v6 v7 v8 v9 v10 v11 v12 v13), .unset] [(.int j293_s0_283), (.int v12)])) _
                exact k)
              by_cases c380_349 : j293_s0_283 < v12
              · skip
                have pre350 : Go p.tables e below S0 T296 (mkF m 395 #[vI p0, vI p1, vI p2, vI p3, vI p4, vI p5, vI (4 : Int32), vI v6, vI v6, vI v7, vI v8, vI v9, vI v10, vI v11, vI v12, vI v13, vR b244, vI j293_s0_283, vI (own_in4 j293_s0_283 v6 v7 v8 v9 v10 v11 v12 v13), .unset] [(.int (0 : Int32))]) := fun t k => pre348 t (by
                  refine XS.icmpYes X296.here hx rfl (pc0 := 380) (pc' := 394) rfl (hb hby at_380) rfl (tlt c380_349).2.2.1 (by decide) (by decide) ?_
                  show Steps p.tables e below (T296.setTop (mkF m 394 #[vI p0, vI p1, vI p2, vI p3, vI p4, vI p5, vI (4 : Int32), vI v6, vI v6, vI v7, vI v8, vI v9, vI v10, vI v11, vI v12, vI v13, vR b244, vI j293_s0_283, vI (own_in4 j293_s0_283 v6 v7 v8 v9 v10 v11 v12 v13), .unset] [])) _
                  refine XS.iconst X296.here hx rfl (hb hby at_394) ?_
                  show Steps p.tables e below (T296.setTop (mkF m 395 #[vI p0, vI p1, vI p2, vI p3, vI p4, vI p5, vI (4 : Int32), vI v6, vI v6, vI v7, vI v8, vI v9, vI v10, vI v11, vI v12, vI v13, vR b244, vI j293_s0_283, vI (own_in4 j293_s0_283 v6 v7 v8 v9 v10 v11 v12 v13), .unset] [(.int (0 : Int32))])) _
                  exact k)
                exact tail391 ⟨(0 : Int32), (by simp [own_in4, c320_298, c327_343, c340_345, c360_347, c380_349]), pre350⟩
              · skip
                have pre351 : Go p.tables e below S0 T296 (mkF m 387 #[vI p0, vI p1, vI p2, vI p3, vI p4, vI p5, vI (4 : Int32), vI v6, vI v6, vI v7, vI v8, vI v9, vI v10, vI v11, vI v12, vI v13, vR b244, vI j293_s0_283, vI (own_in4 j293_s0_283 v6 v7 v8 v9 v10 v11 v12 v13), .unset] [(.int v13), (.int j293_s0_283)]) := fun t k => pre348 t (by
                  refine XS.icmpNo X296.here hx rfl (hb hby at_380) rfl (flt c380_349).2.2.1 ?_
                  show Steps p.tables e below (T296.setTop (mkF m 383 #[vI p0, vI p1, vI p2, vI p3, vI p4, vI p5, vI (4 : Int32), vI v6, vI v6, vI v7, vI v8, vI v9, vI v10, vI v11, vI v12, vI v13, vR b244, vI j293_s0_283, vI (own_in4 j293_s0_283 v6 v7 v8 v9 v10 v11 v12 v13), .unset] [])) _
                  refine XS.iload X296.here hx rfl (hb hby at_383) rfl ?_
                  show Steps p.tables e below (T296.setTop (mkF m 385 #[vI p0, vI p1, vI p2, vI p3, vI p4, vI p5, vI (4 : Int32), vI v6, vI v6, vI v7, vI v8, vI v9, vI v10, vI v11, vI v12, vI v13, vR b244, vI j293_s0_283, vI (own_in4 j293_s0_283 v6 v7 v8 v9 v10 v11 v12 v13), .unset] [(.int j293_s0_283)])) _
                  refine XS.iload X296.here hx rfl (hb hby at_385) rfl ?_
                  show Steps p.tables e below (T296.setTop (mkF m 387 #[vI p0, vI p1, vI p2, vI p3, vI p4, vI p5, vI (4 : Int32), vI v6, vI v6, vI v7, vI v8, vI v9, vI v10, vI v11, vI v12, vI v13, vR b244, vI j293_s0_283, vI (own_in4 j293_s0_283 v6 v7 v8 v9 v10 v11 v12 v13), .unset] [(.int v13), (.int j293_s0_283)])) _
                  exact k)
                by_cases c387_352 : v13 < j293_s0_283
                · skip
                  have pre353 : Go p.tables e below S0 T296 (mkF m 395 #[vI p0, vI p1, vI p2, vI p3, vI p4, vI p5, vI (4 : Int32), vI v6, vI v6, vI v7, vI v8, vI v9, vI v10, vI v11, vI v12, vI v13, vR b244, vI j293_s0_283, vI (own_in4 j293_s0_283 v6 v7 v8 v9 v10 v11 v12 v13), .unset] [(.int (0 : Int32))]) := fun t k => pre351 t (by
                    refine XS.icmpYes X296.here hx rfl (pc0 := 387) (pc' := 394) rfl (hb hby at_387) rfl (tlt c387_352).2.2.1 (by decide) (by decide) ?_
                    show Steps p.tables e below (T296.setTop (mkF m 394 #[vI p0, vI p1, vI p2, vI p3, vI p4, vI p5, vI (4 : Int32), vI v6, vI v6, vI v7, vI v8, vI v9, vI v10, vI v11, vI v12, vI v13, vR b244, vI j293_s0_283, vI (own_in4 j293_s0_283 v6 v7 v8 v9 v10 v11 v12 v13), .unset] [])) _
                    refine XS.iconst X296.here hx rfl (hb hby at_394) ?_
                    show Steps p.tables e below (T296.setTop (mkF m 395 #[vI p0, vI p1, vI p2, vI p3, vI p4, vI p5, vI (4 : Int32), vI v6, vI v6, vI v7, vI v8, vI v9, vI v10, vI v11, vI v12, vI v13, vR b244, vI j293_s0_283, vI (own_in4 j293_s0_283 v6 v7 v8 v9 v10 v11 v12 v13), .unset] [(.int (0 : Int32))])) _
                    exact k)
                  exact tail391 ⟨(0 : Int32), (by simp [own_in4, c320_298, c327_343, c340_345, c360_347, c380_349, c387_352]), pre353⟩
                · skip
                  have pre354 : Go p.tables e below S0 T296 (mkF m 395 #[vI p0, vI p1, vI p2, vI p3, vI p4, vI p5, vI (4 : Int32), vI v6, vI v6, vI v7, vI v8, vI v9, vI v10, vI v11, vI v12, vI v13, vR b244, vI j293_s0_283, vI (own_in4 j293_s0_283 v6 v7 v8 v9 v10 v11 v12 v13), .unset] [(.int (1 : Int32))]) := fun t k => pre351 t (by
                    refine XS.icmpNo X296.here hx rfl (hb hby at_387) rfl (flt c387_352).2.2.1 ?_
                    show Steps p.tables e below (T296.setTop (mkF m 390 #[vI p0, vI p1, vI p2, vI p3, vI p4, vI p5, vI (4 : Int32), vI v6, vI v6, vI v7, vI v8, vI v9, vI v10, vI v11, vI v12, vI v13, vR b244, vI j293_s0_283, vI (own_in4 j293_s0_283 v6 v7 v8 v9 v10 v11 v12 v13), .unset] [])) _
                    refine XS.iconst X296.here hx rfl (hb hby at_390) ?_
                    show Steps p.tables e below (T296.setTop (mkF m 391 #[vI p0, vI p1, vI p2, vI p3, vI p4, vI p5, vI (4 : Int32), vI v6, vI v6, vI v7, vI v8, vI v9, vI v10, vI v11, vI v12, vI v13, vR b244, vI j293_s0_283, vI (own_in4 j293_s0_283 v6 v7 v8 v9 v10 v11 v12 v13), .unset] [(.int (1 : Int32))])) _
                    refine XS.goto X296.here hx rfl (pc0 := 391) (pc' := 395) rfl (hb hby at_391) (by decide) (by decide) ?_
                    show Steps p.tables e below (T296.setTop (mkF m 395 #[vI p0, vI p1, vI p2, vI p3, vI p4, vI p5, vI (4 : Int32), vI v6, vI v6, vI v7, vI v8, vI v9, vI v10, vI v11, vI v12, vI v13, vR b244, vI j293_s0_283, vI (own_in4 j293_s0_283 v6 v7 v8 v9 v10 v11 v12 v13), .unset] [(.int (1 : Int32))])) _
                    exact k)
                  exact tail391 ⟨(1 : Int32), (by simp [own_in4, c320_298, c327_343, c340_345, c360_347, c380_349, c387_352]), pre354⟩
            · skip
              have pre355 : Go p.tables e below S0 T296 (mkF m 367 #[vI p0, vI p1, vI p2, vI p3, vI p4, vI p5, vI (4 : Int32), vI v6, vI v6, vI v7, vI v8, vI v9, vI v10, vI v11, vI v12, vI v13, vR b244, vI j293_s0_283, vI (own_in4 j293_s0_283 v6 v7 v8 v9 v10 v11 v12 v13), .unset] [(.int v11), (.int j293_s0_283)]) := fun t k => pre346 t (by
                refine XS.icmpNo X296.here hx rfl (hb hby at_360) rfl (flt c360_347).2.2.1 ?_
                show Steps p.tables e below (T296.setTop (mkF m 363 #[vI p0, vI p1, vI p2, vI p3, vI p4, vI p5, vI (4 : Int32), vI v6, vI v6, vI v7, vI v8, vI v9, vI v10, vI v11, vI v12, vI v13, vR b244, vI j293_s0_283, vI (own_in4 j293_s0_283 v6 v7 v8 v9 v10 v11 v12 v13), .unset] [])) _
                refine XS.iload X296.here hx rfl (hb hby at_363) rfl ?_
                show Steps p.tables e below (T296.setTop (mkF m 365 #[vI p0, vI p1, vI p2, vI p3, vI p4, vI p5, vI (4 : Int32), vI v6, vI v6, vI v7, vI v8, vI v9, vI v10, vI v11, vI v12, vI v13, vR b244, vI j293_s0_283, vI (own_in4 j293_s0_283 v6 v7 v8 v9 v10 v11 v12 v13), .unset] [(.int j293_s0_283)])) _
                refine XS.iload X296.here hx rfl (hb hby at_365) rfl ?_
                show Steps p.tables e below (T296.setTop (mkF m 367 #[vI p0, vI p1, vI p2, vI p3, vI p4, vI p5, vI (4 : Int32), vI v6, vI v6, vI v7, vI v8, vI v9, vI v10, vI v11, vI v12, vI v13, vR b244, vI j293_s0_283, vI (own_in4 j293_s0_283 v6 v7 v8 v9 v10 v11 v12 v13), .unset] [(.int v11), (.int j293_s0_283)])) _
                exact k)
              by_cases c367_356 : v11 < j293_s0_283
              · skip
                have pre357 : Go p.tables e below S0 T296 (mkF m 380 #[vI p0, vI p1, vI p2, vI p3, vI p4, vI p5, vI (4 : Int32), vI v6, vI v6, vI v7, vI v8, vI v9, vI v10, vI v11, vI v12, vI v13, vR b244, vI j293_s0_283, vI (own_in4 j293_s0_283 v6 v7 v8 v9 v10 v11 v12 v13), .unset] [(.int j293_s0_283), (.int v12)]) := fun t k => pre355 t (by
                  refine XS.icmpNo X296.here hx rfl (hb hby at_367) rfl (tlt c367_356).2.2.2 ?_
                  show Steps p.tables e below (T296.setTop (mkF m 370 #[vI p0, vI p1, vI p2, vI p3, vI p4, vI p5, vI (4 : Int32), vI v6, vI v6, vI v7, vI v8, vI v9, vI v10, vI v11, vI v12, vI v13, vR b244, vI j293_s0_283, vI (own_in4 j293_s0_283 v6 v7 v8 v9 v10 v11 v12 v13), .unset] [])) _
                  refine XS.iload X296.here hx rfl (hb hby at_370) rfl ?_
                  show Steps p.tables e below (T296.setTop (mkF m 372 #[vI p0, vI p1, vI p2, vI p3, vI p4, vI p5, vI (4 : Int32), vI v6, vI v6, vI v7, vI v8, vI v9, vI v10, vI v11, vI v12, vI v13, vR b244, vI j293_s0_283, vI (own_in4 j293_s0_283 v6 v7 v8 v9 v10 v11 v12 v13), .unset] [(.int (4 : Int32))])) _
                  refine XS.iconst X296.here hx rfl (hb hby at_372) ?_
                  show Steps p.tables e below (T296.setTop (mkF m 373 #[vI p0, vI p1, vI p2, vI p3, vI p4, vI p5, vI (4 : Int32), vI v6, vI v6, vI v7, vI v8, vI v9, vI v10, vI v11, vI v12, vI v13, vR b244, vI j293_s0_283, vI (own_in4 j293_s0_283 v6 v7 v8 v9 v10 v11 v12 v13), .unset] [(.int (3 : Int32)), (.int (4 : Int32))])) _
                  refine XS.icmpNo X296.here hx rfl (hb hby at_373) rfl (tlt (by decide : (3 : Int32) < (4 : Int32))).2.2.2 ?_
                  show Steps p.tables e below (T296.setTop (mkF m 376 #[vI p0, vI p1, vI p2, vI p3, vI p4, vI p5, vI (4 : Int32), vI v6, vI v6, vI v7, vI v8, vI v9, vI v10, vI v11, vI v12, vI v13, vR b244, vI j293_s0_283, vI (own_in4 j293_s0_283 v6 v7 v8 v9 v10 v11 v12 v13), .unset] [])) _
                  refine XS.iload X296.here hx rfl (hb hby at_376) rfl ?_
                  show Steps p.tables e below (T296.setTop (mkF m 378 #[vI p0, vI p1, vI p2, vI p3, vI p4, vI p5, vI (4 : Int32), vI v6, vI v6, vI v7, vI v8, vI v9, vI v10, vI v11, vI v12, vI v13, vR b244, vI j293_s0_283, vI (own_in4 j293_s0_283 v6 v7 v8 v9 v10 v11 v12 v13), .unset] [(.int v12)])) _
                  refine XS.iload X296.here hx rfl (hb hby at_378) rfl ?_
                  show Steps p.tables e below (T296.setTop (mkF m 380 #[vI p0, vI p1, vI p2, vI p3, vI p4, vI p5, vI (4 : Int32), vI v6, vI v6, vI v7, vI v8, vI v9, vI v10, vI v11, vI v12, vI v13, vR b244, vI j293_s0_283, vI (own_in4 j293_s0_283 v6 v7 v8 v9 v10 v11 v12 v13), .unset] [(.int j293_s0_283), (.int v12)])) _
                  exact k)
                by_cases c380_358 : j293_s0_283 < v12
                · skip
                  have pre359 : Go p.tables e below S0 T296 (mkF m 395 #[vI p0, vI p1, vI p2, vI p3, vI p4, vI p5, vI (4 : Int32), vI v6, vI v6, vI v7, vI v8, vI v9, vI v10, vI v11, vI v12, vI v13, vR b244, vI j293_s0_283, vI (own_in4 j293_s0_283 v6 v7 v8 v9 v10 v11 v12 v13), .unset] [(.int (0 : Int32))]) := fun t k => pre357 t (by
                    refine XS.icmpYes X296.here hx rfl (pc0 := 380) (pc' := 394) rfl (hb hby at_380) rfl (tlt c380_358).2.2.1 (by decide) (by decide) ?_
                    show Steps p.tables e below (T296.setTop (mkF m 394 #[vI p0, vI p1, vI p2, vI p3, vI p4, vI p5, vI (4 : Int32), vI v6, vI v6, vI v7, vI v8, vI v9, vI v10, vI v11, vI v12, vI v13, vR b244, vI j293_s0_283, vI (own_in4 j293_s0_283 v6 v7 v8 v9 v10 v11 v12 v13), .unset] [])) _
                    refine XS.iconst X296.here hx rfl (hb hby at_394) ?_
                    show Steps p.tables e below (T296.setTop (mkF m 395 #[vI p0, vI p1, vI p2, vI p3, vI p4, vI p5, vI (4 : Int32), vI v6, vI v6, vI v7, vI v8, vI v9, vI v10, vI v11, vI v12, vI v13, vR b244, vI j293_s0_283, vI (own_in4 j293_s0_283 v6 v7 v8 v9 v10 v11 v12 v13), .unset] [(.int (0 : Int32))])) _
                    exact k)
                  exact tail391 ⟨(0 : Int32), (by simp [own_in4, c320_298, c327_343, c340_345, c360_347, c367_356, c380_358]), pre359⟩
                · skip
                  have pre360 : Go p.tables e below S0 T296 (mkF m 387 #[vI p0, vI p1, vI p2, vI p3, vI p4, vI p5, vI (4 : Int32), vI v6, vI v6, vI v7, vI v8, vI v9, vI v10, vI v11, vI v12, vI v13, vR b244, vI j293_s0_283, vI (own_in4 j293_s0_283 v6 v7 v8 v9 v10 v11 v12 v13), .unset] [(.int v13), (.int j293_s0_283)]) := fun t k => pre357 t (by
                    refine XS.icmpNo X296.here hx rfl (hb hby at_380) rfl (flt c380_358).2.2.1 ?_
                    show Steps p.tables e below (T296.setTop (mkF m 383 #[vI p0, vI p1, vI p2, vI p3, vI p4, vI p5, vI (4 : Int32), vI v6, vI v6, vI v7, vI v8, vI v9, vI v10, vI v11, vI v12, vI v13, vR b244, vI j293_s0_283, vI (own_in4 j293_s0_283 v6 v7 v8 v9 v10 v11 v12 v13), .unset] [])) _
                    refine XS.iload X296.here hx rfl (hb hby at_383) rfl ?_
                    show Steps p.tables e below (T296.setTop (mkF m 385 #[vI p0, vI p1, vI p2, vI p3, vI p4, vI p5, vI (4 : Int32), vI v6, vI v6, vI v7, vI v8, vI v9, vI v10, vI v11, vI v12, vI v13, vR b244, vI j293_s0_283, vI (own_in4 j293_s0_283 v6 v7 v8 v9 v10 v11 v12 v13), .unset] [(.int j293_s0_283)])) _
                    refine XS.iload X296.here hx rfl (hb hby at_385) rfl ?_
                    show Steps p.tables e below (T296.setTop (mkF m 387 #[vI p0, vI p1, vI p2, vI p3, vI p4, vI p5, vI (4 : Int32), vI v6, vI v6, vI v7, vI v8, vI v9, vI v10, vI v11, vI v12, vI v13, vR b244, vI j293_s0_283, vI (own_in4 j293_s0_283 v6 v7 v8 v9 v10 v11 v12 v13), .unset] [(.int v13), (.int j293_s0_283)])) _
                    exact k)
                  by_cases c387_361 : v13 < j293_s0_283
                  · skip
                    have pre362 : Go p.tables e below S0 T296 (mkF m 395 #[vI p0, vI p1, vI p2, vI p3, vI p4, vI p5, vI (4 : Int32), vI v6, vI v6, vI v7, vI v8, vI v9, vI v10, vI v11, vI v12, vI v13, vR b244, vI j293_s0_283, vI (own_in4 j293_s0_283 v6 v7 v8 v9 v10 v11 v12 v13), .unset] [(.int (0 : Int32))]) := fun t k => pre360 t (by
                      refine XS.icmpYes X296.here hx rfl (pc0 := 387) (pc' := 394) rfl (hb hby at_387) rfl (tlt c387_361).2.2.1 (by decide) (by decide) ?_
                      show Steps p.tables e below (T296.setTop (mkF m 394 #[vI p0, vI p1, vI p2, vI p3, vI p4, vI p5, vI (4 : Int32), vI v6, vI v6, vI v7, vI v8, vI v9, vI v10, vI v11, vI v12, vI v13, vR b244, vI j293_s0_283, vI (own_in4 j293_s0_283 v6 v7 v8 v9 v10 v11 v12 v13), .unset] [])) _
                      refine XS.iconst X296.here hx rfl (hb hby at_394) ?_
                      show Steps p.tables e below (T296.setTop (mkF m 395 #[vI p0, vI p1, vI p2, vI p3, vI p4, vI p5, vI (4 : Int32), vI v6, vI v6, vI v7, vI v8, vI v9, vI v10, vI v11, vI v12, vI v13, vR b244, vI j293_s0_283, vI (own_in4 j293_s0_283 v6 v7 v8 v9 v10 v11 v12 v13), .unset] [(.int (0 : Int32))])) _
                      exact k)
                    exact tail391 ⟨(0 : Int32), (by simp [own_in4, c320_298, c327_343, c340_345, c360_347, c367_356, c380_358, c387_361]), pre362⟩
                  · skip
                    have pre363 : Go p.tables e below S0 T296 (mkF m 395 #[vI p0, vI p1, vI p2, vI p3, vI p4, vI p5, vI (4 : Int32), vI v6, vI v6, vI v7, vI v8, vI v9, vI v10, vI v11, vI v12, vI v13, vR b244, vI j293_s0_283, vI (own_in4 j293_s0_283 v6 v7 v8 v9 v10 v11 v12 v13), .unset] [(.int (1 : Int32))]) := fun t k => pre360 t (by
                      refine XS.icmpNo X296.here hx rfl (hb hby at_387) rfl (flt c387_361).2.2.1 ?_
                      show Steps p.tables e below (T296.setTop (mkF m 390 #[vI p0, vI p1, vI p2, vI p3, vI p4, vI p5, vI (4 : Int32), vI v6, vI v6, vI v7, vI v8, vI v9, vI v10, vI v11, vI v12, vI v13, vR b244, vI j293_s0_283, vI (own_in4 j293_s0_283 v6 v7 v8 v9 v10 v11 v12 v13), .unset] [])) _
                      refine XS.iconst X296.here hx rfl (hb hby at_390) ?_
                      show Steps p.tables e below (T296.setTop (mkF m 391 #[vI p0, vI p1, vI p2, vI p3, vI p4, vI p5, vI (4 : Int32), vI v6, vI v6, vI v7, vI v8, vI v9, vI v10, vI v11, vI v12, vI v13, vR b244, vI j293_s0_283, vI (own_in4 j293_s0_283 v6 v7 v8 v9 v10 v11 v12 v13), .unset] [(.int (1 : Int32))])) _
                      refine XS.goto X296.here hx rfl (pc0 := 391) (pc' := 395) rfl (hb hby at_391) (by decide) (by decide) ?_
                      show Steps p.tables e below (T296.setTop (mkF m 395 #[vI p0, vI p1, vI p2, vI p3, vI p4, vI p5, vI (4 : Int32), vI v6, vI v6, vI v7, vI v8, vI v9, vI v10, vI v11, vI v12, vI v13, vR b244, vI j293_s0_283, vI (own_in4 j293_s0_283 v6 v7 v8 v9 v10 v11 v12 v13), .unset] [(.int (1 : Int32))])) _
                      exact k)
                    exact tail391 ⟨(1 : Int32), (by simp [own_in4, c320_298, c327_343, c340_345, c360_347, c367_356, c380_358, c387_361]), pre363⟩
              · skip
                have pre364 : Go p.tables e below S0 T296 (mkF m 395 #[vI p0, vI p1, vI p2, vI p3, vI p4, vI p5, vI (4 : Int32), vI v6, vI v6, vI v7, vI v8, vI v9, vI v10, vI v11, vI v12, vI v13, vR b244, vI j293_s0_283, vI (own_in4 j293_s0_283 v6 v7 v8 v9 v10 v11 v12 v13), .unset] [(.int (1 : Int32))]) := fun t k => pre355 t (by
                  refine XS.icmpYes X296.here hx rfl (pc0 := 367) (pc' := 390) rfl (hb hby at_367) rfl (flt c367_356).2.2.2 (by decide) (by decide) ?_
                  show Steps p.tables e below (T296.setTop (mkF m 390 #[vI p0, vI p1, vI p2, vI p3, vI p4, vI p5, vI (4 : Int32), vI v6, vI v6, vI v7, vI v8, vI v9, vI v10, vI v11, vI v12, vI v13, vR b244, vI j293_s0_283, vI (own_in4 j293_s0_283 v6 v7 v8 v9 v10 v11 v12 v13), .unset] [])) _
                  refine XS.iconst X296.here hx rfl (hb hby at_390) ?_
                  show Steps p.tables e below (T296.setTop (mkF m 391 #[vI p0, vI p1, vI p2, vI p3, vI p4, vI p5, vI (4 : Int32), vI v6, vI v6, vI v7, vI v8, vI v9, vI v10, vI v11, vI v12, vI v13, vR b244, vI j293_s0_283, vI (own_in4 j293_s0_283 v6 v7 v8 v9 v10 v11 v12 v13), .unset] [(.int (1 : Int32))])) _
                  refine XS.goto X296.here hx rfl (pc0 := 391) (pc' := 395) rfl (hb hby at_391) (by decide) (by decide) ?_
                  show Steps p.tables e below (T296.setTop (mkF m 395 #[vI p0, vI p1, vI p2, vI p3, vI p4, vI p5, vI (4 : Int32), vI v6, vI v6, vI v7, vI v8, vI v9, vI v10, vI v11, vI v12, vI v13, vR b244, vI j293_s0_283, vI (own_in4 j293_s0_283 v6 v7 v8 v9 v10 v11 v12 v13), .unset] [(.int (1 : Int32))])) _
                  exact k)
                exact tail391 ⟨(1 : Int32), (by simp [own_in4, c320_298, c327_343, c340_345, c360_347, c367_356]), pre364⟩
          · skip
            have pre365 : Go p.tables e below S0 T296 (mkF m 347 #[vI p0, vI p1, vI p2, vI p3, vI p4, vI p5, vI (4 : Int32), vI v6, vI v6, vI v7, vI v8, vI v9, vI v10, vI v11, vI v12, vI v13, vR b244, vI j293_s0_283, vI (own_in4 j293_s0_283 v6 v7 v8 v9 v10 v11 v12 v13), .unset] [(.int v9), (.int j293_s0_283)]) := fun t k => pre344 t (by
              refine XS.icmpNo X296.here hx rfl (hb hby at_340) rfl (flt c340_345).2.2.1 ?_
              show Steps p.tables e below (T296.setTop (mkF m 343 #[vI p0, vI p1, vI p2, vI p3, vI p4, vI p5, vI (4 : Int32), vI v6, vI v6, vI v7, vI v8, vI v9, vI v10, vI v11, vI v12, vI v13, vR b244, vI j293_s0_283, vI (own_in4 j293_s0_283 v6 v7 v8 v9 v10 v11 v12 v13), .unset] [])) _
              refine XS.iload X296.here hx rfl (hb hby at_343) rfl ?_
              show Steps p.tables e below (T296.setTop (mkF m 345 #[vI p0, vI p1, vI p2, vI p3, vI p4, vI p5, vI (4 : Int32), vI v6, vI v6, vI v7, vI v8, vI v9, vI v10, vI v11, vI v12, vI v13, vR b244, vI j293_s0_283, vI (own_in4 j293_s0_283 v6 v7 v8 v9 v10 v11 v12 v13), .unset] [(.int j293_s0_283)])) _
              refine XS.iload X296.here hx rfl (hb hby at_345) rfl ?_
              show Steps p.tables e below (T296.setTop (mkF m 347 #[vI p0, vI p1, vI p2, vI p3, vI p4, vI p5, vI (4 : Int32), vI v6, vI v6, vI v7, vI v8, vI v9, vI v10, vI v11, vI v12, vI v13, vR b244, vI j293_s0_283, vI (own_in4 j293_s0_283 v6 v7 v8 v9 v10 v11 v12 v13), .unset] [(.int v9), (.int j293_s0_283)])) _
              exact k)
            by_cases c347_366 : v9 < j293_s0_283
            · skip
              have pre367 : Go p.tables e below S0 T296 (mkF m 360 #[vI p0, vI p1, vI p2, vI p3, vI p4, vI p5, vI (4 : Int32), vI v6, vI v6, vI v7, vI v8, vI v9, vI v10, vI v11, vI v12, vI v13, vR b244, vI j293_s0_283, vI (own_in4 j293_s0_283 v6 v7 v8 v9 v10 v11 v12 v13), .unset] [(.int j293_s0_283), (.int v10)]) := fun t k => pre365 t (by
                refine XS.icmpNo X296.here hx rfl (hb hby at_347) rfl (tlt c347_366).2.2.2 ?_
                show Steps p.tables e below (T296.setTop (mkF m 350 #[vI p0, vI p1, vI p2, vI p3, vI p4, vI p5, vI (4 : Int32), vI v6, vI v6, vI v7, vI v8, vI v9, vI v10, vI v11, vI v12, vI v13, vR b244, vI j293_s0_283, vI (own_in4 j293_s0_283 v6 v7 v8 v9 v10 v11 v12 v13), .unset] [])) _
                refine XS.iload X296.here hx rfl (hb hby at_350) rfl ?_
                show Steps p.tables e below (T296.setTop (mkF m 352 #[vI p0, vI p1, vI p2, vI p3, vI p4, vI p5, vI (4 : Int32), vI v6, vI v6, vI v7, vI v8, vI v9, vI v10, vI v11, vI v12, vI v13, vR b244, vI j293_s0_283, vI (own_in4 j293_s0_283 v6 v7 v8 v9 v10 v11 v12 v13), .unset] [(.int (4 : Int32))])) _
                refine XS.iconst X296.here hx rfl (hb hby at_352) ?_
                show Steps p.tables e below (T296.setTop (mkF m 353 #[vI p0, vI p1, vI p2, vI p3, vI p4, vI p5, vI (4 : Int32), vI v6, vI v6, vI v7, vI v8, vI v9, vI v10, vI v11, vI v12, vI v13, vR b244, vI j293_s0_283, vI (own_in4 j293_s0_283 v6 v7 v8 v9 v10 v11 v12 v13), .unset] [(.int (2 : Int32)), (.int (4 : Int32))])) _
                refine XS.icmpNo X296.here hx rfl (hb hby at_353) rfl (tlt (by decide : (2 : Int32) < (4 : Int32))).2.2.2 ?_
                show Steps p.tables e below (T296.setTop (mkF m 356 #[vI p0, vI p1, vI p2, vI p3, vI p4, vI p5, vI (4 : Int32), vI v6, vI v6, vI v7, vI v8, vI v9, vI v10, vI v11, vI v12, vI v13, vR b244, vI j293_s0_283, vI (own_in4 j293_s0_283 v6 v7 v8 v9 v10 v11 v12 v13), .unset] [])) _
                refine XS.iload X296.here hx rfl (hb hby at_356) rfl ?_
                show Steps p.tables e below (T296.setTop (mkF m 358 #[vI p0, vI p1, vI p2, vI p3, vI p4, vI p5, vI (4 : Int32), vI v6, vI v6, vI v7, vI v8, vI v9, vI v10, vI v11, vI v12, vI v13, vR b244, vI j293_s0_283, vI (own_in4 j293_s0_283 v6 v7 v8 v9 v10 v11 v12 v13), .unset] [(.int v10)])) _
                refine XS.iload X296.here hx rfl (hb hby at_358) rfl ?_
                show Steps p.tables e below (T296.setTop (mkF m 360 #[vI p0, vI p1, vI p2, vI p3, vI p4, vI p5, vI (4 : Int32), vI v6, vI v6, vI v7, vI v8, vI v9, vI v10, vI v11, vI v12, vI v13, vR b244, vI j293_s0_283, vI (own_in4 j293_s0_283 v6 v7 v8 v9 v10 v11 v12 v13), .unset] [(.int j293_s0_283), (.int v10)])) _
                exact k)
              by_cases c360_368 : j293_s0_283 < v10
              · skip
                have pre369 : Go p.tables e below S0 T296 (mkF m 380 #[vI p0, vI p1, vI p2, vI p3, vI p4, vI p5, vI (4 : Int32), vI v6, vI v6, vI v7, vI v8, vI v9, vI v10, vI v11, vI v12, vI v13, vR b244, vI j293_s0_283, vI (own_in4 j293_s0_283 v6 v7 v8 v9 v10 v11 v12 v13), .unset] [(.int j293_s0_283), (.int v12)]) := fun t k => pre367 t (by
                  refine XS.icmpYes X296.here hx rfl (pc0 := 360) (pc' := 370) rfl (hb hby at_360) rfl (tlt c360_368).2.2.1 (by decide) (by decide) ?_
                  show Steps p.tables e below (T296.setTop (mkF m 370 #[vI p0, vI p1, vI p2, vI p3, vI p4, vI p5, vI (4 : Int32), vI v6, vI v6, vI v7, vI v8, vI v9, vI v10, vI v11, vI v12, vI v13, vR b244, vI j293_s0_283, vI (own_in4 j293_s0_283 v6 v7 v8 v9 v10 v11 v12 v13), .unset] [])) _
                  refine XS.iload X296.here hx rfl (hb hby at_370) rfl ?_
                  show Steps p.tables e below (T296.setTop (mkF m 372 #[vI p0, vI p1, vI p2, vI p3, vI p4, vI p5, vI (4 : Int32), vI v6, vI v6, vI v7, vI v8, vI v9, vI v10, vI v11, vI v12, vI v13, vR b244, vI j293_s0_283, vI (own_in4 j293_s0_283 v6 v7 v8 v9 v10 v11 v12 v13), .unset] [(.int (4 : Int32))])) _
                  refine XS.iconst X296.here hx rfl (hb hby at_372) ?_
                  show Steps p.tables e below (T296.setTop (mkF m 373 #[vI p0, vI p1, vI p2, vI p3, vI p4, vI p5, vI (4 : Int32), vI v6, vI v6, vI v7, vI v8, vI v9, vI v10, vI v11, vI v12, vI v13, vR b244, vI j293_s0_283, vI (own_in4 j293_s0_283 v6 v7 v8 v9 v10 v11 v12 v13), .unset] [(.int (3 : Int32)), (.int (4 : Int32))])) _
                  refine XS.icmpNo X296.here hx rfl (hb hby at_373) rfl (tlt (by decide : (3 : Int32) < (4 : Int32))).2.2.2 ?_
                  show Steps p.tables e below (T296.setTop (mkF m 376 #[vI p0, vI p1, vI p2, vI p3, vI p4, vI p5, vI (4 : Int32), vI v6, vI v6, vI v7, vI v8, vI v9, vI v10, vI v11, vI v12, vI v13, vR b244, vI j293_s0_283, vI (own_in4 j293_s0_283 v6 v7 v8 v9 v10 v11 v12 v13), .unset] [])) _
                  refine XS.iload X296.here hx rfl (hb hby at_376) rfl ?_
                  show Steps p.tables e below (T296.setTop (mkF m 378 #[vI p0, vI p1, vI p2, vI p3, vI p4, vI p5, vI (4 : Int32), vI v6, vI v6, vI v7, vI v8, vI v9, vI v10, vI v11, vI v12, vI v13, vR b244, vI j293_s0_283, vI (own_in4 j293_s0_283 v6 v7 v8 v9 v10 v11 v12 v13), .unset] [(.int v12)])) _
                  refine XS.iload X296.here hx rfl (hb hby at_378) rfl ?_
                  show Steps p.tables e below (T296.setTop (mkF m 380 #[vI p0, vI p1, vI p2, vI p3, vI p4, vI p5, vI (4 : Int32), vI v6, vI v6, vI v7, vI v8, vI v9, vI v10, vI v11, vI v12, vI v13, vR b244, vI j293_s0_283, vI (own_in4 j293_s0_283 v6 v7 v8 v9 v10 v11 v12 v13), .unset] [(.int j293_s0_283), (.int v12)])) _
                  exact k)
                by_cases c380_370 : j293_s0_283 < v12
                · skip
                  have pre371 : Go p.tables e below S0 T296 (mkF m 395 #[vI p0, vI p1, vI p2, vI p3, vI p4, vI p5, vI (4 : Int32), vI v6, vI v6, vI v7, vI v8, vI v9, vI v10, vI v11, vI v12, vI v13, vR b244, vI j293_s0_283, vI (own_in4 j293_s0_283 v6 v7 v8 v9 v10 v11 v12 v13), .unset] [(.int (0 : Int32))]) := fun t k => pre369 t (by
                    refine XS.icmpYes X296.here hx rfl (pc0 := 380) (pc' := 394) rfl (hb hby at_380) rfl (tlt c380_370).2.2.1 (by decide) (by decide) ?_
                    show Steps p.tables e below (T296.setTop (mkF m 394 #[vI p0, vI p1, vI p2, vI p3, vI p4, vI p5, vI (4 : Int32), vI v6, vI v6, vI v7, vI v8, vI v9, vI v10, vI v11, vI v12, vI v13, vR b244, vI j293_s0_283, vI (own_in4 j293_s0_283 v6 v7 v8 v9 v10 v11 v12 v13), .unset] [])) _
                    refine XS.iconst X296.here hx rfl (hb hby at_394) ?_
                    show Steps p.tables e below (T296.setTop (mkF m 395 #[vI p0, vI p1, vI p2, vI p3, vI p4, vI p5, vI (4 : Int32), vI v6, vI v6, vI v7, vI v8, vI v9, vI v10, vI v11, vI v12, vI v13, vR b244, vI j293_s0_283, vI (own_in4 j293_s0_283 v6 v7 v8 v9 v10 v11 v12 v13), .unset] [(.int (0 : Int32))])) _
                    exact k)
                  exact tail391 ⟨(0 : Int32), (by simp [own_in4, c320_298, c327_343, c340_345, c347_366, c360_368, c380_370]), pre371⟩
                · skip
                  have pre372 : Go p.tables e below S0 T296 (mkF m 387 #[vI p0, vI p1, vI p2, vI p3, vI p4, vI p5, vI (4 : Int32), vI v6, vI v6, vI v7, vI v8, vI v9, vI v10, vI v11, vI v12, vI v13, vR b244, vI j293_s0_283, vI (own_in4 j293_s0_283 v6 v7 v8 v9 v10 v11 v12 v13), .unset] [(.int v13), (.int j293_s0_283)]) := fun t k => pre369 t (by
                    refine XS.icmpNo X296.here hx rfl (hb hby at_380) rfl (flt c380_370).2.2.1 ?_
                    show Steps p.tables e below (T296.setTop (mkF m 383 #[vI p0, vI p1, vI p2, vI p3, vI p4, vI p5, vI (4 : Int32), vI v6, vI v6, vI v7, vI v8, vI v9, vI v10, vI v11, vI v12, vI v13, vR b244, vI j293_s0_283, vI (own_in4 j293_s0_283 v6 v7 v8 v9 v10 v11 v12 v13), .unset] [])) _
                    refine XS.iload X296.here hx rfl (hb hby at_383) rfl ?_
                    show Steps p.tables e below (T296.setTop (mkF m 385 #[vI p0, vI p1, vI p2, vI p3, vI p4, vI p5, vI (4 : Int32), vI v6, vI v6, vI v7, vI v8, vI v9, vI v10, vI v11, vI v12, vI v13, vR b244, vI j293_s0_283, vI (own_in4 j293_s0_283 v6 v7 v8 v9 v10 v11 v12 v13), .unset] [(.int j293_s0_283)])) _
                    refine XS.iload X296.here hx rfl (hb hby at_385) rfl ?_
                    show Steps p.tables e below (T296.setTop (mkF m 387 #[vI p0, vI p1, vI p2, vI p3, vI p4, vI p5, vI (4 : Int32), vI v6, vI v6, vI v7, vI v8, vI v9, vI v10, vI v11, vI v12, vI v13, vR b244, vI j293_s0_283, vI (own_in4 j293_s0_283 v6 v7 v8 v9 v10 v11 v12 v13), .unset] [(.int v13), (.int j293_s0_283)])) _
                    exact k)
                  by_cases c387_373 : v13 < j293_s0_283
                  · skip
                    have pre374 : Go p.tables e below S0 T296 (mkF m 395 #[vI p0, vI p1, vI p2, vI p3, vI p4, vI p5, vI (4 : Int32), vI v6, vI v6, vI v7, vI v8, vI v9, vI v10, vI v11, vI v12, vI v13, vR b244, vI j293_s0_283, vI (own_in4 j293_s0_283 v6 v7 v8 v9 v10 v11 v12 v13), .unset] [(.int (0 : Int32))]) := fun t k => pre372 t (by
                      refine XS.icmpYes X296.here hx rfl (pc0 := 387) (pc' := 394) rfl (hb hby at_387) rfl (tlt c387_373).2.2.1 (by decide) (by decide) ?_
                      show Steps p.tables e below (T296.setTop (mkF m 394 #[vI p0, vI p1, vI p2, vI p3, vI p4, vI p5, vI (4 : Int32), vI v6, vI v6, vI v7, vI v8, vI v9, vI v10, vI v11, vI v12, vI v13, vR b244, vI j293_s0_283, vI (own_in4 j293_s0_283 v6 v7 v8 v9 v10 v11 v12 v13), .unset] [])) _
                      refine XS.iconst X296.here hx rfl (hb hby at_394) ?_
                      show Steps p.tables e below (T296.setTop (mkF m 395 #[vI p0, vI p1, vI p2, vI p3, vI p4, vI p5, vI (4 : Int32), vI v6, vI v6, vI v7, vI v8, vI v9, vI v10, vI v11, vI v12, vI v13, vR b244, vI j293_s0_283, vI (own_in4 j293_s0_283 v6 v7 v8 v9 v10 v11 v12 v13), .unset] [(.int (0 : Int32))])) _
                      exact k)
                    exact tail391 ⟨(0 : Int32), (by simp [own_in4, c320_298, c327_343, c340_345, c347_366, c360_368, c380_370, c387_373]), pre374⟩
                  · skip
                    have pre375 : Go p.tables e below S0 T296 (mkF m 395 #[vI p0, vI p1, vI p2, vI p3, vI p4, vI p5, vI (4 : Int32), vI v6, vI v6, vI v7, vI v8, vI v9, vI v10, vI v11, vI v12, vI v13, vR b244, vI j293_s0_283, vI (own_in4 j293_s0_283 v6 v7 v8 v9 v10 v11 v12 v13), .unset] [(.int (1 : Int32))]) := fun t k => pre372 t (by
                      refine XS.icmpNo X296.here hx rfl (hb hby at_387) rfl (flt c387_373).2.2.1 ?_
                      show Steps p.tables e below (T296.setTop (mkF m 390 #[vI p0, vI p1, vI p2, vI p3, vI p4, vI p5, vI (4 : Int32), vI v6, vI v6, vI v7, vI v8, vI v9, vI v10, vI v11, vI v12, vI v13, vR b244, vI j293_s0_283, vI (own_in4 j293_s0_283 v6 v7 v8 v9 v10 v11 v12 v13), .unset] [])) _
                      refine XS.iconst X296.here hx rfl (hb hby at_390) ?_
                      show Steps p.tables e below (T296.setTop (mkF m 391 #[vI p0, vI p1, vI p2, vI p3, vI p4, vI p5, vI (4 : Int32), vI v6, vI v6, vI v7, vI v8, vI v9, vI v10, vI v11, vI v12, vI v13, vR b244, vI j293_s0_283, vI (own_in4 j293_s0_283 v6 v7 v8 v9 v10 v11 v12 v13), .unset] [(.int (1 : Int32))])) _
                      refine XS.goto X296.here hx rfl (pc0 := 391) (pc' := 395) rfl (hb hby at_391) (by decide) (by decide) ?_
                      show Steps p.tables e below (T296.setTop (mkF m 395 #[vI p0, vI p1, vI p2, vI p3, vI p4, vI p5, vI (4 : Int32), vI v6, vI v6, vI v7, vI v8, vI v9, vI v10, vI v11, vI v12, vI v13, vR b244, vI j293_s0_283, vI (own_in4 j293_s0_283 v6 v7 v8 v9 v10 v11 v12 v13), .unset] [(.int (1 : Int32))])) _
                      exact k)
                    exact tail391 ⟨(1 : Int32), (by simp [own_in4, c320_298, c327_343, c340_345, c347_366, c360_368, c380_370, c387_373]), pre375⟩
              · skip
                have pre376 : Go p.tables e below S0 T296 (mkF m 367 #[vI p0, vI p1, vI p2, vI p3, vI p4, vI p5, vI (4 : Int32), vI v6, vI v6, vI v7, vI v8, vI v9, vI v10, vI v11, vI v12, vI v13, vR b244, vI j293_s0_283, vI (own_in4 j293_s0_283 v6 v7 v8 v9 v10 v11 v12 v13), .unset] [(.int v11), (.int j293_s0_283)]) := fun t k => pre367 t (by
                  refine XS.icmpNo X296.here hx rfl (hb hby at_360) rfl (flt c360_368).2.2.1 ?_
                  show Steps p.tables e below (T296.setTop (mkF m 363 #[vI p0, vI p1, vI p2, vI p3, vI p4, vI p5, vI (4 : Int32), vI v6, vI v6, vI v7, vI v8, vI v9, vI v10, vI v11, vI v12, vI v13, vR b244, vI j293_s0_283, vI (own_in4 j293_s0_283 v6 v7 v8 v9 v10 v11 v12 v13), .unset] [])) _
                  refine XS.iload X296.here hx rfl (hb hby at_363) rfl ?_
                  show Steps p.tables e below (T296.setTop (mkF m 365 #[vI p0, vI p1, vI p2, vI p3, vI p4, vI p5, vI (4 : Int32), vI v6, vI v6, vI v7, vI v8, vI v9, vI v10, vI v11, vI v12, vI v13, vR b244, vI j293_s0_283, vI (own_in4 j293_s0_283 v6 v7 v8 v9 v10 v11 v12 v13), .unset] [(.int j293_s0_283)])) _
                  refine XS.iload X296.here hx rfl (hb hby at_365) rfl ?_
                  show Steps p.tables e below (T296.setTop (mkF m 367 #[vI p0, vI p1, vI p2, vI p3, vI p4, vI p5, vI (4 : Int32), vI v6, vI v6, vI v7, vI v8, vI v9, vI v10, vI v11, vI v12, vI v13, vR b244, vI j293_s0_283, vI (own_in4 j293_s0_283 v6 v7 v8 v9 v10 v11 v12 v13), .unset] [(.int v11), (.int j293_s0_283)])) _
                  exact k)
                by_cases c367_377 : v11 < j293_s0_283
                · skip
                  have pre378 : Go p.tables e below S0 T296 (mkF m 380 #[vI p0, vI p1, vI p2, vI p3, vI p4, vI p5, vI (4 : Int32), vI v6, vI v6, vI v7, vI v8, vI v9, vI v10, vI v11, vI v12, vI v13, vR b244, vI j293_s0_283, vI (own_in4 j293_s0_283 v6 v7 v8 v9 v10 v11 v12 v13), .unset] [(.int j293_s0_283), (.int v12)]) := fun t k => pre376 t (by
                    refine XS.icmpNo X296.here hx rfl (hb hby at_367) rfl (tlt c367_377).2.2.2 ?_
                    show Steps p.tables e below (T296.setTop (mkF m 370 #[vI p0, vI p1, vI p2, vI p3, vI p4, vI p5, vI (4 : Int32), vI v6, vI v6, vI v7, vI v8, vI v9, vI v10, vI v11, vI v12, vI v13, vR b244, vI j293_s0_283, vI (own_in4 j293_s0_283 v6 v7 v8 v9 v10 v11 v12 v13), .unset] [])) _
                    refine XS.iload X296.here hx rfl (hb hby at_370) rfl ?_
                    show Steps p.tables e below (T296.setTop (mkF m 372 #[vI p0, vI p1, vI p2, vI p3, vI p4, vI p5, vI (4 : Int32), vI v6, vI v6, vI v7, vI v8, vI v9, vI v10, vI v11, vI v12, vI v13, vR b244, vI j293_s0_283, vI (own_in4 j293_s0_283 v6 v7 v8 v9 v10 v11 v12 v13), .unset] [(.int (4 : Int32))])) _
                    refine XS.iconst X296.here hx rfl (hb hby at_372) ?_
                    show Steps p.tables e below (T296.setTop (mkF m 373 #[vI p0, vI p1, vI p2, vI p3, vI p4, vI p5, vI (4 : Int32), vI v6, vI v6, vI v7, vI v8, vI v9, vI v10, vI v11, vI v12, vI v13, vR b244, vI j293_s0_283, vI (own_in4 j293_s0_283 v6 v7 v8 v9 v10 v11 v12 v13), .unset] [(.int (3 : Int32)), (.int (4 : Int32))])) _
                    refine XS.icmpNo X296.here hx rfl (hb hby at_373) rfl (tlt (by decide : (3 : Int32) < (4 : Int32))).2.2.2 ?_
                    show Steps p.tables e below (T296.setTop (mkF m 376 #[vI p0, vI p1, vI p2, vI p3, vI p4, vI p5, vI (4 : Int32), vI v6, vI v6, vI v7, vI v8, vI v9, vI v10, vI v11, vI v12, vI v13, vR b244, vI j293_s0_283, vI (own_in4 j293_s0_283 v6 v7 v8 v9 v10 v11 v12 v13), .unset] [])) _
                    refine XS.iload X296.here hx rfl (hb hby at_376) rfl ?_
                    show Steps p.tables e below (T296.setTop (mkF m 378 #[vI p0, vI p1, vI p2, vI p3, vI p4, vI p5, vI (4 : Int32), vI v6, vI v6, vI v7, vI v8, vI v9, vI v10, vI v11, vI v12, vI v13, vR b244, vI j293_s0_283, vI (own_in4 j293_s0_283 v6 v7 v8 v9 v10 v11 v12 v13), .unset] [(.int v12)])) _
                    refine XS.iload X296.here hx rfl (hb hby at_378) rfl ?_
                    show Steps p.tables e below (T296.setTop (mkF m 380 #[vI p0, vI p1, vI p2, vI p3, vI p4, vI p5, vI (4 : Int32), vI v6, vI v6, vI v7, vI v8, vI v9, vI v10, vI v11, vI v12, vI v13, vR b244, vI j293_s0_283, vI (own_in4 j293_s0_283 v6 v7 v8 v9 v10 v11 v12 v13), .unset] [(.int j293_s0_283), (.int v12)])) _
                    exact k)
                  by_cases c380_379 : j293_s0_283 < v12
                  · skip
                    have pre380 : Go p.tables e below S0 T296 (mkF m 395 #[vI p0, vI p1, vI p2, vI p3, vI p4, vI p5, vI (4 : Int32), vI v6, vI v6, vI v7, vI v8, vI v9, vI v10, vI v11, vI v12, vI v13, vR b244, vI j293_s0_283, vI (own_in4 j293_s0_283 v6 v7 v8 v9 v10 v11 v12 v13), .unset] [(.int (0 : Int32))]) := fun t k => pre378 t (by
                      refine XS.icmpYes X296.here hx rfl (pc0 := 380) (pc' := 394) rfl (hb hby at_380) rfl (tlt c380_379).2.2.1 (by decide) (by decide) ?_
                      show Steps p.tables e below (T296.setTop (mkF m 394 #[vI p0, vI p1, vI p2, vI p3, vI p4, vI p5, vI (4 : Int32), vI v6, vI v6, vI v7, vI v8, vI v9, vI v10, vI v11, vI v12, vI v13, vR b244, vI j293_s0_283, vI (own_in4 j293_s0_283 v6 v7 v8 v9 v10 v11 v12 v13), .unset] [])) _
                      refine XS.iconst X296.here hx rfl (hb hby at_394) ?_
                      show Steps p.tables e below (T296.setTop (mkF m 395 #[vI p0, vI p1, vI p2, vI p3, vI p4, vI p5, vI (4 : Int32), vI v6, vI v6, vI v7, vI v8, vI v9, vI v10, vI v11, vI v12, vI v13, vR b244, vI j293_s0_283, vI (own_in4 j293_s0_283 v6 v7 v8 v9 v10 v11 v12 v13), .unset] [(.int (0 : Int32))])) _
                      exact k)
                    exact tail391 ⟨(0 : Int32), (by simp [own_in4, c320_298, c327_343, c340_345, c347_366, c360_368, c367_377, c380_379]), pre380⟩
                  · skip
                    have pre381 : Go p.tables e below S0 T296 (mkF m 387 #[vI p0, vI p1, vI p2, vI p3, vI p4, vI p5, vI (4 : Int32), vI v6, vI v6, vI v7, vI v8, vI v9, vI v10, vI v11, vI v12, vI v13, vR b244, vI j293_s0_283, vI (own_in4 j293_s0_283 v6 v7 v8 v9 v10 v11 v12 v13), .unset] [(.int v13), (.int j293_s0_283)]) := fun t k => pre378 t (by
                      refine XS.icmpNo X296.here hx rfl (hb hby at_380) rfl (flt c380_379).2.2.1 ?_
                      show Steps p.tables e below (T296.setTop (mkF m 383 #[vI p0, vI p1, vI p2, vI p3, vI p4, vI p5, vI (4 : Int32), vI v6, vI v6, vI v7, vI v8, vI v9, vI v10, vI v11, vI v12, vI v13, vR b244, vI j293_s0_283, vI (own_in4 j293_s0_283 v6 v7 v8 v9 v10 v11 v12 v13), .unset] [])) _
                      refine XS.iload X296.here hx rfl (hb hby at_383) rfl ?_
                      show Steps p.tables e below (T296.setTop (mkF m 385 #[vI p0, vI p1, vI p2, vI p3, vI p4, vI p5, vI (4 : Int32), vI v6, vI v6, vI v7, vI v8, vI v9, vI v10, vI v11, vI v12, vI v13, vR b244, vI j293_s0_283, vI (own_in4 j293_s0_283 v6 v7 v8 v9 v10 v11 v12 v13), .unset] [(.int j293_s0_283)])) _
                      refine XS.iload X296.here hx rfl (hb hby at_385) rfl ?_
                      show Steps p.tables e below (T296.setTop (mkF m 387 #[vI p0, vI p1, vI p2, vI p3, vI p4, vI p5, vI (4 : Int32), vI v6, vI v6, vI v7, vI v8, vI v9, vI v10, vI v11, vI v12, vI v13, vR b244, vI j293_s0_283, vI (own_in4 j293_s0_283 v6 v7 v8 v9 v10 v11 v12 v13), .unset] [(.int v13), (.int j293_s0_283)])) _
                      exact k)
                    by_cases c387_382 : v13 < j293_s0_283
                    · skip
                      have pre383 : Go p.tables e below S0 T296 (mkF m 395 #[vI p0, vI p1, vI p2, vI p3, vI p4, vI p5, vI (4 : Int32), vI v6, vI v6, vI v7, vI v8, vI v9, vI v10, vI v11, vI v12, vI v13, vR b244, vI j293_s0_283, vI (own_in4 j293_s0_283 v6 v7 v8 v9 v10 v11 v12 v13), .unset] [(.int (0 : Int32))]) := fun t k => pre381 t (by
                        refine XS.icmpYes X296.here hx rfl (pc0 := 387) (pc' := 394) rfl (hb hby at_387) rfl (tlt c387_382).2.2.1 (by decide) (by decide) ?_
                        show Steps p.tables e below (T296.setTop (mkF m 394 #[vI p0, vI p1, vI p2, vI p3, vI p4, vI p5, vI (4 : Int32), vI v6, vI v6, vI v7, vI v8, vI v9, vI v10, vI v11, vI v12, vI v13, vR b244, vI j293_s0_283, vI (own_in4 j293_s0_283 v6 v7 v8 v9 v10 v11 v12 v13), .unset] [])) _
                        refine XS.iconst X296.here hx rfl (hb hby at_394) ?_
                        show Steps p.tables e below (T296.setTop (mkF m 395 #[vI p0, vI p1, vI p2, vI p3, vI p4, vI p5, vI (4 : Int32), vI v6, vI v6, vI v7, vI v8, vI v9, vI v10, vI v11, vI v12, vI v13, vR b244, vI j293_s0_283, vI (own_in4 j293_s0_283 v6 v7 v8 v9 v10 v11 v12 v13), .unset] [(.int (0 : Int32))])) _
                        exact k)
                      exact tail391 ⟨(0 : Int32), (by simp [own_in4, c320_298, c327_343, c340_345, c347_366, c360_368, c367_377, c380_379, c387_382]), pre383⟩
                    · skip
                      have pre384 : Go p.tables e below S0 T296 (mkF m 395 #[vI p0, vI p1, vI p2, vI p3, vI p4, vI p5, vI (4 : Int32), vI v6, vI v6, vI v7, vI v8, vI v9, vI v10, vI v11, vI v12, vI v13, vR b244, vI j293_s0_283, vI (own_in4 j293_s0_283 v6 v7 v8 v9 v10 v11 v12 v13), .unset] [(.int (1 : Int32))]) := fun t k => pre381 t (by
                        refine XS.icmpNo X296.here hx rfl (hb hby at_387) rfl (flt c387_382).2.2.1 ?_
                        show Steps p.tables e below (T296.setTop (mkF m 390 #[vI p0, vI p1, vI p2, vI p3, vI p4, vI p5, vI (4 : Int32), vI v6, vI v6, vI v7, vI v8, vI v9, vI v10, vI v11, vI v12, vI v13, vR b244, vI j293_s0_283, vI (own_in4 j293_s0_283 v6 v7 v8 v9 v10 v11 v12 v13), .unset] [])) _
                        refine XS.iconst X296.here hx rfl (hb hby at_390) ?_
                        show Steps p.tables e below (T296.setTop (mkF m 391 #[vI p0, vI p1, vI p2, vI p3, vI p4, vI p5, vI (4 : Int32), vI v6, vI v6, vI v7, vI v8, vI v9, vI v10, vI v11, vI v12, vI v13, vR b244, vI j293_s0_283, vI (own_in4 j293_s0_283 v6 v7 v8 v9 v10 v11 v12 v13), .unset] [(.int (1 : Int32))])) _
                        refine XS.goto X296.here hx rfl (pc0 := 391) (pc' := 395) rfl (hb hby at_391) (by decide) (by decide) ?_
                        show Steps p.tables e below (T296.setTop (mkF m 395 #[vI p0, vI p1, vI p2, vI p3, vI p4, vI p5, vI (4 : Int32), vI v6, vI v6, vI v7, vI v8, vI v9, vI v10, vI v11, vI v12, vI v13, vR b244, vI j293_s0_283, vI (own_in4 j293_s0_283 v6 v7 v8 v9 v10 v11 v12 v13), .unset] [(.int (1 : Int32))])) _
                        exact k)
                      exact tail391 ⟨(1 : Int32), (by simp [own_in4, c320_298, c327_343, c340_345, c347_366, c360_368, c367_377, c380_379, c387_382]), pre384⟩
                · skip
                  have pre385 : Go p.tables e below S0 T296 (mkF m 395 #[vI p0, vI p1, vI p2, vI p3, vI p4, vI p5, vI (4 : Int32), vI v6, vI v6, vI v7, vI v8, vI v9, vI v10, vI v11, vI v12, vI v13, vR b244, vI j293_s0_283, vI (own_in4 j293_s0_283 v6 v7 v8 v9 v10 v11 v12 v13), .unset] [(.int (1 : Int32))]) := fun t k => pre376 t (by
                    refine XS.icmpYes X296.here hx rfl (pc0 := 367) (pc' := 390) rfl (hb hby at_367) rfl (flt c367_377).2.2.2 (by decide) (by decide) ?_
                    show Steps p.tables e below (T296.setTop (mkF m 390 #[vI p0, vI p1, vI p2, vI p3, vI p4, vI p5, vI (4 : Int32), vI v6, vI v6, vI v7, vI v8, vI v9, vI v10, vI v11, vI v12, vI v13, vR b244, vI j293_s0_283, vI (own_in4 j293_s0_283 v6 v7 v8 v9 v10 v11 v12 v13), .unset] [])) _
                    refine XS.iconst X296.here hx rfl (hb hby at_390) ?_
                    show Steps p.tables e below (T296.setTop (mkF m 391 #[vI p0, vI p1, vI p2, vI p3, vI p4, vI p5, vI (4 : Int32), vI v6, vI v6, vI v7, vI v8, vI v9, vI v10, vI v11, vI v12, vI v13, vR b244, vI j293_s0_283, vI (own_in4 j293_s0_283 v6 v7 v8 v9 v10 v11 v12 v13), .unset] [(.int (1 : Int32))])) _
                    refine XS.goto X296.here hx rfl (pc0 := 391) (pc' := 395) rfl (hb hby at_391) (by decide) (by decide) ?_
                    show Steps p.tables e below (T296.setTop (mkF m 395 #[vI p0, vI p1, vI p2, vI p3, vI p4, vI p5, vI (4 : Int32), vI v6, vI v6, vI v7, vI v8, vI v9, vI v10, vI v11, vI v12, vI v13, vR b244, vI j293_s0_283, vI (own_in4 j293_s0_283 v6 v7 v8 v9 v10 v11 v12 v13), .unset] [(.int (1 : Int32))])) _
                    exact k)
                  exact tail391 ⟨(1 : Int32), (by simp [own_in4, c320_298, c327_343, c340_345, c347_366, c360_368, c367_377]), pre385⟩
            · skip
              have pre386 : Go p.tables e below S0 T296 (mkF m 395 #[vI p0, vI p1, vI p2, vI p3, vI p4, vI p5, vI (4 : Int32), vI v6, vI v6, vI v7, vI v8, vI v9, vI v10, vI v11, vI v12, vI v13, vR b244, vI j293_s0_283, vI (own_in4 j293_s0_283 v6 v7 v8 v9 v10 v11 v12 v13), .unset] [(.int (1 : Int32))]) := fun t k => pre365 t (by
                refine XS.icmpYes X296.here hx rfl (pc0 := 347) (pc' := 390) rfl (hb hby at_347) rfl (flt c347_366).2.2.2 (by decide) (by decide) ?_
                show Steps p.tables e below (T296.setTop (mkF m 390 #[vI p0, vI p1, vI p2, vI p3, vI p4, vI p5, vI (4 : Int32), vI v6, vI v6, vI v7, vI v8, vI v9, vI v10, vI v11, vI v12, vI v13, vR b244, vI j293_s0_283, vI (own_in4 j293_s0_283 v6 v7 v8 v9 v10 v11 v12 v13), .unset] [])) _
                refine XS.iconst X296.here hx rfl (hb hby at_390) ?_
                show Steps p.tables e below (T296.setTop (mkF m 391 #[vI p0, vI p1, vI p2, vI p3, vI p4, vI p5, vI (4 : Int32), vI v6, vI v6, vI v7, vI v8, vI v9, vI v10, vI v11, vI v12, vI v13, vR b244, vI j293_s0_283, vI (own_in4 j293_s0_283 v6 v7 v8 v9 v10 v11 v12 v13), .unset] [(.int (1 : Int32))])) _
                refine XS.goto X296.here hx rfl (pc0 := 391) (pc' := 395) rfl (hb hby at_391) (by decide) (by decide) ?_
                show Steps p.tables e below (T296.setTop (mkF m 395 #[vI p0, vI p1, vI p2, vI p3, vI p4, vI p5, vI (4 : Int32), vI v6, vI v6, vI v7, vI v8, vI v9, vI v10, vI v11, vI v12, vI v13, vR b244, vI j293_s0_283, vI (own_in4 j293_s0_283 v6 v7 v8 v9 v10 v11 v12 v13), .unset] [(.int (1 : Int32))])) _
                exact k)
              exact tail391 ⟨(1 : Int32), (by simp [own_in4, c320_298, c327_343, c340_345, c347_366]), pre386⟩
        · skip
          have pre387 : Go p.tables e below S0 T296 (mkF m 395 #[vI p0, vI p1, vI p2, vI p3, vI p4, vI p5, vI (4 : Int32), vI v6, vI v6, vI v7, vI v8, vI v9, vI v10, vI v11, vI v12, vI v13, vR b244, vI j293_s0_283, vI (own_in4 j293_s0_283 v6 v7 v8 v9 v10 v11 v12 v13), .unset] [(.int (1 : Int32))]) := fun t k => pre342 t (by
            refine XS.icmpYes X296.here hx rfl (pc0 := 327) (pc' := 390) rfl (hb hby at_327) rfl (flt c327_343).2.2.2 (by decide) (by decide) ?_
            show Steps p.tables e below (T296.setTop (mkF m 390 #[vI p0, vI p1, vI p2, vI p3, vI p4, vI p5, vI (4 : Int32), vI v6, vI v6, vI v7, vI v8, vI v9, vI v10, vI v11, vI v12, vI v13, vR b244, vI j293_s0_283, vI (own_in4 j293_s0_283 v6 v7 v8 v9 v10 v11 v12 v13), .unset] [])) _
            refine XS.iconst X296.here hx rfl (hb hby at_390) ?_
            show Steps p.tables e below (T296.setTop (mkF m 391 #[vI p0, vI p1, vI p2, vI p3, vI p4, vI p5, vI (4 : Int32), vI v6, vI v6, vI v7, vI v8, vI v9, vI v10, vI v11, vI v12, vI v13, vR b244, vI j293_s0_283, vI (own_in4 j293_s0_283 v6 v7 v8 v9 v10 v11 v12 v13), .unset] [(.int (1 : Int32))])) _
            refine XS.goto X296.here hx rfl (pc0 := 391) (pc' := 395) rfl (hb hby at_391) (by decide) (by decide) ?_
            show Steps p.tables e below (T296.setTop (mkF m 395 #[vI p0, vI p1, vI p2, vI p3, vI p4, vI p5, vI (4 : Int32), vI v6, vI v6, vI v7, vI v8, vI v9, vI v10, vI v11, vI v12, vI v13, vR b244, vI j293_s0_283, vI (own_in4 j293_s0_283 v6 v7 v8 v9 v10 v11 v12 v13), .unset] [(.int (1 : Int32))])) _
            exact k)
          exact tail391 ⟨(1 : Int32), (by simp [own_in4, c320_298, c327_343]), pre387⟩
    rintro ⟨j395_s0_388, hj395_389, pre390⟩
    have key := hj395_389.symm
    have pre392 : Go p.tables e below S0 T296 (mkF m 401 #[vI p0, vI p1, vI p2, vI p3, vI p4, vI p5, vI (4 : Int32), vI v6, vI v6, vI v7, vI v8, vI v9, vI v10, vI v11, vI v12, vI v13, vR b244, vI j293_s0_283, vI (own_in4 j293_s0_283 v6 v7 v8 v9 v10 v11 v12 v13), vI j395_s0_388] [(.int j395_s0_388), (.int (own_in4 j293_s0_283 v6 v7 v8 v9 v10 v11 v12 v13))]) := fun t k => pre390 t (by
      refine XS.istore X296.here hx rfl (hb hby at_395) rfl (l' := #[vI p0, vI p1, vI p2, vI p3, vI p4, vI p5, vI (4 : Int32), vI v6, vI v6, vI v7, vI v8, vI v9, vI v10, vI v11, vI v12, vI v13, vR b244, vI j293_s0_283, vI (own_in4 j293_s0_283 v6 v7 v8 v9 v10 v11 v12 v13), vI j395_s0_388]) rfl ?_
      show Steps p.tables e below (T296.setTop (mkF m 397 #[vI p0, vI p1, vI p2, vI p3, vI p4, vI p5, vI (4 : Int32), vI v6, vI v6, vI v7, vI v8, vI v9, vI v10, vI v11, vI v12, vI v13, vR b244, vI j293_s0_283, vI (own_in4 j293_s0_283 v6 v7 v8 v9 v10 v11 v12 v13), vI j395_s0_388] [])) _
      refine XS.iload X296.here hx rfl (hb hby at_397) rfl ?_
      show Steps p.tables e below (T296.setTop (mkF m 399 #[vI p0, vI p1, vI p2, vI p3, vI p4, vI p5, vI (4 : Int32), vI v6, vI v6, vI v7, vI v8, vI v9, vI v10, vI v11, vI v12, vI v13, vR b244, vI j293_s0_283, vI (own_in4 j293_s0_283 v6 v7 v8 v9 v10 v11 v12 v13), vI j395_s0_388] [(.int (own_in4 j293_s0_283 v6 v7 v8 v9 v10 v11 v12 v13))])) _
      refine XS.iload X296.here hx rfl (hb hby at_399) rfl ?_
      show Steps p.tables e below (T296.setTop (mkF m 401 #[vI p0, vI p1, vI p2, vI p3, vI p4, vI p5, vI (4 : Int32), vI v6, vI v6, vI v7, vI v8, vI v9, vI v10, vI v11, vI v12, vI v13, vR b244, vI j293_s0_283, vI (own_in4 j293_s0_283 v6 v7 v8 v9 v10 v11 v12 v13), vI j395_s0_388] [(.int j395_s0_388), (.int (own_in4 j293_s0_283 v6 v7 v8 v9 v10 v11 v12 v13))])) _
      exact k)
    have cc393 : (own_in4 j293_s0_283 v6 v7 v8 v9 v10 v11 v12 v13) = j395_s0_388 := key
    have pre394 : Go p.tables e below S0 T296 (mkF m 409 #[vI p0, vI p1, vI p2, vI p3, vI p4, vI p5, vI (4 : Int32), vI v6, vI v6, vI v7, vI v8, vI v9, vI v10, vI v11, vI v12, vI v13, vR b244, vI j293_s0_283, vI (own_in4 j293_s0_283 v6 v7 v8 v9 v10 v11 v12 v13), vI j395_s0_388] [(.int (1 : Int32))]) := fun t k => pre392 t (by
      refine XS.icmpNo X296.here hx rfl (hb hby at_401) rfl (teq cc393).2 ?_
      show Steps p.tables e below (T296.setTop (mkF m 404 #[vI p0, vI p1, vI p2, vI p3, vI p4, vI p5, vI (4 : Int32), vI v6, vI v6, vI v7, vI v8, vI v9, vI v10, vI v11, vI v12, vI v13, vR b244, vI j293_s0_283, vI (own_in4 j293_s0_283 v6 v7 v8 v9 v10 v11 v12 v13), vI j395_s0_388] [])) _
      refine XS.iconst X296.here hx rfl (hb hby at_404) ?_
      show Steps p.tables e below (T296.setTop (mkF m 405 #[vI p0, vI p1, vI p2, vI p3, vI p4, vI p5, vI (4 : Int32), vI v6, vI v6, vI v7, vI v8, vI v9, vI v10, vI v11, vI v12, vI v13, vR b244, vI j293_s0_283, vI (own_in4 j293_s0_283 v6 v7 v8 v9 v10 v11 v12 v13), vI j395_s0_388] [(.int (1 : Int32))])) _
      refine XS.goto X296.here hx rfl (pc0 := 405) (pc' := 409) rfl (hb hby at_405) (by decide) (by decide) ?_
      show Steps p.tables e below (T296.setTop (mkF m 409 #[vI p0, vI p1, vI p2, vI p3, vI p4, vI p5, vI (4 : Int32), vI v6, vI v6, vI v7, vI v8, vI v9, vI v10, vI v11, vI v12, vI v13, vR b244, vI j293_s0_283, vI (own_in4 j293_s0_283 v6 v7 v8 v9 v10 v11 v12 v13), vI j395_s0_388] [(.int (1 : Int32))])) _
      exact k)
    obtain ⟨fs, hr, hrun, hended, hW, hsame⟩ := X296.leave (v := some (.int (1 : Int32))) (fun h => by rw [Bd.returns] at h; cases h)
    exact ⟨_, _, pre394.fin hS0 (retN X296 hx (t := .boolean) Bd.returns (by simp) (hb hby at_409) hr), hrun, hended, _, _, rfl, (by
      show Q0 Z p0 p1 p2 p3 p4 p5 h0 n0 _ T296.heap _
      rw [eq296]
      exact ⟨rfl, N296⟩), ⟨_, rfl⟩, hW, hsame.mono (by decide) (by decide)⟩
set_option maxRecDepth 65536 in
set_option maxHeartbeats 40000000 in
theorem comes_1 {Post : Tables → Env → Array Value → State → Outcome → State → Prop} (hpost : ∀ tb e args s v u, (limb_1_1.after args s (.returned v) u = true ∧ limb_1_2.after args s (.returned v) u = true ∧ True) → FrameEnd s (.returned v) u (Jvm.fieldLocs frame_1_writes args s ++ Jvm.arrayLocs frame_1_arrays args s ++ Jvm.staticLocs frame_1_statics s) 16 128 → Post tb e args s (.returned v) u) :
    ArmFor flags0 classFile x code maxLocals ret World_1 tables_1 room_1 Calls_1 rest_1 Pre_1 Post := by
  intro l hfl _ _ p e ha hc hk s m args below hf hA hF happ hP
  obtain ⟨hcalls, hrest, hpre⟩ := hP
  obtain ⟨-, -, -, hnamed, -, -, -, hat⟩ := (Spec.applies_iff hf).mp happ
  obtain ⟨hg, hn⟩ := and_e (Cond.before_iff.mp (show (Jvm.Cond.and given_1 narrow_1).before args s = true from hpre))
  obtain ⟨g0, r0⟩ := and_e hg
  obtain ⟨g1, r1⟩ := and_e r0
  obtain ⟨g2, r2⟩ := and_e r1
  obtain ⟨g3, r3⟩ := and_e r2
  obtain ⟨g4, r4⟩ := and_e r3
  obtain ⟨g5, r5⟩ := and_e r4
  obtain ⟨w0, w1, w2, w3, w4, w5, rfl⟩ : ∃ w0 w1 w2 w3 w4 w5 : Value, args = #[w0, w1, w2, w3, w4, w5] := by
    have hs : args.size = 6 := by simpa [Cond.value, given_1] using g0
    obtain ⟨L⟩ := args
    match L, hs with
    | [w0, w1, w2, w3, w4, w5], _ => exact ⟨w0, w1, w2, w3, w4, w5, rfl⟩
  have hw := fun d (hd : d ∈ tables_1) => atoms_spec (ws := Jvm.Cond.code x code maxLocals ret :: tables_1) hat d (List.mem_cons_of_mem _ hd)
  obtain ⟨i0, ei0⟩ := is_v g1
  obtain rfl : w0 = (.int i0) := Option.some.inj ei0
  obtain ⟨i1, ei1⟩ := is_v g2
  obtain rfl : w1 = (.int i1) := Option.some.inj ei1
  obtain ⟨i2, ei2⟩ := is_v g3
  obtain rfl : w2 = (.int i2) := Option.some.inj ei2
  obtain ⟨i3, ei3⟩ := is_v g4
  obtain rfl : w3 = (.int i3) := Option.some.inj ei3
  obtain ⟨i4, ei4⟩ := is_v g5
  obtain rfl : w4 = (.int i4) := Option.some.inj ei4
  obtain ⟨i5, ei5⟩ := is_v r5
  obtain rfl : w5 = (.int i5) := Option.some.inj ei5
  obtain ⟨n, o, h1, h2, h3, _, L, rfl, ⟨rfl, N⟩, hq⟩ := rm0 l s _ hw tables_1 i0 i1 i2 i3 i4 i5  s.heap s.heap.size (Nat.le_refl _) p e ha hc hk s m _ below hf ((Spec.applies_iff_loose hf).mp happ).1 ⟨rfl, State.Warmed39.refl s, rfl⟩ trivial
  refine ⟨n, _, h1, h2, h3, hpost _ _ _ _ _ _ ⟨Cond.after_iff.mpr rfl, Cond.after_iff.mpr (eq_i res_at (Term.int_eval (1)) rfl), trivial⟩ ⟨hq.1, hq.2.1, (hq.2.2.sift fun y hy => Or.inr (N y hy)).mono (by decide) (by decide)⟩⟩
theorem main_1_1 : Claimed_1_1 := comes_1 fun _ _ _ _ _ _ h hF => ⟨h.1, hF⟩
theorem main_1_2 : Claimed_1_2 := comes_1 fun _ _ _ _ _ _ h hF => ⟨h.2.1, hF⟩
end Jvm.Pilot.@@N@@
namespace Jvm.Pilot.@@N@@
open Jvm Jvm.ClassFile Sem Op Lib Jvm.Free Jvm.Stand Jvm.Pilot.@@N@@.Jvm.D
/-! MADE BY PROGRAM (witnessworld.py) out of the Statement's table words and the real class files: 12 classes; the members and pool entries that the words name. The judged class is class 1, her method 1. -/
namespace start1
open Jvm.ClassFile
def u (s : String) : CpInfo := .utf8 (stringToUtf16 s)
/-- a pool by its gaps: so many unusable entries, then the entry; so many at the end -/
def gap : Nat → List CpInfo → List CpInfo
  | 0, r => r
  | n + 1, r => .unusable :: gap n r
def poolList (es : List (Nat × CpInfo)) (last : Nat) : List CpInfo := es.foldr (fun e r => gap e.1 (e.2 :: r)) (gap last [])
def pool (es : List (Nat × CpInfo)) (last : Nat) : Array CpInfo := ⟨poolList es last⟩
def fileOf (pool : Array CpInfo) (this : Nat) (attrs : Array Attribute := #[]) (ms : Array MethodInfo := #[]) (fl : Nat := 33) (sup : Nat := 0) (ifs : Array Nat := #[]) (fds : Array FieldInfo := #[]) : ClassFile where
  minorVersion := 0
  majorVersion := 65
  constantPool := pool
  accessFlags := fl
  thisClass := this
  superClass := sup
  interfaces := ifs
  fields := fds
  methods := ms
  attributes := attrs
def plain (name : String) (sup : Option ClassId) : Class where
  name := name
  kind := .ordinary
  loader := none
  accessFlags := 33
  super := sup
  interfaces := #[]
  cf := none
  fields := #[]
  methods := #[]
  instanceTypes := #[]
  staticTypes := #[]
  resolved := #[]
  callSites := []
  init := .initialized
  statics := none
  mirror := none

def pool0 : Array CpInfo := pool [(5, u "<init>"), (0, u "()V"), (1, .class_ 10), (1, u "java/lang/Object")] 113

def k0c0 : Code := { maxStack := 0, maxLocals := 1, code := object_method_1_code, exceptionTable := #[], attributes := #[] }
def k0m0 : Method := { name := "<init>", desc := "()V", sig := { parameters := [], returnType := none }, accessFlags := 1, code := some k0c0 }
/-- java/lang/Object -/
def k0 : Class := { plain "java/lang/Object" none with
  accessFlags := 33
  interfaces := #[]
  cf := some (fileOf pool0 8 #[] #[{ accessFlags := 1, nameIndex := 5, descriptorIndex := 6, attributes := #[] }] 33 0 #[] #[])
  fields := #[]
  methods := #[k0m0]
  instanceTypes := #[]
  staticTypes := #[]
  resolved := Array.replicate 124 none
  statics := none }

def pool1 : Array CpInfo := pool [(2, .class_ 4), (1, u "java/lang/Object"), (0, u "<init>"), (0, u "()V"), (2, .integer 2147483583), (0, .methodref 11 12), (0, .class_ 13), (0, .nameAndType 14 15), (0, u "java/lang/Math"), (0, u "min"), (0, u "(II)I"), (0, .integer 2147483656), (0, .methodref 11 18), (0, .nameAndType 19 15), (0, u "max"), (0, .class_ 21), (0, u "com/example/attest/attest/metadata/ScopeSyntax$Chars"), (0, .methodref 20 23), (0, .nameAndType 5 24), (0, u "([I)V"), (0, .methodref 20 26), (0, .nameAndType 27 28), (0, u "contains"), (0, u "(I)Z"), (0, .class_ 30), (0, u "com/example/attest/attest/metadata/CharsContainsPinLaw"), (2, u "law"), (0, u "(IIIIII)Z")] 9

def k1m0 : Method := { name := "<init>", desc := "()V", sig := { parameters := [], returnType := none }, accessFlags := 2, code := none }
def k1c1 : Code := { maxStack := 4, maxLocals := 20, code := code, exceptionTable := #[], attributes := #[] }
def k1m1 : Method := { name := "law", desc := "(IIIIII)Z", sig := { parameters := [.int, .int, .int, .int, .int, .int], returnType := some .boolean }, accessFlags := 9, code := some k1c1 }
/-- com/example/attest/attest/metadata/CharsContainsPinLaw -/
def k1 : Class := { plain "com/example/attest/attest/metadata/CharsContainsPinLaw" (some 0) with
  accessFlags := 49
  interfaces := #[]
  cf := some (fileOf pool1 29 #[] #[{ accessFlags := 2, nameIndex := 5, descriptorIndex := 6, attributes := #[] }, { accessFlags := 9, nameIndex := 33, descriptorIndex := 34, attributes := #[] }] 49 2 #[] #[])
  fields := #[]
  methods := #[k1m0, k1m1]
  instanceTypes := #[]
  staticTypes := #[]
  resolved := Array.replicate 44 none
  statics := none }

def pool2 : Array CpInfo := pool [(1, .class_ 2), (0, u "java/lang/Math"), (1, .class_ 6), (1, u "java/lang/Object"), (0, u "<init>"), (0, u "()V"), (89, .class_ 100), (1, u "java/lang/Math$RandomNumberGeneratorHolder"), (71, u "negativeZeroFloatBits"), (0, u "J"), (2, u "negativeZeroDoubleBits"), (21, u "max"), (2, u "min"), (43, u "$assertionsDisabled"), (0, u "Z"), (88, u "(II)I"), (2, u "twoToTheDoubleScaleDown"), (0, u "D"), (4, u "twoToTheDoubleScaleUp"), (9, u "E"), (3, u "PI"), (2, u "TAU"), (2, u "DEGREES_TO_RADIANS"), (0, u "RADIANS_TO_DEGREES")] 94

def k2m0 : Method := { name := "<init>", desc := "()V", sig := { parameters := [], returnType := none }, accessFlags := 2, code := none }
def k2c1 : Code := { maxStack := 2, maxLocals := 2, code := jdk_29_method_65_code, exceptionTable := #[], attributes := #[] }
def k2m1 : Method := { name := "max", desc := "(II)I", sig := { parameters := [.int, .int], returnType := some .int }, accessFlags := 9, code := some k2c1 }
def k2c2 : Code := { maxStack := 2, maxLocals := 2, code := jdk_29_method_69_code, exceptionTable := #[], attributes := #[] }
def k2m2 : Method := { name := "min", desc := "(II)I", sig := { parameters := [.int, .int], returnType := some .int }, accessFlags := 9, code := some k2c2 }
/-- java/lang/Math -/
def k2 : Class := { plain "java/lang/Math" (some 0) with
  accessFlags := 49
  interfaces := #[]
  cf := some (fileOf pool2 1 #[.nestMembers #[98]] #[{ accessFlags := 2, nameIndex := 7, descriptorIndex := 8, attributes := #[] }, { accessFlags := 9, nameIndex := 198, descriptorIndex := 335, attributes := #[] }, { accessFlags := 9, nameIndex := 201, descriptorIndex := 335, attributes := #[] }] 49 4 #[] #[{ accessFlags := 25, nameIndex := 354, descriptorIndex := 339, attributes := #[] }, { accessFlags := 25, nameIndex := 358, descriptorIndex := 339, attributes := #[] }, { accessFlags := 25, nameIndex := 361, descriptorIndex := 339, attributes := #[] }, { accessFlags := 26, nameIndex := 364, descriptorIndex := 339, attributes := #[] }, { accessFlags := 26, nameIndex := 365, descriptorIndex := 339, attributes := #[] }, { accessFlags := 26, nameIndex := 172, descriptorIndex := 173, attributes := #[] }, { accessFlags := 26, nameIndex := 176, descriptorIndex := 173, attributes := #[] }, { accessFlags := 8, nameIndex := 344, descriptorIndex := 339, attributes := #[] }, { accessFlags := 8, nameIndex := 338, descriptorIndex := 339, attributes := #[] }, { accessFlags := 4120, nameIndex := 245, descriptorIndex := 246, attributes := #[] }])
  fields := #[{ name := "E", type := .double, accessFlags := 25, slot := 0, constantValue := 0 }, { name := "PI", type := .double, accessFlags := 25, slot := 1, constantValue := 0 }, { name := "TAU", type := .double, accessFlags := 25, slot := 2, constantValue := 0 }, { name := "DEGREES_TO_RADIANS", type := .double, accessFlags := 26, slot := 3, constantValue := 0 }, { name := "RADIANS_TO_DEGREES", type := .double, accessFlags := 26, slot := 4, constantValue := 0 }, { name := "negativeZeroFloatBits", type := .long, accessFlags := 26, slot := 5, constantValue := 0 }, { name := "negativeZeroDoubleBits", type := .long, accessFlags := 26, slot := 6, constantValue := 0 }, { name := "twoToTheDoubleScaleUp", type := .double, accessFlags := 8, slot := 7, constantValue := 0 }, { name := "twoToTheDoubleScaleDown", type := .double, accessFlags := 8, slot := 8, constantValue := 0 }, { name := "$assertionsDisabled", type := .boolean, accessFlags := 4120, slot := 9, constantValue := 0 }]
  methods := #[k2m0, k2m1, k2m2]
  instanceTypes := #[]
  staticTypes := #[.double, .double, .double, .double, .double, .long, .long, .double, .double, .boolean]
  resolved := Array.replicate 460 none
  statics := none }

def pool3 : Array CpInfo := pool [(1, .methodref 2 3), (0, .class_ 4), (0, .nameAndType 5 6), (0, u "java/lang/Object"), (0, u "<init>"), (0, u "()V"), (0, .class_ 8), (0, u "java/lang/Record")] 13

def k3c0 : Code := { maxStack := 1, maxLocals := 1, code := jdk_30_method_1_code, exceptionTable := #[], attributes := #[] }
def k3m0 : Method := { name := "<init>", desc := "()V", sig := { parameters := [], returnType := none }, accessFlags := 4, code := some k3c0 }
/-- java/lang/Record -/
def k3 : Class := { plain "java/lang/Record" (some 0) with
  accessFlags := 1057
  interfaces := #[]
  cf := some (fileOf pool3 7 #[] #[{ accessFlags := 4, nameIndex := 5, descriptorIndex := 6, attributes := #[] }] 1057 2 #[] #[])
  fields := #[]
  methods := #[k3m0]
  instanceTypes := #[]
  staticTypes := #[]
  resolved := Array.replicate 22 none
  statics := none }

def pool4 : Array CpInfo := pool [(1, .class_ 2), (0, u "com/example/attest/attest/metadata/ScopeSyntax$Node"), (0, .class_ 4), (0, u "java/lang/Object"), (3, .class_ 9), (0, u "com/example/attest/attest/metadata/ScopeSyntax")] 18

/-- com/example/attest/attest/metadata/ScopeSyntax$Node -/
def k4 : Class := { plain "com/example/attest/attest/metadata/ScopeSyntax$Node" (some 0) with
  accessFlags := 1536
  interfaces := #[]
  cf := some (fileOf pool4 1 #[.nestHost 8] #[] 1536 3 #[] #[])
  fields := #[]
  methods := #[]
  instanceTypes := #[]
  staticTypes := #[]
  resolved := Array.replicate 28 none
  statics := none }

def pool5 : Array CpInfo := pool [(1, .methodref 2 3), (0, .class_ 4), (0, .nameAndType 5 6), (0, u "java/lang/Record"), (0, u "<init>"), (0, u "()V"), (0, .fieldref 8 9), (0, .class_ 10), (0, .nameAndType 11 12), (0, u "com/example/attest/attest/metadata/ScopeSyntax$Chars"), (0, u "ranges"), (0, u "[I"), (2, u "([I)V"), (21, .class_ 38), (0, u "com/example/attest/attest/metadata/ScopeSyntax$Node"), (5, u "contains"), (0, u "(I)Z"), (13, .class_ 60), (0, u "com/example/attest/attest/metadata/ScopeSyntax")] 19

def k5c0 : Code := { maxStack := 2, maxLocals := 2, code := prog_52_method_1_code, exceptionTable := #[], attributes := #[] }
def k5m0 : Method := { name := "<init>", desc := "([I)V", sig := { parameters := [(.array .int)], returnType := none }, accessFlags := 0, code := some k5c0 }
def k5c1 : Code := { maxStack := 4, maxLocals := 6, code := prog_52_method_3_code, exceptionTable := #[], attributes := #[] }
def k5m1 : Method := { name := "contains", desc := "(I)Z", sig := { parameters := [.int], returnType := some .boolean }, accessFlags := 0, code := some k5c1 }
/-- com/example/attest/attest/metadata/ScopeSyntax$Chars -/
def k5 : Class := { plain "com/example/attest/attest/metadata/ScopeSyntax$Chars" (some 3) with
  accessFlags := 48
  interfaces := #[4]
  cf := some (fileOf pool5 8 #[.nestHost 59] #[{ accessFlags := 0, nameIndex := 5, descriptorIndex := 15, attributes := #[] }, { accessFlags := 0, nameIndex := 44, descriptorIndex := 45, attributes := #[] }] 48 2 #[37] #[{ accessFlags := 18, nameIndex := 11, descriptorIndex := 12, attributes := #[] }])
  fields := #[{ name := "ranges", type := (.array .int), accessFlags := 18, slot := 0, constantValue := 0 }]
  methods := #[k5m0, k5m1]
  instanceTypes := #[(.array .int)]
  staticTypes := #[]
  resolved := Array.replicate 80 none
  statics := none }

def pool6 : Array CpInfo := pool [(1, u "java/lang/Cloneable"), (0, .class_ 1), (0, u "java/lang/Object"), (0, .class_ 3)] 3

/-- java/lang/Cloneable -/
def k6 : Class := { plain "java/lang/Cloneable" (some 0) with
  accessFlags := 1537
  interfaces := #[]
  cf := some (fileOf pool6 2 #[] #[] 1537 4 #[] #[])
  fields := #[]
  methods := #[]
  instanceTypes := #[]
  staticTypes := #[]
  resolved := Array.replicate 8 none
  statics := none }

def pool7 : Array CpInfo := pool [(1, u "java/io/Serializable"), (0, .class_ 1), (0, u "java/lang/Object"), (0, .class_ 3)] 3

/-- java/io/Serializable -/
def k7 : Class := { plain "java/io/Serializable" (some 0) with
  accessFlags := 1537
  interfaces := #[]
  cf := some (fileOf pool7 2 #[] #[] 1537 4 #[] #[])
  fields := #[]
  methods := #[]
  instanceTypes := #[]
  staticTypes := #[]
  resolved := Array.replicate 8 none
  statics := none }

/-- the primitive byte -/
def k8 : Class := { plain "byte" none with kind := .primitive 'B', accessFlags := 0x411 }
/-- [B -/
def k9 : Class := { plain "[B" (some 0) with kind := .array 8 .byte, interfaces := #[6, 7], accessFlags := 1041 }

/-- the primitive int -/
def k10 : Class := { plain "int" none with kind := .primitive 'I', accessFlags := 0x411 }
/-- [I -/
def k11 : Class := { plain "[I" (some 0) with kind := .array 10 .int, interfaces := #[6, 7], accessFlags := 1041 }

def heap : Heap := #[]
def classes : Array Class := #[k0, k1, k2, k3, k4, k5, k6, k7, k8, k9, k10, k11]
def interned : List (Array UInt16 × Addr) := []
def slotsUsed : Nat := 0
def theMethod : MethodId := ⟨1, 1⟩
def args0 : Array Value := #[.int 5, .int 6, .int 7, .int 8, .int 9, .int 10]
def aboutOver (below : List Frame) : State where
  vm := { classes := classes, interned := interned.toArray }
  heap := heap
  slotsUsed := slotsUsed
  threads := #[{ frames := .invoking theMethod args0 :: below }]
def below0 : List Frame := [.native { method := ⟨0, 0⟩, args := #[] }]
def about1 : State := aboutOver below0
def p0 : Program := .bare "" "" ""
def e0 : Env := launch0.env 0 0 0
theorem w_frames : about1.frames = Frame.invoking theMethod args0 :: below0 := rfl
set_option maxRecDepth 65536 in
theorem w_args : argsFit about1.vm theMethod args0 = true := by decide +kernel
set_option maxRecDepth 65536 in
theorem w_heap : heapFits about1 = true := by decide +kernel
set_option maxRecDepth 65536 in
theorem w_runnable : about1.curStatus? = some .runnable := by decide +kernel
set_option maxRecDepth 65536 in
theorem w_alone : about1.alone = true := by decide +kernel
set_option maxRecDepth 65536 in
theorem w_named : about1.methodNamed? x = some theMethod := by decide +kernel
set_option maxRecDepth 65536 in
theorem w_hears : about1.hears theMethod below0 = true := by decide +kernel
set_option maxRecDepth 65536 in
theorem w_ripe : about1.ripe theMethod args0 below0 = true := by decide +kernel
theorem w_running : about1.status = .running := rfl
set_option maxRecDepth 65536 in
theorem w_room : about1.hasRoom e0.platform room_1 = true :=
  launch0.hasRoom_least _ room_1 (by decide +kernel) (by decide +kernel) (by decide +kernel) (by decide +kernel) (by decide +kernel) (by decide +kernel)
theorem allAtoms_all (ts : List Jvm.Cond) (a : Array Jvm.Value) (st : Jvm.State) : (allAtoms ts).before a st = ts.all (fun c => c.before a st) := by
  induction ts with
  | nil => rfl
  | cons c t ih =>
    show (Jvm.Cond.and c (allAtoms t)).before a st = _
    rw [Jvm.Cond.before_and, ih, List.all_cons]
def words1 : List Jvm.Cond := Jvm.Cond.code x code maxLocals ret :: tables_1
/-- a 'code' word, met by the world's own term for the bytes: nothing is compared byte by byte -/
theorem code_word {y : MethodName} {bytes : ByteArray} {mx : Nat} {rt : Option FieldType} {a : Array Value} {s : State} {m : MethodId} {meth : Method} {c : Code} (h1 : s.methodNamed? y = some m) (h2 : s.vm.method? m = some meth) (h3 : meth.code = some c) (h4 : c.code = bytes)
    (h5 : (c.maxLocals == mx && c.exceptionTable.isEmpty && decide (c.maxStack ≤ mostOperands) && decide (meth.sig.returnType = rt) && !meth.locks && decide (parseMethodDescriptor y.desc = some meth.sig)) = true) : (Jvm.Cond.code y bytes mx rt).before a s = true := by
  simp only [Bool.and_eq_true, beq_iff_eq, Bool.not_eq_true', decide_eq_true_eq] at h5
  obtain ⟨⟨⟨⟨⟨g1, g2⟩, g3⟩, g4⟩, g5⟩, g6⟩ := h5
  simp [Cond.before, Cond.holds, Cond.value, h1, h2, h3, h4, g1, g2, g3, g4, g5, g6]
def isCode : Jvm.Cond → Bool
  | .code _ _ _ _ => true
  | _ => false
theorem all_split {L : List Jvm.Cond} {P : Jvm.Cond → Bool} (h1 : L.all (fun c => isCode c || P c) = true) (h2 : ∀ c ∈ L.filter isCode, P c = true) : L.all P = true := by
  refine List.all_eq_true.mpr fun c hc => ?_
  have h := List.all_eq_true.mp h1 c hc
  rcases Bool.eq_false_or_eq_true (isCode c) with hi | hi
  · exact h2 c (List.mem_filter.mpr ⟨hc, hi⟩)
  · simpa [hi] using h
set_option maxRecDepth 65536 in
theorem w_c0 : (Jvm.Cond.code x code maxLocals ret).before args0 about1 = true := code_word (m := ⟨1, 1⟩) (meth := k1m1) (c := k1c1) (by decide +kernel) rfl rfl rfl (by decide +kernel)
set_option maxRecDepth 65536 in
theorem w_c1 : (Jvm.Cond.code ({ cls := "java/lang/Math", name := "min", desc := "(II)I" } : Jvm.MethodName) jdk_29_method_69_code (2 : Nat) (Option.some Jvm.ClassFile.FieldType.int)).before args0 about1 = true := code_word (m := ⟨2, 2⟩) (meth := k2m2) (c := k2c2) (by decide +kernel) rfl rfl rfl (by decide +kernel)
set_option maxRecDepth 65536 in
theorem w_c2 : (Jvm.Cond.code ({ cls := "java/lang/Math", name := "max", desc := "(II)I" } : Jvm.MethodName) jdk_29_method_65_code (2 : Nat) (Option.some Jvm.ClassFile.FieldType.int)).before args0 about1 = true := code_word (m := ⟨2, 1⟩) (meth := k2m1) (c := k2c1) (by decide +kernel) rfl rfl rfl (by decide +kernel)
set_option maxRecDepth 65536 in
theorem w_c3 : (Jvm.Cond.code ({ cls := "com/example/attest/attest/metadata/ScopeSyntax$Chars", name := "<init>", desc := "([I)V" } : Jvm.MethodName) prog_52_method_1_code (2 : Nat) (Option.none : Option Jvm.ClassFile.FieldType)).before args0 about1 = true := code_word (m := ⟨5, 0⟩) (meth := k5m0) (c := k5c0) (by decide +kernel) rfl rfl rfl (by decide +kernel)
set_option maxRecDepth 65536 in
theorem w_c4 : (Jvm.Cond.code ({ cls := "java/lang/Record", name := "<init>", desc := "()V" } : Jvm.MethodName) jdk_30_method_1_code (1 : Nat) (Option.none : Option Jvm.ClassFile.FieldType)).before args0 about1 = true := code_word (m := ⟨3, 0⟩) (meth := k3m0) (c := k3c0) (by decide +kernel) rfl rfl rfl (by decide +kernel)
set_option maxRecDepth 65536 in
theorem w_c5 : (Jvm.Cond.code ({ cls := "java/lang/Object", name := "<init>", desc := "()V" } : Jvm.MethodName) object_method_1_code (1 : Nat) (Option.none : Option Jvm.ClassFile.FieldType)).before args0 about1 = true := code_word (m := ⟨0, 0⟩) (meth := k0m0) (c := k0c0) (by decide +kernel) rfl rfl rfl (by decide +kernel)
set_option maxRecDepth 65536 in
theorem w_c6 : (Jvm.Cond.code ({ cls := "com/example/attest/attest/metadata/ScopeSyntax$Chars", name := "contains", desc := "(I)Z" } : Jvm.MethodName) prog_52_method_3_code (6 : Nat) (Option.some Jvm.ClassFile.FieldType.boolean)).before args0 about1 = true := code_word (m := ⟨5, 1⟩) (meth := k5m1) (c := k5c1) (by decide +kernel) rfl rfl rfl (by decide +kernel)
def codes1 : List Jvm.Cond := [Jvm.Cond.code x code maxLocals ret, Jvm.Cond.code ({ cls := "java/lang/Math", name := "min", desc := "(II)I" } : Jvm.MethodName) jdk_29_method_69_code (2 : Nat) (Option.some Jvm.ClassFile.FieldType.int), Jvm.Cond.code ({ cls := "java/lang/Math", name := "max", desc := "(II)I" } : Jvm.MethodName) jdk_29_method_65_code (2 : Nat) (Option.some Jvm.ClassFile.FieldType.int), Jvm.Cond.code ({ cls := "com/example/attest/attest/metadata/ScopeSyntax$Chars", name := "<init>", desc := "([I)V" } : Jvm.MethodName) prog_52_method_1_code (2 : Nat) (Option.none : Option Jvm.ClassFile.FieldType), Jvm.Cond.code ({ cls := "java/lang/Record", name := "<init>", desc := "()V" } : Jvm.MethodName) jdk_30_method_1_code (1 : Nat) (Option.none : Option Jvm.ClassFile.FieldType), Jvm.Cond.code ({ cls := "java/lang/Object", name := "<init>", desc := "()V" } : Jvm.MethodName) object_method_1_code (1 : Nat) (Option.none : Option Jvm.ClassFile.FieldType), Jvm.Cond.code ({ cls := "com/example/attest/attest/metadata/ScopeSyntax$Chars", name := "contains", desc := "(I)Z" } : Jvm.MethodName) prog_52_method_3_code (6 : Nat) (Option.some Jvm.ClassFile.FieldType.boolean)]
set_option maxRecDepth 65536 in
theorem codes_eq : words1.filter isCode = codes1 := rfl
theorem w_codes : ∀ c ∈ words1.filter isCode, c.before args0 about1 = true := by
  rw [codes_eq]
  intro c hc
  simp only [codes1, List.mem_cons, List.not_mem_nil, or_false] at hc
  rcases hc with rfl | rfl | rfl | rfl | rfl | rfl | rfl
  · exact w_c0
  · exact w_c1
  · exact w_c2
  · exact w_c3
  · exact w_c4
  · exact w_c5
  · exact w_c6
set_option maxRecDepth 65536 in
theorem w_t1 : (words1.take 24).all (fun c => isCode c || c.before args0 about1) = true := by decide +kernel
set_option maxRecDepth 65536 in
theorem w_t2 : (words1.drop 24).all (fun c => isCode c || c.before args0 about1) = true := by decide +kernel
theorem w_tables : (allAtoms (Jvm.Cond.code x code maxLocals ret :: tables_1)).before args0 about1 = true := by
  rw [allAtoms_all]
  show words1.all (fun c => c.before args0 about1) = true
  refine all_split ?_ w_codes
  rw [← List.take_append_drop 24 words1, List.all_append, w_t1, w_t2]
  rfl
set_option maxRecDepth 65536 in
theorem w_case : (Jvm.Cond.and given_1 narrow_1).before args0 about1 = true := by decide +kernel
theorem w_applies : (headSpec (Jvm.Cond.code x code maxLocals ret :: tables_1) room_1).applies x e0.platform about1 = true :=
  (Spec.applies_iff w_frames).mpr ⟨w_running, w_runnable, w_alone, w_named, w_hears, w_ripe, w_room, w_tables⟩
theorem atStart : AtStart classFile x code maxLocals ret World_1 tables_1 room_1 Calls_1 rest_1 Pre_1 launch0 p0 e0 about1 theMethod args0 below0 :=
  ⟨lists_1, trivial, launch0.admits_env _ _ _, launch0.least_env, fairChoices_fair.cas, fairChoices_fair.clock, w_frames, w_args, w_heap, w_applies, trivial, trivial, w_case⟩
end start1
theorem witness_1 : WitnessClaimed_1 := ⟨start1.p0, start1.e0, start1.about1, start1.theMethod, start1.args0, start1.below0, start1.atStart⟩
end Jvm.Pilot.@@N@@
