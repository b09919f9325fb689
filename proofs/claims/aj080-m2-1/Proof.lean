import JvmDerived
import JvmDerived.Pilot.@@N@@Statement
import JvmDerived.Pilot.@@N@@Code
set_option linter.unusedVariables false
set_option linter.unusedSimpArgs false
namespace Jvm.RoadKit
open Sem ClassFile Op Lib Jvm.Stand Jvm.Free Jvm.LawKit
abbrev vI (x : Int32) : Slot := .val (.int x)
abbrev vJ (x : Int64) : Slot := .val (.long x)
abbrev vR (a : Addr) : Slot := .val (.ref a)
/-- from S0 the run comes to T with g on top -/
def Go (tb : Tables) (e : Env) (below : List Frame) (S0 T : State) (g : JFrame) : Prop := ∀ t, Steps tb e below (T.setTop g) t → Steps tb e below S0 t
theorem Go.fin {tb : Tables} {e : Env} {below : List Frame} {S0 S T t : State} {g : JFrame} (h : Go tb e below S0 T g) (q : S0 = S) (k : Steps tb e below (T.setTop g) t) : Steps tb e below S t := q ▸ h t k
section New
variable {p : Program} {l : Launch} {e : Env} {R : Room} {s : State} {m : MethodId} {args : Array Value} {below : List Frame} {meth : Method} {c : Code} {T : State} {locs : List Loc} {cells slots : Nat}
theorem retI (X : Stand p l e R s m args below meth c T locs cells slots) (hx : p.tables.exec = Jvm.exec) {pc : Nat} {Ls : Array Slot} {z : Int32} {rest : List Value} (hret : meth.sig.returnType = some .int) (hd : decode c.code pc = .ok (.ireturn, 1)) {fs : List Frame}
    (hl : ∀ (f : JFrame) (acts : List Action), f.method = m → f.locked = none → f.entered = [] → (doReturn e (T.setTop f) acts (some (.int z))).1 = T.setFrames fs) : Steps p.tables e below (T.setTop (mkF m pc Ls (.int z :: rest))) (T.setFrames fs) := by
  have hm' : T.vm.method? m = some meth := X.method'
  have hn : narrow .int (.int z) = .int z := rfl
  show Steps p.tables e below (T.setTop { method := m, pc := pc, locals := Ls, stack := _ :: rest, locked := none }) _
  jvm_step X.here [X.here.top, hx, hd, hm', hret, hn]
  first | (intro acts; rw [hl _ acts rfl rfl rfl]) | rw [hl _ _ rfl rfl rfl]
  exact Steps.refl _
theorem retJ (X : Stand p l e R s m args below meth c T locs cells slots) (hx : p.tables.exec = Jvm.exec) {pc : Nat} {Ls : Array Slot} {z : Int64} {rest : List Value} (hret : meth.sig.returnType = some .long) (hd : decode c.code pc = .ok (.lreturn, 1)) {fs : List Frame}
    (hl : ∀ (f : JFrame) (acts : List Action), f.method = m → f.locked = none → f.entered = [] → (doReturn e (T.setTop f) acts (some (.long z))).1 = T.setFrames fs) : Steps p.tables e below (T.setTop (mkF m pc Ls (.long z :: rest))) (T.setFrames fs) := by
  have hm' : T.vm.method? m = some meth := X.method'
  have hn : narrow .long (.long z) = .long z := rfl
  show Steps p.tables e below (T.setTop { method := m, pc := pc, locals := Ls, stack := _ :: rest, locked := none }) _
  jvm_step X.here [X.here.top, hx, hd, hm', hret, hn]
  first | (intro acts; rw [hl _ acts rfl rfl rfl]) | rw [hl _ _ rfl rfl rfl]
  exact Steps.refl _
end New
end Jvm.RoadKit
namespace Jvm.Pilot.@@N@@
open Jvm Jvm.ClassFile Sem Op Lib Jvm.Free Jvm.Stand Jvm.LawKit Jvm.RoadKit Bundle Jvm.Pilot.@@N@@.Jvm.D
def own_pick (p0 : Int32) (p1 : Int32) : Int32 := if p1 = (0 : Int32) then ((13 : Int32)) else (if p1 = (1 : Int32) then ((10 : Int32)) else ((p0 &&& (255 : Int32))))
theorem ef_1 (m : MethodId) (x0 : Int32) (x1 : Int32) : entryFrame m #[(.int x0), (.int x1)] 2 = mkF m 0 #[.val (.int x0), .val (.int x1)] [] := by first | (simp [entryFrame, mkF, argsToLocals, Value.category]; done) | rfl
theorem pn_0 : plainName "com/example/ratatoskr/ratatoskr/xml/TextPositionAdvancePinLaw" = true := by first | (simp [plainName, overriddenIn]; done) | decide +kernel
theorem d1_0 : decode method_3_code 0 = .ok (.iload_n 1, 1) := by decide +kernel
theorem d1_1 : decode method_3_code 1 = .ok (.ifCond .ne 6, 3) := by decide +kernel
theorem d1_4 : decode method_3_code 4 = .ok (.bipush 13, 2) := by decide +kernel
theorem d1_6 : decode method_3_code 6 = .ok (.ireturn, 1) := by decide +kernel
theorem d1_7 : decode method_3_code 7 = .ok (.iload_n 1, 1) := by decide +kernel
theorem d1_8 : decode method_3_code 8 = .ok (.iconst 1, 1) := by decide +kernel
theorem d1_9 : decode method_3_code 9 = .ok (.if_icmp .ne 6, 3) := by decide +kernel
theorem d1_12 : decode method_3_code 12 = .ok (.bipush 10, 2) := by decide +kernel
theorem d1_14 : decode method_3_code 14 = .ok (.ireturn, 1) := by decide +kernel
theorem d1_15 : decode method_3_code 15 = .ok (.iload_n 0, 1) := by decide +kernel
theorem d1_16 : decode method_3_code 16 = .ok (.sipush 255, 3) := by decide +kernel
theorem d1_19 : decode method_3_code 19 = .ok (.iand, 1) := by decide +kernel
theorem d1_20 : decode method_3_code 20 = .ok (.ireturn, 1) := by decide +kernel
def Q1 (Z : State) (p0 : Int32) (p1 : Int32) (h0 : Heap) (n0 : Nat) (v : Option Value) (h : Heap) (L : List Loc) : Prop := v = some (.int (own_pick p0 p1)) ∧ Fr n0 L ∧ h = h0
set_option maxRecDepth 65536 in
set_option maxHeartbeats 40000000 in
theorem rm1 (l : Launch) (Z : State) (A0 : Array Value) (hw : ∀ d ∈ tables_1, d.before A0 Z = true) (ws : List Jvm.Cond) (p0 : Int32) (p1 : Int32)  (h0 : Heap) (n0 : Nat) (Z0 : n0 ≤ h0.size)  :
    MetFree l (⟨"com/example/ratatoskr/ratatoskr/xml/TextPositionAdvancePinLaw", "pick", "(II)I"⟩ : MethodName) (head1 (Jvm.Cond.code (⟨"com/example/ratatoskr/ratatoskr/xml/TextPositionAdvancePinLaw", "pick", "(II)I"⟩ : MethodName) method_3_code 2 (some .int) :: ws) ({ frames := 0, cells := 0, slots := 0, locals := 0 } : Room)) (fun a U => a = #[(.int p0), (.int p1)] ∧ Z.Warmed39 U.vm ∧ U.heap = h0) (fun _ _ _ _ _ => True) (fun _ U o U' => ∃ v L, o = .returned v ∧ Q1 Z p0 p1 h0 n0 v U'.heap L ∧ FrameEnd U o U' L ({ frames := 0, cells := 0, slots := 0, locals := 0 } : Room).cells ({ frames := 0, cells := 0, slots := 0, locals := 0 } : Room).slots) := by
  refine MetFree.of_bodySF (plainFor_of_name pn_0) hisR ?_
  intro p e s m args below meth c s₁ Bd hml0 hP hK
  obtain ⟨rfl, hZ, hh⟩ := hP
  have hx := Bd.exec
  have hby := Bd.bytes
  have hml : c.maxLocals = 2 := hml0
  have hown : s.vm.findClass "com/example/ratatoskr/ratatoskr/xml/TextPositionAdvancePinLaw" = some m.cls := findClass_of_methodNamed Bd.named
  have hnm := (name_of_methodNamed Bd.named Bd.method).1
  have X0 : Stand p l e ({ frames := 0, cells := 0, slots := 0, locals := 0 } : Room) s m #[(.int p0), (.int p1)] below meth c s₁ [] 0 0 := Stand.of_body Bd
  have e0 : s₁.heap = h0 := by rw [← hh, Bd.state]; rfl
  have N0 := Fr.nil n0
  obtain ⟨S0, hS0⟩ : ∃ z, z = s₁.setTop (entryFrame m #[(.int p0), (.int p1)] 2) := ⟨_, rfl⟩
  have pre0 : Go p.tables e below S0 s₁ (mkF m 0 #[vI p0, vI p1] []) := fun t k => by rw [hS0]; exact castTop (ef_1 m p0 p1) k
  have pre1 : Go p.tables e below S0 s₁ (mkF m 1 #[vI p0, vI p1] [(.int p1)]) := fun t k => pre0 t (by
    refine XS.iloadN X0.here hx rfl (hb hby d1_0) rfl ?_
    show Steps p.tables e below (s₁.setTop (mkF m 1 #[vI p0, vI p1] [(.int p1)])) _
    exact k)
  by_cases c1_2 : p1 = (0 : Int32)
  · skip
    have pre3 : Go p.tables e below S0 s₁ (mkF m 6 #[vI p0, vI p1] [(.int (13 : Int32))]) := fun t k => pre1 t (by
      refine XS.ifNo X0.here hx rfl (hb hby d1_1) rfl ((if0 _ _).trans (teq c1_2).2) ?_
      show Steps p.tables e below (s₁.setTop (mkF m 4 #[vI p0, vI p1] [])) _
      refine XS.bipush X0.here hx rfl (hb hby d1_4) ?_
      show Steps p.tables e below (s₁.setTop (mkF m 6 #[vI p0, vI p1] [(.int (13 : Int32))])) _
      exact k)
    obtain ⟨fs, hr, hrun, hended, hW, hsame⟩ := X0.leave (v := some (.int (13 : Int32))) (fun h => by rw [Bd.returns] at h; cases h)
    exact ⟨_, _, pre3.fin hS0 (retI X0 hx Bd.returns (hb hby d1_6) hr), hrun, hended, _, _, rfl, (by
      show Q1 Z p0 p1 h0 n0 _ s₁.heap _
      rw [e0]
      exact ⟨congrArg (fun z => some (Value.int z)) (by simp [own_pick, c1_2]), N0, rfl⟩), ⟨_, rfl⟩, hW, hsame.mono (by decide) (by decide)⟩
  · skip
    have pre4 : Go p.tables e below S0 s₁ (mkF m 9 #[vI p0, vI p1] [(.int (1 : Int32)), (.int p1)]) := fun t k => pre1 t (by
      refine XS.ifYes X0.here hx rfl (pc0 := 1) (pc' := 7) rfl (hb hby d1_1) rfl ((if0 _ _).trans (feq c1_2).2) (by decide) (by decide) ?_
      show Steps p.tables e below (s₁.setTop (mkF m 7 #[vI p0, vI p1] [])) _
      refine XS.iloadN X0.here hx rfl (hb hby d1_7) rfl ?_
      show Steps p.tables e below (s₁.setTop (mkF m 8 #[vI p0, vI p1] [(.int p1)])) _
      refine XS.iconst X0.here hx rfl (hb hby d1_8) ?_
      show Steps p.tables e below (s₁.setTop (mkF m 9 #[vI p0, vI p1] [(.int (1 : Int32)), (.int p1)])) _
      exact k)
    by_cases c9_5 : p1 = (1 : Int32)
    · skip
      have pre6 : Go p.tables e below S0 s₁ (mkF m 14 #[vI p0, vI p1] [(.int (10 : Int32))]) := fun t k => pre4 t (by
        refine XS.icmpNo X0.here hx rfl (hb hby d1_9) rfl (teq c9_5).2 ?_
        show Steps p.tables e below (s₁.setTop (mkF m 12 #[vI p0, vI p1] [])) _
        refine XS.bipush X0.here hx rfl (hb hby d1_12) ?_
        show Steps p.tables e below (s₁.setTop (mkF m 14 #[vI p0, vI p1] [(.int (10 : Int32))])) _
        exact k)
      obtain ⟨fs, hr, hrun, hended, hW, hsame⟩ := X0.leave (v := some (.int (10 : Int32))) (fun h => by rw [Bd.returns] at h; cases h)
      exact ⟨_, _, pre6.fin hS0 (retI X0 hx Bd.returns (hb hby d1_14) hr), hrun, hended, _, _, rfl, (by
        show Q1 Z p0 p1 h0 n0 _ s₁.heap _
        rw [e0]
        exact ⟨congrArg (fun z => some (Value.int z)) (by simp [own_pick, c1_2, c9_5]), N0, rfl⟩), ⟨_, rfl⟩, hW, hsame.mono (by decide) (by decide)⟩
    · skip
      have pre7 : Go p.tables e below S0 s₁ (mkF m 20 #[vI p0, vI p1] [(.int (p0 &&& (255 : Int32)))]) := fun t k => pre4 t (by
        refine XS.icmpYes X0.here hx rfl (pc0 := 9) (pc' := 15) rfl (hb hby d1_9) rfl (feq c9_5).2 (by decide) (by decide) ?_
        show Steps p.tables e below (s₁.setTop (mkF m 15 #[vI p0, vI p1] [])) _
        refine XS.iloadN X0.here hx rfl (hb hby d1_15) rfl ?_
        show Steps p.tables e below (s₁.setTop (mkF m 16 #[vI p0, vI p1] [(.int p0)])) _
        refine XS.sipush X0.here hx rfl (hb hby d1_16) ?_
        show Steps p.tables e below (s₁.setTop (mkF m 19 #[vI p0, vI p1] [(.int (255 : Int32)), (.int p0)])) _
        refine XS.iand X0.here hx rfl (hb hby d1_19) rfl ?_
        show Steps p.tables e below (s₁.setTop (mkF m 20 #[vI p0, vI p1] [(.int (p0 &&& (255 : Int32)))])) _
        exact k)
      obtain ⟨fs, hr, hrun, hended, hW, hsame⟩ := X0.leave (v := some (.int (p0 &&& (255 : Int32)))) (fun h => by rw [Bd.returns] at h; cases h)
      exact ⟨_, _, pre7.fin hS0 (retI X0 hx Bd.returns (hb hby d1_20) hr), hrun, hended, _, _, rfl, (by
        show Q1 Z p0 p1 h0 n0 _ s₁.heap _
        rw [e0]
        exact ⟨congrArg (fun z => some (Value.int z)) (by simp [own_pick, c1_2, c9_5]), N0, rfl⟩), ⟨_, rfl⟩, hW, hsame.mono (by decide) (by decide)⟩
def own_arg (p0 : Int32) (p1 : Int32) : Int32 := if p1 = (0 : Int32) then (p0) else ((p0.toInt8.toInt32))
theorem ef_4 (m : MethodId) (x0 : Int32) (x1 : Int32) : entryFrame m #[(.int x0), (.int x1)] 2 = mkF m 0 #[.val (.int x0), .val (.int x1)] [] := by first | (simp [entryFrame, mkF, argsToLocals, Value.category]; done) | rfl
theorem d4_0 : decode method_4_code 0 = .ok (.iload_n 1, 1) := by decide +kernel
theorem d4_1 : decode method_4_code 1 = .ok (.ifCond .eq 6, 3) := by decide +kernel
theorem d4_4 : decode method_4_code 4 = .ok (.iload_n 0, 1) := by decide +kernel
theorem d4_5 : decode method_4_code 5 = .ok (.i2b, 1) := by decide +kernel
theorem d4_6 : decode method_4_code 6 = .ok (.ireturn, 1) := by decide +kernel
theorem d4_7 : decode method_4_code 7 = .ok (.iload_n 0, 1) := by decide +kernel
theorem d4_8 : decode method_4_code 8 = .ok (.ireturn, 1) := by decide +kernel
def Q4 (Z : State) (p0 : Int32) (p1 : Int32) (h0 : Heap) (n0 : Nat) (v : Option Value) (h : Heap) (L : List Loc) : Prop := v = some (.int (own_arg p0 p1)) ∧ Fr n0 L ∧ h = h0
set_option maxRecDepth 65536 in
set_option maxHeartbeats 40000000 in
theorem rm4 (l : Launch) (Z : State) (A0 : Array Value) (hw : ∀ d ∈ tables_1, d.before A0 Z = true) (ws : List Jvm.Cond) (p0 : Int32) (p1 : Int32)  (h0 : Heap) (n0 : Nat) (Z0 : n0 ≤ h0.size)  :
    MetFree l (⟨"com/example/ratatoskr/ratatoskr/xml/TextPositionAdvancePinLaw", "arg", "(IZ)I"⟩ : MethodName) (head1 (Jvm.Cond.code (⟨"com/example/ratatoskr/ratatoskr/xml/TextPositionAdvancePinLaw", "arg", "(IZ)I"⟩ : MethodName) method_4_code 2 (some .int) :: ws) ({ frames := 0, cells := 0, slots := 0, locals := 0 } : Room)) (fun a U => a = #[(.int p0), (.int p1)] ∧ Z.Warmed39 U.vm ∧ U.heap = h0) (fun _ _ _ _ _ => True) (fun _ U o U' => ∃ v L, o = .returned v ∧ Q4 Z p0 p1 h0 n0 v U'.heap L ∧ FrameEnd U o U' L ({ frames := 0, cells := 0, slots := 0, locals := 0 } : Room).cells ({ frames := 0, cells := 0, slots := 0, locals := 0 } : Room).slots) := by
  refine MetFree.of_bodySF (plainFor_of_name pn_0) hisR ?_
  intro p e s m args below meth c s₁ Bd hml0 hP hK
  obtain ⟨rfl, hZ, hh⟩ := hP
  have hx := Bd.exec
  have hby := Bd.bytes
  have hml : c.maxLocals = 2 := hml0
  have hown : s.vm.findClass "com/example/ratatoskr/ratatoskr/xml/TextPositionAdvancePinLaw" = some m.cls := findClass_of_methodNamed Bd.named
  have hnm := (name_of_methodNamed Bd.named Bd.method).1
  have X0 : Stand p l e ({ frames := 0, cells := 0, slots := 0, locals := 0 } : Room) s m #[(.int p0), (.int p1)] below meth c s₁ [] 0 0 := Stand.of_body Bd
  have e0 : s₁.heap = h0 := by rw [← hh, Bd.state]; rfl
  have N0 := Fr.nil n0
  obtain ⟨S0, hS0⟩ : ∃ z, z = s₁.setTop (entryFrame m #[(.int p0), (.int p1)] 2) := ⟨_, rfl⟩
  have pre0 : Go p.tables e below S0 s₁ (mkF m 0 #[vI p0, vI p1] []) := fun t k => by rw [hS0]; exact castTop (ef_4 m p0 p1) k
  have pre1 : Go p.tables e below S0 s₁ (mkF m 1 #[vI p0, vI p1] [(.int p1)]) := fun t k => pre0 t (by
    refine XS.iloadN X0.here hx rfl (hb hby d4_0) rfl ?_
    show Steps p.tables e below (s₁.setTop (mkF m 1 #[vI p0, vI p1] [(.int p1)])) _
    exact k)
  by_cases c1_2 : p1 = (0 : Int32)
  · skip
    have pre3 : Go p.tables e below S0 s₁ (mkF m 8 #[vI p0, vI p1] [(.int p0)]) := fun t k => pre1 t (by
      refine XS.ifYes X0.here hx rfl (pc0 := 1) (pc' := 7) rfl (hb hby d4_1) rfl ((if0 _ _).trans (teq c1_2).1) (by decide) (by decide) ?_
      show Steps p.tables e below (s₁.setTop (mkF m 7 #[vI p0, vI p1] [])) _
      refine XS.iloadN X0.here hx rfl (hb hby d4_7) rfl ?_
      show Steps p.tables e below (s₁.setTop (mkF m 8 #[vI p0, vI p1] [(.int p0)])) _
      exact k)
    obtain ⟨fs, hr, hrun, hended, hW, hsame⟩ := X0.leave (v := some (.int p0)) (fun h => by rw [Bd.returns] at h; cases h)
    exact ⟨_, _, pre3.fin hS0 (retI X0 hx Bd.returns (hb hby d4_8) hr), hrun, hended, _, _, rfl, (by
      show Q4 Z p0 p1 h0 n0 _ s₁.heap _
      rw [e0]
      exact ⟨congrArg (fun z => some (Value.int z)) (by simp [own_arg, c1_2]), N0, rfl⟩), ⟨_, rfl⟩, hW, hsame.mono (by decide) (by decide)⟩
  · skip
    have pre4 : Go p.tables e below S0 s₁ (mkF m 6 #[vI p0, vI p1] [(.int (p0.toInt8.toInt32))]) := fun t k => pre1 t (by
      refine XS.ifNo X0.here hx rfl (hb hby d4_1) rfl ((if0 _ _).trans (feq c1_2).1) ?_
      show Steps p.tables e below (s₁.setTop (mkF m 4 #[vI p0, vI p1] [])) _
      refine XS.iloadN X0.here hx rfl (hb hby d4_4) rfl ?_
      show Steps p.tables e below (s₁.setTop (mkF m 5 #[vI p0, vI p1] [(.int p0)])) _
      refine XS.i2b X0.here hx rfl (hb hby d4_5) rfl ?_
      show Steps p.tables e below (s₁.setTop (mkF m 6 #[vI p0, vI p1] [(.int (p0.toInt8.toInt32))])) _
      exact k)
    obtain ⟨fs, hr, hrun, hended, hW, hsame⟩ := X0.leave (v := some (.int (p0.toInt8.toInt32))) (fun h => by rw [Bd.returns] at h; cases h)
    exact ⟨_, _, pre4.fin hS0 (retI X0 hx Bd.returns (hb hby d4_6) hr), hrun, hended, _, _, rfl, (by
      show Q4 Z p0 p1 h0 n0 _ s₁.heap _
      rw [e0]
      exact ⟨congrArg (fun z => some (Value.int z)) (by simp [own_arg, c1_2]), N0, rfl⟩), ⟨_, rfl⟩, hW, hsame.mono (by decide) (by decide)⟩
theorem ef_2 (m : MethodId) (x0 : Addr) : entryFrame m #[(.ref x0)] 1 = mkF m 0 #[.val (.ref x0)] [] := by first | (simp [entryFrame, mkF, argsToLocals, Value.category]; done) | rfl
theorem pn_1 : plainName "com/example/ratatoskr/ratatoskr/xml/TextPosition" = true := by first | (simp [plainName, overriddenIn]; done) | decide +kernel
theorem d2_0 : decode prog_115_method_1_code 0 = .ok (.aload_n 0, 1) := by decide +kernel
theorem d2_1 : decode prog_115_method_1_code 1 = .ok (.invokespecial 1, 3) := by decide +kernel
theorem d2_4 : decode prog_115_method_1_code 4 = .ok (.aload_n 0, 1) := by decide +kernel
theorem d2_5 : decode prog_115_method_1_code 5 = .ok (.lconst 1, 1) := by decide +kernel
theorem d2_6 : decode prog_115_method_1_code 6 = .ok (.putfield 7, 3) := by decide +kernel
theorem d2_9 : decode prog_115_method_1_code 9 = .ok (.aload_n 0, 1) := by decide +kernel
theorem d2_10 : decode prog_115_method_1_code 10 = .ok (.lconst 1, 1) := by decide +kernel
theorem d2_11 : decode prog_115_method_1_code 11 = .ok (.putfield 13, 3) := by decide +kernel
theorem d2_14 : decode prog_115_method_1_code 14 = .ok (.return_, 1) := by decide +kernel
def Q2 (Z : State) (a0 : Addr)  (h0 : Heap) (n0 : Nat) (v : Option Value) (h : Heap) (L : List Loc) : Prop := v = none ∧ Fr n0 L ∧ Keep h0 h [a0] ∧ (Exa Z h a0 "com/example/ratatoskr/ratatoskr/xml/TextPosition") ∧ (Fld Z h a0 "com/example/ratatoskr/ratatoskr/xml/TextPosition" "line" "J" (.long (1 : Int64))) ∧ (Fld Z h a0 "com/example/ratatoskr/ratatoskr/xml/TextPosition" "column" "J" (.long (1 : Int64))) ∧ (Fld Z h a0 "com/example/ratatoskr/ratatoskr/xml/TextPosition" "afterReturn" "Z" (.int (0 : Int32)))
set_option maxRecDepth 65536 in
set_option maxHeartbeats 40000000 in
theorem rm2 (l : Launch) (Z : State) (A0 : Array Value) (hw : ∀ d ∈ tables_1, d.before A0 Z = true) (ws : List Jvm.Cond) (a0 : Addr)  (h0 : Heap) (n0 : Nat) (Z0 : n0 ≤ h0.size) (E0 : Exa Z h0 a0 "com/example/ratatoskr/ratatoskr/xml/TextPosition") (F_line : Fld Z h0 a0 "com/example/ratatoskr/ratatoskr/xml/TextPosition" "line" "J" (.long (0 : Int64))) (F_column : Fld Z h0 a0 "com/example/ratatoskr/ratatoskr/xml/TextPosition" "column" "J" (.long (0 : Int64))) (F_afterReturn : Fld Z h0 a0 "com/example/ratatoskr/ratatoskr/xml/TextPosition" "afterReturn" "Z" (.int (0 : Int32))) (g0 : n0 ≤ a0) :
    MetFree l (⟨"com/example/ratatoskr/ratatoskr/xml/TextPosition", "<init>", "()V"⟩ : MethodName) (head1 (Jvm.Cond.code (⟨"com/example/ratatoskr/ratatoskr/xml/TextPosition", "<init>", "()V"⟩ : MethodName) prog_115_method_1_code 1 none :: ws) ({ frames := 1, cells := 0, slots := 0, locals := 12 } : Room)) (fun a U => a = #[(.ref a0)] ∧ Z.Warmed39 U.vm ∧ U.heap = h0) (fun _ _ _ _ _ => True) (fun _ U o U' => ∃ v L, o = .returned v ∧ Q2 Z a0 h0 n0 v U'.heap L ∧ FrameEnd U o U' L ({ frames := 1, cells := 0, slots := 0, locals := 12 } : Room).cells ({ frames := 1, cells := 0, slots := 0, locals := 12 } : Room).slots) := by
  refine MetFree.of_bodySF (plainFor_of_name pn_1) hisR ?_
  intro p e s m args below meth c s₁ Bd hml0 hP hK
  obtain ⟨rfl, hZ, hh⟩ := hP
  have hx := Bd.exec
  have hby := Bd.bytes
  have hml : c.maxLocals = 1 := hml0
  have hown : s.vm.findClass "com/example/ratatoskr/ratatoskr/xml/TextPosition" = some m.cls := findClass_of_methodNamed Bd.named
  have hnm := (name_of_methodNamed Bd.named Bd.method).1
  have X0 : Stand p l e ({ frames := 1, cells := 0, slots := 0, locals := 12 } : Room) s m #[(.ref a0)] below meth c s₁ [] 0 0 := Stand.of_body Bd
  have e0 : s₁.heap = h0 := by rw [← hh, Bd.state]; rfl
  have N0 := Fr.nil n0
  have kp0 : Keep h0 h0 [a0] := Keep.refl _ _
  obtain ⟨S0, hS0⟩ : ∃ z, z = s₁.setTop (entryFrame m #[(.ref a0)] 1) := ⟨_, rfl⟩
  have pre0 : Go p.tables e below S0 s₁ (mkF m 0 #[vR a0] []) := fun t k => by rw [hS0]; exact castTop (ef_2 m a0) k
  have pre1 : Go p.tables e below S0 s₁ (mkF m 1 #[vR a0] [(.ref a0)]) := fun t k => pre0 t (by
    refine XS.aloadN X0.here hx rfl (hb hby d2_0) rfl rfl ?_
    show Steps p.tables e below (s₁.setTop (mkF m 1 #[vR a0] [(.ref a0)])) _
    exact k)
  obtain ⟨T2, X2, e2, st2⟩ := initO X0 hx hZ hown (hw _ (List.mem_of_getElem? (i := 10) rfl)) (hw _ (List.mem_of_getElem? (i := 11) rfl)) (hw _ (List.mem_of_getElem? (i := 12) rfl)) e0 (g := (mkF m 1 #[vR a0] [(.ref a0)])) rfl (by rw [hml]; rfl) rfl (hb hby d2_1) (by decide) (W := 0) (by show 2 * 0 + _ ≤ _; exact Nat.le_of_eq rfl) (by decide)
  have pre2 : Go p.tables e below S0 T2 (mkF m 4 #[vR a0] []) := fun t k => pre1 t (st2 t k)
  have pre3 : Go p.tables e below S0 T2 (mkF m 6 #[vR a0] [(.long (1 : Int64)), (.ref a0)]) := fun t k => pre2 t (by
    refine XS.aloadN X2.here hx rfl (hb hby d2_4) rfl rfl ?_
    show Steps p.tables e below (T2.setTop (mkF m 5 #[vR a0] [(.ref a0)])) _
    refine XS.lconst X2.here hx rfl (hb hby d2_5) ?_
    show Steps p.tables e below (T2.setTop (mkF m 6 #[vR a0] [(.long (1 : Int64)), (.ref a0)])) _
    exact k)
  obtain ⟨T4, h4, X4, e4, W4, st4⟩ := putF X2 hx hZ hown (host := "") (Or.inl (hw _ (List.mem_of_getElem? (i := 13) rfl))) Via.refl e2 F_line E0 (Or.inl (hw _ (List.mem_of_getElem? (i := 14) rfl))) (hw _ (List.mem_of_getElem? (i := 5) rfl)) (ty := .long) (by decide) rfl rfl (g := (mkF m 6 #[vR a0] [(.long (1 : Int64)), (.ref a0)])) rfl rfl (hb hby d2_6)
  have pre4 : Go p.tables e below S0 T4 (mkF m 9 #[vR a0] []) := fun t k => pre3 t (st4 t k)
  have N4 := Fr.snoc X4 N0 g0
  have fw4 : Fld Z h4 a0 "com/example/ratatoskr/ratatoskr/xml/TextPosition" "line" "J" (.long (1 : Int64)) := Fld.same W4 F_line
  have f5_1 := Exa.wr W4 E0
  have f5_2 := Fld.other W4 F_column (Or.inr (slot_ne (Or.inl (hw _ (List.mem_of_getElem? (i := 16) rfl))) (Or.inl (hw _ (List.mem_of_getElem? (i := 14) rfl))) (by decide) (t := .long) (t' := .long) (by decide) (by decide)))
  have f5_3 := Fld.other W4 F_afterReturn (Or.inr (slot_ne (Or.inl (hw _ (List.mem_of_getElem? (i := 27) rfl))) (Or.inl (hw _ (List.mem_of_getElem? (i := 14) rfl))) (by decide) (t := .boolean) (t' := .long) (by decide) (by decide)))
  have zz6 : n0 ≤ h4.size := Nat.le_trans Z0 (Keep.of_wr W4).1
  have kp7 : Keep h0 h4 [a0] := kp0.wr W4 (Or.inl (List.mem_of_getElem? (i := 0) rfl))
  have pre8 : Go p.tables e below S0 T4 (mkF m 11 #[vR a0] [(.long (1 : Int64)), (.ref a0)]) := fun t k => pre4 t (by
    refine XS.aloadN X4.here hx rfl (hb hby d2_9) rfl rfl ?_
    show Steps p.tables e below (T4.setTop (mkF m 10 #[vR a0] [(.ref a0)])) _
    refine XS.lconst X4.here hx rfl (hb hby d2_10) ?_
    show Steps p.tables e below (T4.setTop (mkF m 11 #[vR a0] [(.long (1 : Int64)), (.ref a0)])) _
    exact k)
  obtain ⟨T9, h9, X9, e9, W9, st9⟩ := putF X4 hx hZ hown (host := "") (Or.inl (hw _ (List.mem_of_getElem? (i := 15) rfl))) Via.refl e4 f5_2 f5_1 (Or.inl (hw _ (List.mem_of_getElem? (i := 16) rfl))) (hw _ (List.mem_of_getElem? (i := 5) rfl)) (ty := .long) (by decide) rfl rfl (g := (mkF m 11 #[vR a0] [(.long (1 : Int64)), (.ref a0)])) rfl rfl (hb hby d2_11)
  have pre9 : Go p.tables e below S0 T9 (mkF m 14 #[vR a0] []) := fun t k => pre8 t (st9 t k)
  have N9 := Fr.snoc X9 N4 g0
  have fw9 : Fld Z h9 a0 "com/example/ratatoskr/ratatoskr/xml/TextPosition" "column" "J" (.long (1 : Int64)) := Fld.same W9 f5_2
  have f10_1 := Exa.wr W9 f5_1
  have f10_2 := Fld.other W9 fw4 (Or.inr (slot_ne (Or.inl (hw _ (List.mem_of_getElem? (i := 14) rfl))) (Or.inl (hw _ (List.mem_of_getElem? (i := 16) rfl))) (by decide) (t := .long) (t' := .long) (by decide) (by decide)))
  have f10_3 := Fld.other W9 f5_3 (Or.inr (slot_ne (Or.inl (hw _ (List.mem_of_getElem? (i := 27) rfl))) (Or.inl (hw _ (List.mem_of_getElem? (i := 16) rfl))) (by decide) (t := .boolean) (t' := .long) (by decide) (by decide)))
  have zz11 : n0 ≤ h9.size := Nat.le_trans zz6 (Keep.of_wr W9).1
  have kp12 : Keep h0 h9 [a0] := kp7.wr W9 (Or.inl (List.mem_of_getElem? (i := 0) rfl))
  obtain ⟨fs, hr, hrun, hended, hW, hsame⟩ := X9.leave (v := none) (fun _ => rfl)
  exact ⟨_, _, pre9.fin hS0 (X9.returnOut hx Bd.returns (hb hby d2_14) hr), hrun, hended, _, _, rfl, (by
    show Q2 Z a0 h0 n0 _ T9.heap _
    rw [e9]
    exact ⟨rfl, N9, kp12, f10_1, f10_2, fw9, f10_3⟩), ⟨_, rfl⟩, hW, hsame.mono (by decide) (by decide)⟩
theorem ef_7 (m : MethodId) (x0 : Addr) : entryFrame m #[(.ref x0)] 1 = mkF m 0 #[.val (.ref x0)] [] := by first | (simp [entryFrame, mkF, argsToLocals, Value.category]; done) | rfl
theorem d7_0 : decode prog_115_method_5_code 0 = .ok (.aload_n 0, 1) := by decide +kernel
theorem d7_1 : decode prog_115_method_5_code 1 = .ok (.getfield 7, 3) := by decide +kernel
theorem d7_4 : decode prog_115_method_5_code 4 = .ok (.lreturn, 1) := by decide +kernel
def Q7 (Z : State) (a0 : Addr) (w : Int64) (h0 : Heap) (n0 : Nat) (v : Option Value) (h : Heap) (L : List Loc) : Prop := v = some (.long w) ∧ Fr n0 L ∧ h = h0
set_option maxRecDepth 65536 in
set_option maxHeartbeats 40000000 in
theorem rm7 (l : Launch) (Z : State) (A0 : Array Value) (hw : ∀ d ∈ tables_1, d.before A0 Z = true) (ws : List Jvm.Cond) (a0 : Addr) (w : Int64) (h0 : Heap) (n0 : Nat) (Z0 : n0 ≤ h0.size) (F_line : Fld Z h0 a0 "com/example/ratatoskr/ratatoskr/xml/TextPosition" "line" "J" (.long w)) :
    MetFree l (⟨"com/example/ratatoskr/ratatoskr/xml/TextPosition", "line", "()J"⟩ : MethodName) (head1 (Jvm.Cond.code (⟨"com/example/ratatoskr/ratatoskr/xml/TextPosition", "line", "()J"⟩ : MethodName) prog_115_method_5_code 1 (some .long) :: ws) ({ frames := 0, cells := 0, slots := 0, locals := 0 } : Room)) (fun a U => a = #[(.ref a0)] ∧ Z.Warmed39 U.vm ∧ U.heap = h0) (fun _ _ _ _ _ => True) (fun _ U o U' => ∃ v L, o = .returned v ∧ Q7 Z a0 w h0 n0 v U'.heap L ∧ FrameEnd U o U' L ({ frames := 0, cells := 0, slots := 0, locals := 0 } : Room).cells ({ frames := 0, cells := 0, slots := 0, locals := 0 } : Room).slots) := by
  refine MetFree.of_bodySF (plainFor_of_name pn_1) hisR ?_
  intro p e s m args below meth c s₁ Bd hml0 hP hK
  obtain ⟨rfl, hZ, hh⟩ := hP
  have hx := Bd.exec
  have hby := Bd.bytes
  have hml : c.maxLocals = 1 := hml0
  have hown : s.vm.findClass "com/example/ratatoskr/ratatoskr/xml/TextPosition" = some m.cls := findClass_of_methodNamed Bd.named
  have hnm := (name_of_methodNamed Bd.named Bd.method).1
  have X0 : Stand p l e ({ frames := 0, cells := 0, slots := 0, locals := 0 } : Room) s m #[(.ref a0)] below meth c s₁ [] 0 0 := Stand.of_body Bd
  have e0 : s₁.heap = h0 := by rw [← hh, Bd.state]; rfl
  have N0 := Fr.nil n0
  obtain ⟨S0, hS0⟩ : ∃ z, z = s₁.setTop (entryFrame m #[(.ref a0)] 1) := ⟨_, rfl⟩
  have pre0 : Go p.tables e below S0 s₁ (mkF m 0 #[vR a0] []) := fun t k => by rw [hS0]; exact castTop (ef_7 m a0) k
  have pre1 : Go p.tables e below S0 s₁ (mkF m 1 #[vR a0] [(.ref a0)]) := fun t k => pre0 t (by
    refine XS.aloadN X0.here hx rfl (hb hby d7_0) rfl rfl ?_
    show Steps p.tables e below (s₁.setTop (mkF m 1 #[vR a0] [(.ref a0)])) _
    exact k)
  obtain ⟨T2, X2, e2, st2⟩ := getF X0 hx hZ hown (host := "") (Or.inl (hw _ (List.mem_of_getElem? (i := 13) rfl))) Via.refl e0 F_line (g := (mkF m 1 #[vR a0] [(.ref a0)])) rfl rfl (hb hby d7_1)
  have pre2 : Go p.tables e below S0 T2 (mkF m 4 #[vR a0] [(.long w)]) := fun t k => pre1 t (st2 t k)
  obtain ⟨fs, hr, hrun, hended, hW, hsame⟩ := X2.leave (v := some (.long w)) (fun h => by rw [Bd.returns] at h; cases h)
  exact ⟨_, _, pre2.fin hS0 (retJ X2 hx Bd.returns (hb hby d7_4) hr), hrun, hended, _, _, rfl, (by
    show Q7 Z a0 w h0 n0 _ T2.heap _
    rw [e2]
    exact ⟨rfl, N0, rfl⟩), ⟨_, rfl⟩, hW, hsame.mono (by decide) (by decide)⟩
theorem ef_8 (m : MethodId) (x0 : Addr) : entryFrame m #[(.ref x0)] 1 = mkF m 0 #[.val (.ref x0)] [] := by first | (simp [entryFrame, mkF, argsToLocals, Value.category]; done) | rfl
theorem d8_0 : decode prog_115_method_6_code 0 = .ok (.aload_n 0, 1) := by decide +kernel
theorem d8_1 : decode prog_115_method_6_code 1 = .ok (.getfield 13, 3) := by decide +kernel
theorem d8_4 : decode prog_115_method_6_code 4 = .ok (.lreturn, 1) := by decide +kernel
def Q8 (Z : State) (a0 : Addr) (w : Int64) (h0 : Heap) (n0 : Nat) (v : Option Value) (h : Heap) (L : List Loc) : Prop := v = some (.long w) ∧ Fr n0 L ∧ h = h0
set_option maxRecDepth 65536 in
set_option maxHeartbeats 40000000 in
theorem rm8 (l : Launch) (Z : State) (A0 : Array Value) (hw : ∀ d ∈ tables_1, d.before A0 Z = true) (ws : List Jvm.Cond) (a0 : Addr) (w : Int64) (h0 : Heap) (n0 : Nat) (Z0 : n0 ≤ h0.size) (F_column : Fld Z h0 a0 "com/example/ratatoskr/ratatoskr/xml/TextPosition" "column" "J" (.long w)) :
    MetFree l (⟨"com/example/ratatoskr/ratatoskr/xml/TextPosition", "column", "()J"⟩ : MethodName) (head1 (Jvm.Cond.code (⟨"com/example/ratatoskr/ratatoskr/xml/TextPosition", "column", "()J"⟩ : MethodName) prog_115_method_6_code 1 (some .long) :: ws) ({ frames := 0, cells := 0, slots := 0, locals := 0 } : Room)) (fun a U => a = #[(.ref a0)] ∧ Z.Warmed39 U.vm ∧ U.heap = h0) (fun _ _ _ _ _ => True) (fun _ U o U' => ∃ v L, o = .returned v ∧ Q8 Z a0 w h0 n0 v U'.heap L ∧ FrameEnd U o U' L ({ frames := 0, cells := 0, slots := 0, locals := 0 } : Room).cells ({ frames := 0, cells := 0, slots := 0, locals := 0 } : Room).slots) := by
  refine MetFree.of_bodySF (plainFor_of_name pn_1) hisR ?_
  intro p e s m args below meth c s₁ Bd hml0 hP hK
  obtain ⟨rfl, hZ, hh⟩ := hP
  have hx := Bd.exec
  have hby := Bd.bytes
  have hml : c.maxLocals = 1 := hml0
  have hown : s.vm.findClass "com/example/ratatoskr/ratatoskr/xml/TextPosition" = some m.cls := findClass_of_methodNamed Bd.named
  have hnm := (name_of_methodNamed Bd.named Bd.method).1
  have X0 : Stand p l e ({ frames := 0, cells := 0, slots := 0, locals := 0 } : Room) s m #[(.ref a0)] below meth c s₁ [] 0 0 := Stand.of_body Bd
  have e0 : s₁.heap = h0 := by rw [← hh, Bd.state]; rfl
  have N0 := Fr.nil n0
  obtain ⟨S0, hS0⟩ : ∃ z, z = s₁.setTop (entryFrame m #[(.ref a0)] 1) := ⟨_, rfl⟩
  have pre0 : Go p.tables e below S0 s₁ (mkF m 0 #[vR a0] []) := fun t k => by rw [hS0]; exact castTop (ef_8 m a0) k
  have pre1 : Go p.tables e below S0 s₁ (mkF m 1 #[vR a0] [(.ref a0)]) := fun t k => pre0 t (by
    refine XS.aloadN X0.here hx rfl (hb hby d8_0) rfl rfl ?_
    show Steps p.tables e below (s₁.setTop (mkF m 1 #[vR a0] [(.ref a0)])) _
    exact k)
  obtain ⟨T2, X2, e2, st2⟩ := getF X0 hx hZ hown (host := "") (Or.inl (hw _ (List.mem_of_getElem? (i := 15) rfl))) Via.refl e0 F_column (g := (mkF m 1 #[vR a0] [(.ref a0)])) rfl rfl (hb hby d8_1)
  have pre2 : Go p.tables e below S0 T2 (mkF m 4 #[vR a0] [(.long w)]) := fun t k => pre1 t (st2 t k)
  obtain ⟨fs, hr, hrun, hended, hW, hsame⟩ := X2.leave (v := some (.long w)) (fun h => by rw [Bd.returns] at h; cases h)
  exact ⟨_, _, pre2.fin hS0 (retJ X2 hx Bd.returns (hb hby d8_4) hr), hrun, hended, _, _, rfl, (by
    show Q8 Z a0 w h0 n0 _ T2.heap _
    rw [e2]
    exact ⟨rfl, N0, rfl⟩), ⟨_, rfl⟩, hW, hsame.mono (by decide) (by decide)⟩
def own_l (l : Int64) (r p : Int32) : Int64 := if p = (13 : Int32) then l + (1 : Int64) else if p = (10 : Int32) then (if r = (0 : Int32) then l + (1 : Int64) else l) else l
def own_c (c : Int64) (r p : Int32) : Int64 := if p = (13 : Int32) then (1 : Int64) else if p = (10 : Int32) then (if r = (0 : Int32) then (1 : Int64) else c) else if (p &&& (192 : Int32)) = (128 : Int32) then c else c + (1 : Int64)
def own_r (p : Int32) : Int32 := if p = (13 : Int32) then 1 else 0
def own_s0 (s0 s2 : Int64) (u : Int32) : Int64 := if u = (13 : Int32) then s0 + (1 : Int64) else if u = (10 : Int32) then (if s2 = (0 : Int64) then s0 + (1 : Int64) else s0) else s0
def own_s1 (s1 s2 : Int64) (u : Int32) : Int64 := if u = (13 : Int32) then (1 : Int64) else if u = (10 : Int32) then (if s2 = (0 : Int64) then (1 : Int64) else s1) else if u < (128 : Int32) then s1 + (1 : Int64) else if (191 : Int32) < u then s1 + (1 : Int64) else s1
def own_s2 (u : Int32) : Int64 := if u = (13 : Int32) then (1 : Int64) else (0 : Int64)
theorem ef_5 (m : MethodId) (x0 : Addr) (x1 : Int32) : entryFrame m #[(.ref x0), (.int x1)] 2 = mkF m 0 #[.val (.ref x0), .val (.int x1)] [] := by first | (simp [entryFrame, mkF, argsToLocals, Value.category]; done) | rfl
theorem d5_0 : decode prog_115_method_3_code 0 = .ok (.iload_n 1, 1) := by decide +kernel
theorem d5_1 : decode prog_115_method_3_code 1 = .ok (.bipush 13, 2) := by decide +kernel
theorem d5_3 : decode prog_115_method_3_code 3 = .ok (.if_icmp .eq 16, 3) := by decide +kernel
theorem d5_6 : decode prog_115_method_3_code 6 = .ok (.iload_n 1, 1) := by decide +kernel
theorem d5_7 : decode prog_115_method_3_code 7 = .ok (.bipush 10, 2) := by decide +kernel
theorem d5_9 : decode prog_115_method_3_code 9 = .ok (.if_icmp .ne 28, 3) := by decide +kernel
theorem d5_12 : decode prog_115_method_3_code 12 = .ok (.aload_n 0, 1) := by decide +kernel
theorem d5_13 : decode prog_115_method_3_code 13 = .ok (.getfield 16, 3) := by decide +kernel
theorem d5_16 : decode prog_115_method_3_code 16 = .ok (.ifCond .ne 21, 3) := by decide +kernel
theorem d5_19 : decode prog_115_method_3_code 19 = .ok (.aload_n 0, 1) := by decide +kernel
theorem d5_20 : decode prog_115_method_3_code 20 = .ok (.dup, 1) := by decide +kernel
theorem d5_21 : decode prog_115_method_3_code 21 = .ok (.getfield 7, 3) := by decide +kernel
theorem d5_24 : decode prog_115_method_3_code 24 = .ok (.lconst 1, 1) := by decide +kernel
theorem d5_25 : decode prog_115_method_3_code 25 = .ok (.ladd, 1) := by decide +kernel
theorem d5_26 : decode prog_115_method_3_code 26 = .ok (.putfield 7, 3) := by decide +kernel
theorem d5_29 : decode prog_115_method_3_code 29 = .ok (.aload_n 0, 1) := by decide +kernel
theorem d5_30 : decode prog_115_method_3_code 30 = .ok (.lconst 1, 1) := by decide +kernel
theorem d5_31 : decode prog_115_method_3_code 31 = .ok (.putfield 13, 3) := by decide +kernel
theorem d5_34 : decode prog_115_method_3_code 34 = .ok (.goto 30, 3) := by decide +kernel
theorem d5_37 : decode prog_115_method_3_code 37 = .ok (.iload_n 1, 1) := by decide +kernel
theorem d5_38 : decode prog_115_method_3_code 38 = .ok (.bipush 10, 2) := by decide +kernel
theorem d5_40 : decode prog_115_method_3_code 40 = .ok (.if_icmp .eq 24, 3) := by decide +kernel
theorem d5_43 : decode prog_115_method_3_code 43 = .ok (.iload_n 1, 1) := by decide +kernel
theorem d5_44 : decode prog_115_method_3_code 44 = .ok (.sipush 192, 3) := by decide +kernel
theorem d5_47 : decode prog_115_method_3_code 47 = .ok (.iand, 1) := by decide +kernel
theorem d5_48 : decode prog_115_method_3_code 48 = .ok (.sipush 128, 3) := by decide +kernel
theorem d5_51 : decode prog_115_method_3_code 51 = .ok (.if_icmp .eq 13, 3) := by decide +kernel
theorem d5_54 : decode prog_115_method_3_code 54 = .ok (.aload_n 0, 1) := by decide +kernel
theorem d5_55 : decode prog_115_method_3_code 55 = .ok (.dup, 1) := by decide +kernel
theorem d5_56 : decode prog_115_method_3_code 56 = .ok (.getfield 13, 3) := by decide +kernel
theorem d5_59 : decode prog_115_method_3_code 59 = .ok (.lconst 1, 1) := by decide +kernel
theorem d5_60 : decode prog_115_method_3_code 60 = .ok (.ladd, 1) := by decide +kernel
theorem d5_61 : decode prog_115_method_3_code 61 = .ok (.putfield 13, 3) := by decide +kernel
theorem d5_64 : decode prog_115_method_3_code 64 = .ok (.aload_n 0, 1) := by decide +kernel
theorem d5_65 : decode prog_115_method_3_code 65 = .ok (.iload_n 1, 1) := by decide +kernel
theorem d5_66 : decode prog_115_method_3_code 66 = .ok (.bipush 13, 2) := by decide +kernel
theorem d5_68 : decode prog_115_method_3_code 68 = .ok (.if_icmp .ne 7, 3) := by decide +kernel
theorem d5_71 : decode prog_115_method_3_code 71 = .ok (.iconst 1, 1) := by decide +kernel
theorem d5_72 : decode prog_115_method_3_code 72 = .ok (.goto 4, 3) := by decide +kernel
theorem d5_75 : decode prog_115_method_3_code 75 = .ok (.iconst 0, 1) := by decide +kernel
theorem d5_76 : decode prog_115_method_3_code 76 = .ok (.putfield 16, 3) := by decide +kernel
theorem d5_79 : decode prog_115_method_3_code 79 = .ok (.return_, 1) := by decide +kernel
def Q5 (Z : State) (a0 : Addr) (p1 : Int32) (wl wc : Int64) (wr : Int32) (h0 : Heap) (n0 : Nat) (v : Option Value) (h : Heap) (L : List Loc) : Prop := v = none ∧ Fr n0 L ∧ ∃ (l' c' : Int64) (r' : Int32), (l' = own_l wl wr p1 ∧ c' = own_c wc wr p1 ∧ r' = own_r p1) ∧ Keep h0 h [a0] ∧ (Exa Z h a0 "com/example/ratatoskr/ratatoskr/xml/TextPosition") ∧ (Fld Z h a0 "com/example/ratatoskr/ratatoskr/xml/TextPosition" "line" "J" (.long l')) ∧ (Fld Z h a0 "com/example/ratatoskr/ratatoskr/xml/TextPosition" "column" "J" (.long c')) ∧ (Fld Z h a0 "com/example/ratatoskr/ratatoskr/xml/TextPosition" "afterReturn" "Z" (.int r'))
set_option maxRecDepth 65536 in
set_option maxHeartbeats 40000000 in
theorem rm5 (l : Launch) (Z : State) (A0 : Array Value) (hw : ∀ d ∈ tables_1, d.before A0 Z = true) (ws : List Jvm.Cond) (a0 : Addr) (p1 : Int32) (wl wc : Int64) (wr : Int32) (h0 : Heap) (n0 : Nat) (Z0 : n0 ≤ h0.size) (E0 : Exa Z h0 a0 "com/example/ratatoskr/ratatoskr/xml/TextPosition") (F_line : Fld Z h0 a0 "com/example/ratatoskr/ratatoskr/xml/TextPosition" "line" "J" (.long wl)) (F_column : Fld Z h0 a0 "com/example/ratatoskr/ratatoskr/xml/TextPosition" "column" "J" (.long wc)) (F_after : Fld Z h0 a0 "com/example/ratatoskr/ratatoskr/xml/TextPosition" "afterReturn" "Z" (.int wr)) (g0 : n0 ≤ a0) :
    MetFree l (⟨"com/example/ratatoskr/ratatoskr/xml/TextPosition", "advance", "(I)V"⟩ : MethodName) (head1 (Jvm.Cond.code (⟨"com/example/ratatoskr/ratatoskr/xml/TextPosition", "advance", "(I)V"⟩ : MethodName) prog_115_method_3_code 2 none :: ws) ({ frames := 0, cells := 0, slots := 0, locals := 0 } : Room)) (fun a U => a = #[(.ref a0), (.int p1)] ∧ Z.Warmed39 U.vm ∧ U.heap = h0) (fun _ _ _ _ _ => True) (fun _ U o U' => ∃ v L, o = .returned v ∧ Q5 Z a0 p1 wl wc wr h0 n0 v U'.heap L ∧ FrameEnd U o U' L ({ frames := 0, cells := 0, slots := 0, locals := 0 } : Room).cells ({ frames := 0, cells := 0, slots := 0, locals := 0 } : Room).slots) := by
  refine MetFree.of_bodySF (plainFor_of_name pn_1) hisR ?_
  intro p e s m args below meth c s₁ Bd hml0 hP hK
  obtain ⟨rfl, hZ, hh⟩ := hP
  have hx := Bd.exec
  have hby := Bd.bytes
  have hml : c.maxLocals = 2 := hml0
  have hown : s.vm.findClass "com/example/ratatoskr/ratatoskr/xml/TextPosition" = some m.cls := findClass_of_methodNamed Bd.named
  have hnm := (name_of_methodNamed Bd.named Bd.method).1
  have X0 : Stand p l e ({ frames := 0, cells := 0, slots := 0, locals := 0 } : Room) s m #[(.ref a0), (.int p1)] below meth c s₁ [] 0 0 := Stand.of_body Bd
  have e0 : s₁.heap = h0 := by rw [← hh, Bd.state]; rfl
  have N0 := Fr.nil n0
  have kp0 : Keep h0 h0 [a0] := Keep.refl _ _
  obtain ⟨S0, hS0⟩ : ∃ z, z = s₁.setTop (entryFrame m #[(.ref a0), (.int p1)] 2) := ⟨_, rfl⟩
  have pre0 : Go p.tables e below S0 s₁ (mkF m 0 #[vR a0, vI p1] []) := fun t k => by rw [hS0]; exact castTop (ef_5 m a0 p1) k
  have pre1 : Go p.tables e below S0 s₁ (mkF m 3 #[vR a0, vI p1] [(.int (13 : Int32)), (.int p1)]) := fun t k => pre0 t (by
    refine XS.iloadN X0.here hx rfl (hb hby d5_0) rfl ?_
    show Steps p.tables e below (s₁.setTop (mkF m 1 #[vR a0, vI p1] [(.int p1)])) _
    refine XS.bipush X0.here hx rfl (hb hby d5_1) ?_
    show Steps p.tables e below (s₁.setTop (mkF m 3 #[vR a0, vI p1] [(.int (13 : Int32)), (.int p1)])) _
    exact k)
  refine cps (A := ∃ (T45 : State) (Lo45 : List Loc) (h45 : Heap) (j64_f1_46 : Int64) (j64_f2_47 : Int64), (Stand p l e ({ frames := 0, cells := 0, slots := 0, locals := 0 } : Room) s m #[(.ref a0), (.int p1)] below meth c T45 Lo45 0 0) ∧ (T45.heap = h45) ∧ (Fr n0 Lo45) ∧ (n0 ≤ h45.size) ∧ (Keep h0 h45 [a0]) ∧ (Exa Z h45 a0 "com/example/ratatoskr/ratatoskr/xml/TextPosition") ∧ (Fld Z h45 a0 "com/example/ratatoskr/ratatoskr/xml/TextPosition" "line" "J" (.long j64_f1_46)) ∧ (Fld Z h45 a0 "com/example/ratatoskr/ratatoskr/xml/TextPosition" "column" "J" (.long j64_f2_47)) ∧ (Fld Z h45 a0 "com/example/ratatoskr/ratatoskr/xml/TextPosition" "afterReturn" "Z" (.int wr)) ∧ (j64_f1_46 = own_l wl wr p1 ∧ j64_f2_47 = own_c wc wr p1) ∧ (Go p.tables e below S0 T45 (mkF m 64 #[vR a0, vI p1] []))) (fun tail50 => ?_) ?_
  · skip
    by_cases c3_2 : p1 = (13 : Int32)
    · skip
      have pre3 : Go p.tables e below S0 s₁ (mkF m 21 #[vR a0, vI p1] [(.ref a0), (.ref a0)]) := fun t k => pre1 t (by
        refine XS.icmpYes X0.here hx rfl (pc0 := 3) (pc' := 19) rfl (hb hby d5_3) rfl (teq c3_2).1 (by decide) (by decide) ?_
        show Steps p.tables e below (s₁.setTop (mkF m 19 #[vR a0, vI p1] [])) _
        refine XS.aloadN X0.here hx rfl (hb hby d5_19) rfl rfl ?_
        show Steps p.tables e below (s₁.setTop (mkF m 20 #[vR a0, vI p1] [(.ref a0)])) _
        refine XS.dup X0.here hx rfl (hb hby d5_20) rfl rfl ?_
        show Steps p.tables e below (s₁.setTop (mkF m 21 #[vR a0, vI p1] [(.ref a0), (.ref a0)])) _
        exact k)
      obtain ⟨T4, X4, e4, st4⟩ := getF X0 hx hZ hown (host := "") (Or.inl (hw _ (List.mem_of_getElem? (i := 13) rfl))) Via.refl e0 F_line (g := (mkF m 21 #[vR a0, vI p1] [(.ref a0), (.ref a0)])) rfl rfl (hb hby d5_21)
      have pre4 : Go p.tables e below S0 T4 (mkF m 24 #[vR a0, vI p1] [(.long wl), (.ref a0)]) := fun t k => pre3 t (st4 t k)
      have pre5 : Go p.tables e below S0 T4 (mkF m 26 #[vR a0, vI p1] [(.long (wl + (1 : Int64))), (.ref a0)]) := fun t k => pre4 t (by
        refine XS.lconst X4.here hx rfl (hb hby d5_24) ?_
        show Steps p.tables e below (T4.setTop (mkF m 25 #[vR a0, vI p1] [(.long (1 : Int64)), (.long wl), (.ref a0)])) _
        refine XS.ladd X4.here hx rfl (hb hby d5_25) rfl ?_
        show Steps p.tables e below (T4.setTop (mkF m 26 #[vR a0, vI p1] [(.long (wl + (1 : Int64))), (.ref a0)])) _
        exact k)
      obtain ⟨T6, h6, X6, e6, W6, st6⟩ := putF X4 hx hZ hown (host := "") (Or.inl (hw _ (List.mem_of_getElem? (i := 13) rfl))) Via.refl e4 F_line E0 (Or.inl (hw _ (List.mem_of_getElem? (i := 14) rfl))) (hw _ (List.mem_of_getElem? (i := 5) rfl)) (ty := .long) (by decide) rfl rfl (g := (mkF m 26 #[vR a0, vI p1] [(.long (wl + (1 : Int64))), (.ref a0)])) rfl rfl (hb hby d5_26)
      have pre6 : Go p.tables e below S0 T6 (mkF m 29 #[vR a0, vI p1] []) := fun t k => pre5 t (st6 t k)
      have N6 := Fr.snoc X6 N0 g0
      have fw6 : Fld Z h6 a0 "com/example/ratatoskr/ratatoskr/xml/TextPosition" "line" "J" (.long (wl + (1 : Int64))) := Fld.same W6 F_line
      have f7_1 := Exa.wr W6 E0
      have f7_2 := Fld.other W6 F_column (Or.inr (slot_ne (Or.inl (hw _ (List.mem_of_getElem? (i := 16) rfl))) (Or.inl (hw _ (List.mem_of_getElem? (i := 14) rfl))) (by decide) (t := .long) (t' := .long) (by decide) (by decide)))
      have f7_3 := Fld.other W6 F_after (Or.inr (slot_ne (Or.inl (hw _ (List.mem_of_getElem? (i := 27) rfl))) (Or.inl (hw _ (List.mem_of_getElem? (i := 14) rfl))) (by decide) (t := .boolean) (t' := .long) (by decide) (by decide)))
      have zz8 : n0 ≤ h6.size := Nat.le_trans Z0 (Keep.of_wr W6).1
      have kp9 : Keep h0 h6 [a0] := kp0.wr W6 (Or.inl (List.mem_of_getElem? (i := 0) rfl))
      have pre10 : Go p.tables e below S0 T6 (mkF m 31 #[vR a0, vI p1] [(.long (1 : Int64)), (.ref a0)]) := fun t k => pre6 t (by
        refine XS.aloadN X6.here hx rfl (hb hby d5_29) rfl rfl ?_
        show Steps p.tables e below (T6.setTop (mkF m 30 #[vR a0, vI p1] [(.ref a0)])) _
        refine XS.lconst X6.here hx rfl (hb hby d5_30) ?_
        show Steps p.tables e below (T6.setTop (mkF m 31 #[vR a0, vI p1] [(.long (1 : Int64)), (.ref a0)])) _
        exact k)
      obtain ⟨T11, h11, X11, e11, W11, st11⟩ := putF X6 hx hZ hown (host := "") (Or.inl (hw _ (List.mem_of_getElem? (i := 15) rfl))) Via.refl e6 f7_2 f7_1 (Or.inl (hw _ (List.mem_of_getElem? (i := 16) rfl))) (hw _ (List.mem_of_getElem? (i := 5) rfl)) (ty := .long) (by decide) rfl rfl (g := (mkF m 31 #[vR a0, vI p1] [(.long (1 : Int64)), (.ref a0)])) rfl rfl (hb hby d5_31)
      have pre11 : Go p.tables e below S0 T11 (mkF m 34 #[vR a0, vI p1] []) := fun t k => pre10 t (st11 t k)
      have N11 := Fr.snoc X11 N6 g0
      have fw11 : Fld Z h11 a0 "com/example/ratatoskr/ratatoskr/xml/TextPosition" "column" "J" (.long (1 : Int64)) := Fld.same W11 f7_2
      have f12_1 := Exa.wr W11 f7_1
      have f12_2 := Fld.other W11 fw6 (Or.inr (slot_ne (Or.inl (hw _ (List.mem_of_getElem? (i := 14) rfl))) (Or.inl (hw _ (List.mem_of_getElem? (i := 16) rfl))) (by decide) (t := .long) (t' := .long) (by decide) (by decide)))
      have f12_3 := Fld.other W11 f7_3 (Or.inr (slot_ne (Or.inl (hw _ (List.mem_of_getElem? (i := 27) rfl))) (Or.inl (hw _ (List.mem_of_getElem? (i := 16) rfl))) (by decide) (t := .boolean) (t' := .long) (by decide) (by decide)))
      have zz13 : n0 ≤ h11.size := Nat.le_trans zz8 (Keep.of_wr W11).1
      have kp14 : Keep h0 h11 [a0] := kp9.wr W11 (Or.inl (List.mem_of_getElem? (i := 0) rfl))
      have pre15 : Go p.tables e below S0 T11 (mkF m 64 #[vR a0, vI p1] []) := fun t k => pre11 t (by
        refine XS.goto X11.here hx rfl (pc0 := 34) (pc' := 64) rfl (hb hby d5_34) (by decide) (by decide) ?_
        show Steps p.tables e below (T11.setTop (mkF m 64 #[vR a0, vI p1] [])) _
        exact k)
      exact tail50 ⟨T11, _, h11, (wl + (1 : Int64)), (1 : Int64), X11.more (by decide) (by decide), e11, N11, zz13, kp14, f12_1, f12_2, fw11, f12_3, (by exact ⟨by simp [own_l, c3_2], by simp [own_c, c3_2]⟩), pre15⟩
    · skip
      have pre16 : Go p.tables e below S0 s₁ (mkF m 9 #[vR a0, vI p1] [(.int (10 : Int32)), (.int p1)]) := fun t k => pre1 t (by
        refine XS.icmpNo X0.here hx rfl (hb hby d5_3) rfl (feq c3_2).1 ?_
        show Steps p.tables e below (s₁.setTop (mkF m 6 #[vR a0, vI p1] [])) _
        refine XS.iloadN X0.here hx rfl (hb hby d5_6) rfl ?_
        show Steps p.tables e below (s₁.setTop (mkF m 7 #[vR a0, vI p1] [(.int p1)])) _
        refine XS.bipush X0.here hx rfl (hb hby d5_7) ?_
        show Steps p.tables e below (s₁.setTop (mkF m 9 #[vR a0, vI p1] [(.int (10 : Int32)), (.int p1)])) _
        exact k)
      by_cases c9_17 : p1 = (10 : Int32)
      · skip
        have pre18 : Go p.tables e below S0 s₁ (mkF m 13 #[vR a0, vI p1] [(.ref a0)]) := fun t k => pre16 t (by
          refine XS.icmpNo X0.here hx rfl (hb hby d5_9) rfl (teq c9_17).2 ?_
          show Steps p.tables e below (s₁.setTop (mkF m 12 #[vR a0, vI p1] [])) _
          refine XS.aloadN X0.here hx rfl (hb hby d5_12) rfl rfl ?_
          show Steps p.tables e below (s₁.setTop (mkF m 13 #[vR a0, vI p1] [(.ref a0)])) _
          exact k)
        obtain ⟨T19, X19, e19, st19⟩ := getF X0 hx hZ hown (host := "") (Or.inl (hw _ (List.mem_of_getElem? (i := 26) rfl))) Via.refl e0 F_after (g := (mkF m 13 #[vR a0, vI p1] [(.ref a0)])) rfl rfl (hb hby d5_13)
        have pre19 : Go p.tables e below S0 T19 (mkF m 16 #[vR a0, vI p1] [(.int wr)]) := fun t k => pre18 t (st19 t k)
        by_cases c16_20 : wr = (0 : Int32)
        · skip
          have pre21 : Go p.tables e below S0 T19 (mkF m 21 #[vR a0, vI p1] [(.ref a0), (.ref a0)]) := fun t k => pre19 t (by
            refine XS.ifNo X19.here hx rfl (hb hby d5_16) rfl ((if0 _ _).trans (teq c16_20).2) ?_
            show Steps p.tables e below (T19.setTop (mkF m 19 #[vR a0, vI p1] [])) _
            refine XS.aloadN X19.here hx rfl (hb hby d5_19) rfl rfl ?_
            show Steps p.tables e below (T19.setTop (mkF m 20 #[vR a0, vI p1] [(.ref a0)])) _
            refine XS.dup X19.here hx rfl (hb hby d5_20) rfl rfl ?_
            show Steps p.tables e below (T19.setTop (mkF m 21 #[vR a0, vI p1] [(.ref a0), (.ref a0)])) _
            exact k)
          obtain ⟨T22, X22, e22, st22⟩ := getF X19 hx hZ hown (host := "") (Or.inl (hw _ (List.mem_of_getElem? (i := 13) rfl))) Via.refl e19 F_line (g := (mkF m 21 #[vR a0, vI p1] [(.ref a0), (.ref a0)])) rfl rfl (hb hby d5_21)
          have pre22 : Go p.tables e below S0 T22 (mkF m 24 #[vR a0, vI p1] [(.long wl), (.ref a0)]) := fun t k => pre21 t (st22 t k)
          have pre23 : Go p.tables e below S0 T22 (mkF m 26 #[vR a0, vI p1] [(.long (wl + (1 : Int64))), (.ref a0)]) := fun t k => pre22 t (by
            refine XS.lconst X22.here hx rfl (hb hby d5_24) ?_
            show Steps p.tables e below (T22.setTop (mkF m 25 #[vR a0, vI p1] [(.long (1 : Int64)), (.long wl), (.ref a0)])) _
            refine XS.ladd X22.here hx rfl (hb hby d5_25) rfl ?_
            show Steps p.tables e below (T22.setTop (mkF m 26 #[vR a0, vI p1] [(.long (wl + (1 : Int64))), (.ref a0)])) _
            exact k)
          obtain ⟨T24, h24, X24, e24, W24, st24⟩ := putF X22 hx hZ hown (host := "") (Or.inl (hw _ (List.mem_of_getElem? (i := 13) rfl))) Via.refl e22 F_line E0 (Or.inl (hw _ (List.mem_of_getElem? (i := 14) rfl))) (hw _ (List.mem_of_getElem? (i := 5) rfl)) (ty := .long) (by decide) rfl rfl (g := (mkF m 26 #[vR a0, vI p1] [(.long (wl + (1 : Int64))), (.ref a0)])) rfl rfl (hb hby d5_26)
          have pre24 : Go p.tables e below S0 T24 (mkF m 29 #[vR a0, vI p1] []) := fun t k => pre23 t (st24 t k)
          have N24 := Fr.snoc X24 N0 g0
          have fw24 : Fld Z h24 a0 "com/example/ratatoskr/ratatoskr/xml/TextPosition" "line" "J" (.long (wl + (1 : Int64))) := Fld.same W24 F_line
          have f25_1 := Exa.wr W24 E0
          have f25_2 := Fld.other W24 F_column (Or.inr (slot_ne (Or.inl (hw _ (List.mem_of_getElem? (i := 16) rfl))) (Or.inl (hw _ (List.mem_of_getElem? (i := 14) rfl))) (by decide) (t := .long) (t' := .long) (by decide) (by decide)))
          have f25_3 := Fld.other W24 F_after (Or.inr (slot_ne (Or.inl (hw _ (List.mem_of_getElem? (i := 27) rfl))) (Or.inl (hw _ (List.mem_of_getElem? (i := 14) rfl))) (by decide) (t := .boolean) (t' := .long) (by decide) (by decide)))
          have zz26 : n0 ≤ h24.size := Nat.le_trans Z0 (Keep.of_wr W24).1
          have kp27 : Keep h0 h24 [a0] := kp0.wr W24 (Or.inl (List.mem_of_getElem? (i := 0) rfl))
          have pre28 : Go p.tables e below S0 T24 (mkF m 31 #[vR a0, vI p1] [(.long (1 : Int64)), (.ref a0)]) := fun t k => pre24 t (by
            refine XS.aloadN X24.here hx rfl (hb hby d5_29) rfl rfl ?_
            show Steps p.tables e below (T24.setTop (mkF m 30 #[vR a0, vI p1] [(.ref a0)])) _
            refine XS.lconst X24.here hx rfl (hb hby d5_30) ?_
            show Steps p.tables e below (T24.setTop (mkF m 31 #[vR a0, vI p1] [(.long (1 : Int64)), (.ref a0)])) _
            exact k)
          obtain ⟨T29, h29, X29, e29, W29, st29⟩ := putF X24 hx hZ hown (host := "") (Or.inl (hw _ (List.mem_of_getElem? (i := 15) rfl))) Via.refl e24 f25_2 f25_1 (Or.inl (hw _ (List.mem_of_getElem? (i := 16) rfl))) (hw _ (List.mem_of_getElem? (i := 5) rfl)) (ty := .long) (by decide) rfl rfl (g := (mkF m 31 #[vR a0, vI p1] [(.long (1 : Int64)), (.ref a0)])) rfl rfl (hb hby d5_31)
          have pre29 : Go p.tables e below S0 T29 (mkF m 34 #[vR a0, vI p1] []) := fun t k => pre28 t (st29 t k)
          have N29 := Fr.snoc X29 N24 g0
          have fw29 : Fld Z h29 a0 "com/example/ratatoskr/ratatoskr/xml/TextPosition" "column" "J" (.long (1 : Int64)) := Fld.same W29 f25_2
          have f30_1 := Exa.wr W29 f25_1
          have f30_2 := Fld.other W29 fw24 (Or.inr (slot_ne (Or.inl (hw _ (List.mem_of_getElem? (i := 14) rfl))) (Or.inl (hw _ (List.mem_of_getElem? (i := 16) rfl))) (by decide) (t := .long) (t' := .long) (by decide) (by decide)))
          have f30_3 := Fld.other W29 f25_3 (Or.inr (slot_ne (Or.inl (hw _ (List.mem_of_getElem? (i := 27) rfl))) (Or.inl (hw _ (List.mem_of_getElem? (i := 16) rfl))) (by decide) (t := .boolean) (t' := .long) (by decide) (by decide)))
          have zz31 : n0 ≤ h29.size := Nat.le_trans zz26 (Keep.of_wr W29).1
          have kp32 : Keep h0 h29 [a0] := kp27.wr W29 (Or.inl (List.mem_of_getElem? (i := 0) rfl))
          have pre33 : Go p.tables e below S0 T29 (mkF m 64 #[vR a0, vI p1] []) := fun t k => pre29 t (by
            refine XS.goto X29.here hx rfl (pc0 := 34) (pc' := 64) rfl (hb hby d5_34) (by decide) (by decide) ?_
            show Steps p.tables e below (T29.setTop (mkF m 64 #[vR a0, vI p1] [])) _
            exact k)
          exact tail50 ⟨T29, _, h29, (wl + (1 : Int64)), (1 : Int64), X29.more (by decide) (by decide), e29, N29, zz31, kp32, f30_1, f30_2, fw29, f30_3, (by exact ⟨by simp [own_l, c3_2, c9_17, c16_20], by simp [own_c, c3_2, c9_17, c16_20]⟩), pre33⟩
        · skip
          have pre34 : Go p.tables e below S0 T19 (mkF m 64 #[vR a0, vI p1] []) := fun t k => pre19 t (by
            refine XS.ifYes X19.here hx rfl (pc0 := 16) (pc' := 37) rfl (hb hby d5_16) rfl ((if0 _ _).trans (feq c16_20).2) (by decide) (by decide) ?_
            show Steps p.tables e below (T19.setTop (mkF m 37 #[vR a0, vI p1] [])) _
            refine XS.iloadN X19.here hx rfl (hb hby d5_37) rfl ?_
            show Steps p.tables e below (T19.setTop (mkF m 38 #[vR a0, vI p1] [(.int p1)])) _
            refine XS.bipush X19.here hx rfl (hb hby d5_38) ?_
            show Steps p.tables e below (T19.setTop (mkF m 40 #[vR a0, vI p1] [(.int (10 : Int32)), (.int p1)])) _
            refine XS.icmpYes X19.here hx rfl (pc0 := 40) (pc' := 64) rfl (hb hby d5_40) rfl (teq c9_17).1 (by decide) (by decide) ?_
            show Steps p.tables e below (T19.setTop (mkF m 64 #[vR a0, vI p1] [])) _
            exact k)
          exact tail50 ⟨T19, _, h0, wl, wc, X19.more (by decide) (by decide), e19, N0, Z0, kp0, E0, F_line, F_column, F_after, (by exact ⟨by simp [own_l, c3_2, c9_17, c16_20], by simp [own_c, c3_2, c9_17, c16_20]⟩), pre34⟩
      · skip
        have pre35 : Go p.tables e below S0 s₁ (mkF m 51 #[vR a0, vI p1] [(.int (128 : Int32)), (.int (p1 &&& (192 : Int32)))]) := fun t k => pre16 t (by
          refine XS.icmpYes X0.here hx rfl (pc0 := 9) (pc' := 37) rfl (hb hby d5_9) rfl (feq c9_17).2 (by decide) (by decide) ?_
          show Steps p.tables e below (s₁.setTop (mkF m 37 #[vR a0, vI p1] [])) _
          refine XS.iloadN X0.here hx rfl (hb hby d5_37) rfl ?_
          show Steps p.tables e below (s₁.setTop (mkF m 38 #[vR a0, vI p1] [(.int p1)])) _
          refine XS.bipush X0.here hx rfl (hb hby d5_38) ?_
          show Steps p.tables e below (s₁.setTop (mkF m 40 #[vR a0, vI p1] [(.int (10 : Int32)), (.int p1)])) _
          refine XS.icmpNo X0.here hx rfl (hb hby d5_40) rfl (feq c9_17).1 ?_
          show Steps p.tables e below (s₁.setTop (mkF m 43 #[vR a0, vI p1] [])) _
          refine XS.iloadN X0.here hx rfl (hb hby d5_43) rfl ?_
          show Steps p.tables e below (s₁.setTop (mkF m 44 #[vR a0, vI p1] [(.int p1)])) _
          refine XS.sipush X0.here hx rfl (hb hby d5_44) ?_
          show Steps p.tables e below (s₁.setTop (mkF m 47 #[vR a0, vI p1] [(.int (192 : Int32)), (.int p1)])) _
          refine XS.iand X0.here hx rfl (hb hby d5_47) rfl ?_
          show Steps p.tables e below (s₁.setTop (mkF m 48 #[vR a0, vI p1] [(.int (p1 &&& (192 : Int32)))])) _
          refine XS.sipush X0.here hx rfl (hb hby d5_48) ?_
          show Steps p.tables e below (s₁.setTop (mkF m 51 #[vR a0, vI p1] [(.int (128 : Int32)), (.int (p1 &&& (192 : Int32)))])) _
          exact k)
        by_cases c51_36 : (p1 &&& (192 : Int32)) = (128 : Int32)
        · skip
          have pre37 : Go p.tables e below S0 s₁ (mkF m 64 #[vR a0, vI p1] []) := fun t k => pre35 t (by
            refine XS.icmpYes X0.here hx rfl (pc0 := 51) (pc' := 64) rfl (hb hby d5_51) rfl (teq c51_36).1 (by decide) (by decide) ?_
            show Steps p.tables e below (s₁.setTop (mkF m 64 #[vR a0, vI p1] [])) _
            exact k)
          exact tail50 ⟨s₁, _, h0, wl, wc, X0.more (by decide) (by decide), e0, N0, Z0, kp0, E0, F_line, F_column, F_after, (by exact ⟨by simp [own_l, c3_2, c9_17, c51_36], by simp [own_c, c3_2, c9_17, c51_36]⟩), pre37⟩
        · skip
          have pre38 : Go p.tables e below S0 s₁ (mkF m 56 #[vR a0, vI p1] [(.ref a0), (.ref a0)]) := fun t k => pre35 t (by
            refine XS.icmpNo X0.here hx rfl (hb hby d5_51) rfl (feq c51_36).1 ?_
            show Steps p.tables e below (s₁.setTop (mkF m 54 #[vR a0, vI p1] [])) _
            refine XS.aloadN X0.here hx rfl (hb hby d5_54) rfl rfl ?_
            show Steps p.tables e below (s₁.setTop (mkF m 55 #[vR a0, vI p1] [(.ref a0)])) _
            refine XS.dup X0.here hx rfl (hb hby d5_55) rfl rfl ?_
            show Steps p.tables e below (s₁.setTop (mkF m 56 #[vR a0, vI p1] [(.ref a0), (.ref a0)])) _
            exact k)
          obtain ⟨T39, X39, e39, st39⟩ := getF X0 hx hZ hown (host := "") (Or.inl (hw _ (List.mem_of_getElem? (i := 15) rfl))) Via.refl e0 F_column (g := (mkF m 56 #[vR a0, vI p1] [(.ref a0), (.ref a0)])) rfl rfl (hb hby d5_56)
          have pre39 : Go p.tables e below S0 T39 (mkF m 59 #[vR a0, vI p1] [(.long wc), (.ref a0)]) := fun t k => pre38 t (st39 t k)
          have pre40 : Go p.tables e below S0 T39 (mkF m 61 #[vR a0, vI p1] [(.long (wc + (1 : Int64))), (.ref a0)]) := fun t k => pre39 t (by
            refine XS.lconst X39.here hx rfl (hb hby d5_59) ?_
            show Steps p.tables e below (T39.setTop (mkF m 60 #[vR a0, vI p1] [(.long (1 : Int64)), (.long wc), (.ref a0)])) _
            refine XS.ladd X39.here hx rfl (hb hby d5_60) rfl ?_
            show Steps p.tables e below (T39.setTop (mkF m 61 #[vR a0, vI p1] [(.long (wc + (1 : Int64))), (.ref a0)])) _
            exact k)
          obtain ⟨T41, h41, X41, e41, W41, st41⟩ := putF X39 hx hZ hown (host := "") (Or.inl (hw _ (List.mem_of_getElem? (i := 15) rfl))) Via.refl e39 F_column E0 (Or.inl (hw _ (List.mem_of_getElem? (i := 16) rfl))) (hw _ (List.mem_of_getElem? (i := 5) rfl)) (ty := .long) (by decide) rfl rfl (g := (mkF m 61 #[vR a0, vI p1] [(.long (wc + (1 : Int64))), (.ref a0)])) rfl rfl (hb hby d5_61)
          have pre41 : Go p.tables e below S0 T41 (mkF m 64 #[vR a0, vI p1] []) := fun t k => pre40 t (st41 t k)
          have N41 := Fr.snoc X41 N0 g0
          have fw41 : Fld Z h41 a0 "com/example/ratatoskr/ratatoskr/xml/TextPosition" "column" "J" (.long (wc + (1 : Int64))) := Fld.same W41 F_column
          have f42_1 := Exa.wr W41 E0
          have f42_2 := Fld.other W41 F_line (Or.inr (slot_ne (Or.inl (hw _ (List.mem_of_getElem? (i := 14) rfl))) (Or.inl (hw _ (List.mem_of_getElem? (i := 16) rfl))) (by decide) (t := .long) (t' := .long) (by decide) (by decide)))
          have f42_3 := Fld.other W41 F_after (Or.inr (slot_ne (Or.inl (hw _ (List.mem_of_getElem? (i := 27) rfl))) (Or.inl (hw _ (List.mem_of_getElem? (i := 16) rfl))) (by decide) (t := .boolean) (t' := .long) (by decide) (by decide)))
          have zz43 : n0 ≤ h41.size := Nat.le_trans Z0 (Keep.of_wr W41).1
          have kp44 : Keep h0 h41 [a0] := kp0.wr W41 (Or.inl (List.mem_of_getElem? (i := 0) rfl))
          exact tail50 ⟨T41, _, h41, wl, (wc + (1 : Int64)), X41.more (by decide) (by decide), e41, N41, zz43, kp44, f42_1, f42_2, fw41, f42_3, (by exact ⟨by simp [own_l, c3_2, c9_17, c51_36], by simp [own_c, c3_2, c9_17, c51_36]⟩), pre41⟩
  rintro ⟨T45, Lo45, h45, j64_f1_46, j64_f2_47, X45, e45, N45, zz45, kp45, f45_0, f45_1, f45_2, f45_3, hj64_48, pre49⟩
  have pre51 : Go p.tables e below S0 T45 (mkF m 68 #[vR a0, vI p1] [(.int (13 : Int32)), (.int p1), (.ref a0)]) := fun t k => pre49 t (by
    refine XS.aloadN X45.here hx rfl (hb hby d5_64) rfl rfl ?_
    show Steps p.tables e below (T45.setTop (mkF m 65 #[vR a0, vI p1] [(.ref a0)])) _
    refine XS.iloadN X45.here hx rfl (hb hby d5_65) rfl ?_
    show Steps p.tables e below (T45.setTop (mkF m 66 #[vR a0, vI p1] [(.int p1), (.ref a0)])) _
    refine XS.bipush X45.here hx rfl (hb hby d5_66) ?_
    show Steps p.tables e below (T45.setTop (mkF m 68 #[vR a0, vI p1] [(.int (13 : Int32)), (.int p1), (.ref a0)])) _
    exact k)
  by_cases c68_52 : p1 = (13 : Int32)
  · skip
    have pre53 : Go p.tables e below S0 T45 (mkF m 76 #[vR a0, vI p1] [(.int (1 : Int32)), (.ref a0)]) := fun t k => pre51 t (by
      refine XS.icmpNo X45.here hx rfl (hb hby d5_68) rfl (teq c68_52).2 ?_
      show Steps p.tables e below (T45.setTop (mkF m 71 #[vR a0, vI p1] [(.ref a0)])) _
      refine XS.iconst X45.here hx rfl (hb hby d5_71) ?_
      show Steps p.tables e below (T45.setTop (mkF m 72 #[vR a0, vI p1] [(.int (1 : Int32)), (.ref a0)])) _
      refine XS.goto X45.here hx rfl (pc0 := 72) (pc' := 76) rfl (hb hby d5_72) (by decide) (by decide) ?_
      show Steps p.tables e below (T45.setTop (mkF m 76 #[vR a0, vI p1] [(.int (1 : Int32)), (.ref a0)])) _
      exact k)
    obtain ⟨T54, h54, X54, e54, W54, st54⟩ := putFN X45 hx hZ hown (hw _ (List.mem_of_getElem? (i := 26) rfl)) Via.refl e45 f45_3 f45_0 (Or.inl (hw _ (List.mem_of_getElem? (i := 27) rfl))) (hw _ (List.mem_of_getElem? (i := 5) rfl)) (ty := .boolean) (v' := (.int (1 : Int32))) (by decide) rfl rfl (g := (mkF m 76 #[vR a0, vI p1] [(.int (1 : Int32)), (.ref a0)])) rfl rfl (hb hby d5_76)
    have pre54 : Go p.tables e below S0 T54 (mkF m 79 #[vR a0, vI p1] []) := fun t k => pre53 t (st54 t k)
    have N54 := Fr.snoc X54 N45 g0
    have fw54 : Fld Z h54 a0 "com/example/ratatoskr/ratatoskr/xml/TextPosition" "afterReturn" "Z" (.int (1 : Int32)) := Fld.same W54 f45_3
    have f55_1 := Exa.wr W54 f45_0
    have f55_2 := Fld.other W54 f45_1 (Or.inr (slot_ne (Or.inl (hw _ (List.mem_of_getElem? (i := 14) rfl))) (Or.inl (hw _ (List.mem_of_getElem? (i := 27) rfl))) (by decide) (t := .long) (t' := .boolean) (by decide) (by decide)))
    have f55_3 := Fld.other W54 f45_2 (Or.inr (slot_ne (Or.inl (hw _ (List.mem_of_getElem? (i := 16) rfl))) (Or.inl (hw _ (List.mem_of_getElem? (i := 27) rfl))) (by decide) (t := .long) (t' := .boolean) (by decide) (by decide)))
    have zz56 : n0 ≤ h54.size := Nat.le_trans zz45 (Keep.of_wr W54).1
    have kp57 : Keep h0 h54 [a0] := kp45.wr W54 (Or.inl (List.mem_of_getElem? (i := 0) rfl))
    obtain ⟨fs, hr, hrun, hended, hW, hsame⟩ := X54.leave (v := none) (fun _ => rfl)
    exact ⟨_, _, pre54.fin hS0 (X54.returnOut hx Bd.returns (hb hby d5_79) hr), hrun, hended, _, _, rfl, (by
      show Q5 Z a0 p1 wl wc wr h0 n0 _ T54.heap _
      rw [e54]
      exact ⟨rfl, N54, _, _, _, ⟨hj64_48.1, hj64_48.2, by simp [own_r, c68_52]⟩, kp57, f55_1, f55_2, f55_3, fw54⟩), ⟨_, rfl⟩, hW, hsame.mono (by decide) (by decide)⟩
  · skip
    have pre58 : Go p.tables e below S0 T45 (mkF m 76 #[vR a0, vI p1] [(.int (0 : Int32)), (.ref a0)]) := fun t k => pre51 t (by
      refine XS.icmpYes X45.here hx rfl (pc0 := 68) (pc' := 75) rfl (hb hby d5_68) rfl (feq c68_52).2 (by decide) (by decide) ?_
      show Steps p.tables e below (T45.setTop (mkF m 75 #[vR a0, vI p1] [(.ref a0)])) _
      refine XS.iconst X45.here hx rfl (hb hby d5_75) ?_
      show Steps p.tables e below (T45.setTop (mkF m 76 #[vR a0, vI p1] [(.int (0 : Int32)), (.ref a0)])) _
      exact k)
    obtain ⟨T59, h59, X59, e59, W59, st59⟩ := putFN X45 hx hZ hown (hw _ (List.mem_of_getElem? (i := 26) rfl)) Via.refl e45 f45_3 f45_0 (Or.inl (hw _ (List.mem_of_getElem? (i := 27) rfl))) (hw _ (List.mem_of_getElem? (i := 5) rfl)) (ty := .boolean) (v' := (.int (0 : Int32))) (by decide) rfl rfl (g := (mkF m 76 #[vR a0, vI p1] [(.int (0 : Int32)), (.ref a0)])) rfl rfl (hb hby d5_76)
    have pre59 : Go p.tables e below S0 T59 (mkF m 79 #[vR a0, vI p1] []) := fun t k => pre58 t (st59 t k)
    have N59 := Fr.snoc X59 N45 g0
    have fw59 : Fld Z h59 a0 "com/example/ratatoskr/ratatoskr/xml/TextPosition" "afterReturn" "Z" (.int (0 : Int32)) := Fld.same W59 f45_3
    have f60_1 := Exa.wr W59 f45_0
    have f60_2 := Fld.other W59 f45_1 (Or.inr (slot_ne (Or.inl (hw _ (List.mem_of_getElem? (i := 14) rfl))) (Or.inl (hw _ (List.mem_of_getElem? (i := 27) rfl))) (by decide) (t := .long) (t' := .boolean) (by decide) (by decide)))
    have f60_3 := Fld.other W59 f45_2 (Or.inr (slot_ne (Or.inl (hw _ (List.mem_of_getElem? (i := 16) rfl))) (Or.inl (hw _ (List.mem_of_getElem? (i := 27) rfl))) (by decide) (t := .long) (t' := .boolean) (by decide) (by decide)))
    have zz61 : n0 ≤ h59.size := Nat.le_trans zz45 (Keep.of_wr W59).1
    have kp62 : Keep h0 h59 [a0] := kp45.wr W59 (Or.inl (List.mem_of_getElem? (i := 0) rfl))
    obtain ⟨fs, hr, hrun, hended, hW, hsame⟩ := X59.leave (v := none) (fun _ => rfl)
    exact ⟨_, _, pre59.fin hS0 (X59.returnOut hx Bd.returns (hb hby d5_79) hr), hrun, hended, _, _, rfl, (by
      show Q5 Z a0 p1 wl wc wr h0 n0 _ T59.heap _
      rw [e59]
      exact ⟨rfl, N59, _, _, _, ⟨hj64_48.1, hj64_48.2, by simp [own_r, c68_52]⟩, kp62, f60_1, f60_2, f60_3, fw59⟩), ⟨_, rfl⟩, hW, hsame.mono (by decide) (by decide)⟩
theorem ef_6 (m : MethodId) (x0 : Addr) (x1 : Int32) : entryFrame m #[(.ref x0), (.int x1)] 2 = mkF m 0 #[.val (.ref x0), .val (.int x1)] [] := by first | (simp [entryFrame, mkF, argsToLocals, Value.category]; done) | rfl
theorem d6_0 : decode method_5_code 0 = .ok (.iload_n 1, 1) := by decide +kernel
theorem d6_1 : decode method_5_code 1 = .ok (.bipush 13, 2) := by decide +kernel
theorem d6_3 : decode method_5_code 3 = .ok (.if_icmp .ne 22, 3) := by decide +kernel
theorem d6_6 : decode method_5_code 6 = .ok (.aload_n 0, 1) := by decide +kernel
theorem d6_7 : decode method_5_code 7 = .ok (.iconst 0, 1) := by decide +kernel
theorem d6_8 : decode method_5_code 8 = .ok (.aload_n 0, 1) := by decide +kernel
theorem d6_9 : decode method_5_code 9 = .ok (.iconst 0, 1) := by decide +kernel
theorem d6_10 : decode method_5_code 10 = .ok (.laload, 1) := by decide +kernel
theorem d6_11 : decode method_5_code 11 = .ok (.lconst 1, 1) := by decide +kernel
theorem d6_12 : decode method_5_code 12 = .ok (.ladd, 1) := by decide +kernel
theorem d6_13 : decode method_5_code 13 = .ok (.lastore, 1) := by decide +kernel
theorem d6_14 : decode method_5_code 14 = .ok (.aload_n 0, 1) := by decide +kernel
theorem d6_15 : decode method_5_code 15 = .ok (.iconst 1, 1) := by decide +kernel
theorem d6_16 : decode method_5_code 16 = .ok (.lconst 1, 1) := by decide +kernel
theorem d6_17 : decode method_5_code 17 = .ok (.lastore, 1) := by decide +kernel
theorem d6_18 : decode method_5_code 18 = .ok (.aload_n 0, 1) := by decide +kernel
theorem d6_19 : decode method_5_code 19 = .ok (.iconst 2, 1) := by decide +kernel
theorem d6_20 : decode method_5_code 20 = .ok (.lconst 1, 1) := by decide +kernel
theorem d6_21 : decode method_5_code 21 = .ok (.lastore, 1) := by decide +kernel
theorem d6_22 : decode method_5_code 22 = .ok (.goto 69, 3) := by decide +kernel
theorem d6_25 : decode method_5_code 25 = .ok (.iload_n 1, 1) := by decide +kernel
theorem d6_26 : decode method_5_code 26 = .ok (.bipush 10, 2) := by decide +kernel
theorem d6_28 : decode method_5_code 28 = .ok (.if_icmp .ne 30, 3) := by decide +kernel
theorem d6_31 : decode method_5_code 31 = .ok (.aload_n 0, 1) := by decide +kernel
theorem d6_32 : decode method_5_code 32 = .ok (.iconst 2, 1) := by decide +kernel
theorem d6_33 : decode method_5_code 33 = .ok (.laload, 1) := by decide +kernel
theorem d6_34 : decode method_5_code 34 = .ok (.lconst 0, 1) := by decide +kernel
theorem d6_35 : decode method_5_code 35 = .ok (.lcmp, 1) := by decide +kernel
theorem d6_36 : decode method_5_code 36 = .ok (.ifCond .ne 15, 3) := by decide +kernel
theorem d6_39 : decode method_5_code 39 = .ok (.aload_n 0, 1) := by decide +kernel
theorem d6_40 : decode method_5_code 40 = .ok (.iconst 0, 1) := by decide +kernel
theorem d6_41 : decode method_5_code 41 = .ok (.aload_n 0, 1) := by decide +kernel
theorem d6_42 : decode method_5_code 42 = .ok (.iconst 0, 1) := by decide +kernel
theorem d6_43 : decode method_5_code 43 = .ok (.laload, 1) := by decide +kernel
theorem d6_44 : decode method_5_code 44 = .ok (.lconst 1, 1) := by decide +kernel
theorem d6_45 : decode method_5_code 45 = .ok (.ladd, 1) := by decide +kernel
theorem d6_46 : decode method_5_code 46 = .ok (.lastore, 1) := by decide +kernel
theorem d6_47 : decode method_5_code 47 = .ok (.aload_n 0, 1) := by decide +kernel
theorem d6_48 : decode method_5_code 48 = .ok (.iconst 1, 1) := by decide +kernel
theorem d6_49 : decode method_5_code 49 = .ok (.lconst 1, 1) := by decide +kernel
theorem d6_50 : decode method_5_code 50 = .ok (.lastore, 1) := by decide +kernel
theorem d6_51 : decode method_5_code 51 = .ok (.aload_n 0, 1) := by decide +kernel
theorem d6_52 : decode method_5_code 52 = .ok (.iconst 2, 1) := by decide +kernel
theorem d6_53 : decode method_5_code 53 = .ok (.lconst 0, 1) := by decide +kernel
theorem d6_54 : decode method_5_code 54 = .ok (.lastore, 1) := by decide +kernel
theorem d6_55 : decode method_5_code 55 = .ok (.goto 36, 3) := by decide +kernel
theorem d6_58 : decode method_5_code 58 = .ok (.iload_n 1, 1) := by decide +kernel
theorem d6_59 : decode method_5_code 59 = .ok (.sipush 128, 3) := by decide +kernel
theorem d6_62 : decode method_5_code 62 = .ok (.if_icmp .lt 17, 3) := by decide +kernel
theorem d6_65 : decode method_5_code 65 = .ok (.iload_n 1, 1) := by decide +kernel
theorem d6_66 : decode method_5_code 66 = .ok (.sipush 191, 3) := by decide +kernel
theorem d6_69 : decode method_5_code 69 = .ok (.if_icmp .gt 10, 3) := by decide +kernel
theorem d6_72 : decode method_5_code 72 = .ok (.aload_n 0, 1) := by decide +kernel
theorem d6_73 : decode method_5_code 73 = .ok (.iconst 2, 1) := by decide +kernel
theorem d6_74 : decode method_5_code 74 = .ok (.lconst 0, 1) := by decide +kernel
theorem d6_75 : decode method_5_code 75 = .ok (.lastore, 1) := by decide +kernel
theorem d6_76 : decode method_5_code 76 = .ok (.goto 15, 3) := by decide +kernel
theorem d6_79 : decode method_5_code 79 = .ok (.aload_n 0, 1) := by decide +kernel
theorem d6_80 : decode method_5_code 80 = .ok (.iconst 1, 1) := by decide +kernel
theorem d6_81 : decode method_5_code 81 = .ok (.aload_n 0, 1) := by decide +kernel
theorem d6_82 : decode method_5_code 82 = .ok (.iconst 1, 1) := by decide +kernel
theorem d6_83 : decode method_5_code 83 = .ok (.laload, 1) := by decide +kernel
theorem d6_84 : decode method_5_code 84 = .ok (.lconst 1, 1) := by decide +kernel
theorem d6_85 : decode method_5_code 85 = .ok (.ladd, 1) := by decide +kernel
theorem d6_86 : decode method_5_code 86 = .ok (.lastore, 1) := by decide +kernel
theorem d6_87 : decode method_5_code 87 = .ok (.aload_n 0, 1) := by decide +kernel
theorem d6_88 : decode method_5_code 88 = .ok (.iconst 2, 1) := by decide +kernel
theorem d6_89 : decode method_5_code 89 = .ok (.lconst 0, 1) := by decide +kernel
theorem d6_90 : decode method_5_code 90 = .ok (.lastore, 1) := by decide +kernel
theorem d6_91 : decode method_5_code 91 = .ok (.return_, 1) := by decide +kernel
def Q6 (Z : State) (a0 : Addr) (p1 : Int32) (k0 : ClassId) (s0 s1 s2 : Int64) (h0 : Heap) (n0 : Nat) (v : Option Value) (h : Heap) (L : List Loc) : Prop := v = none ∧ Fr n0 L ∧ ∃ (t0 t1 t2 : Int64), (t0 = own_s0 s0 s2 p1 ∧ t1 = own_s1 s1 s2 p1 ∧ t2 = own_s2 p1) ∧ Keep h0 h [a0] ∧ (Arv Z h a0 k0 .long (3 : Int32) [(.long t0), (.long t1), (.long t2)] (.long (0 : Int64)))
set_option maxRecDepth 65536 in
set_option maxHeartbeats 40000000 in
theorem rm6 (l : Launch) (Z : State) (A0 : Array Value) (hw : ∀ d ∈ tables_1, d.before A0 Z = true) (ws : List Jvm.Cond) (a0 : Addr) (p1 : Int32) (k0 : ClassId) (s0 s1 s2 : Int64) (h0 : Heap) (n0 : Nat) (Z0 : n0 ≤ h0.size) (V0 : Arv Z h0 a0 k0 .long (3 : Int32) [(.long s0), (.long s1), (.long s2)] (.long (0 : Int64))) (g0 : n0 ≤ a0) :
    MetFree l (⟨"com/example/ratatoskr/ratatoskr/xml/TextPositionAdvancePinLaw", "ref", "([JI)V"⟩ : MethodName) (head1 (Jvm.Cond.code (⟨"com/example/ratatoskr/ratatoskr/xml/TextPositionAdvancePinLaw", "ref", "([JI)V"⟩ : MethodName) method_5_code 2 none :: ws) ({ frames := 0, cells := 0, slots := 0, locals := 0 } : Room)) (fun a U => a = #[(.ref a0), (.int p1)] ∧ Z.Warmed39 U.vm ∧ U.heap = h0) (fun _ _ _ _ _ => True) (fun _ U o U' => ∃ v L, o = .returned v ∧ Q6 Z a0 p1 k0 s0 s1 s2 h0 n0 v U'.heap L ∧ FrameEnd U o U' L ({ frames := 0, cells := 0, slots := 0, locals := 0 } : Room).cells ({ frames := 0, cells := 0, slots := 0, locals := 0 } : Room).slots) := by
  refine MetFree.of_bodySF (plainFor_of_name pn_0) hisR ?_
  intro p e s m args below meth c s₁ Bd hml0 hP hK
  obtain ⟨rfl, hZ, hh⟩ := hP
  have hx := Bd.exec
  have hby := Bd.bytes
  have hml : c.maxLocals = 2 := hml0
  have hown : s.vm.findClass "com/example/ratatoskr/ratatoskr/xml/TextPositionAdvancePinLaw" = some m.cls := findClass_of_methodNamed Bd.named
  have hnm := (name_of_methodNamed Bd.named Bd.method).1
  have X0 : Stand p l e ({ frames := 0, cells := 0, slots := 0, locals := 0 } : Room) s m #[(.ref a0), (.int p1)] below meth c s₁ [] 0 0 := Stand.of_body Bd
  have e0 : s₁.heap = h0 := by rw [← hh, Bd.state]; rfl
  have N0 := Fr.nil n0
  have kp0 : Keep h0 h0 [a0] := Keep.refl _ _
  obtain ⟨S0, hS0⟩ : ∃ z, z = s₁.setTop (entryFrame m #[(.ref a0), (.int p1)] 2) := ⟨_, rfl⟩
  have pre0 : Go p.tables e below S0 s₁ (mkF m 0 #[vR a0, vI p1] []) := fun t k => by rw [hS0]; exact castTop (ef_6 m a0 p1) k
  have pre1 : Go p.tables e below S0 s₁ (mkF m 3 #[vR a0, vI p1] [(.int (13 : Int32)), (.int p1)]) := fun t k => pre0 t (by
    refine XS.iloadN X0.here hx rfl (hb hby d6_0) rfl ?_
    show Steps p.tables e below (s₁.setTop (mkF m 1 #[vR a0, vI p1] [(.int p1)])) _
    refine XS.bipush X0.here hx rfl (hb hby d6_1) ?_
    show Steps p.tables e below (s₁.setTop (mkF m 3 #[vR a0, vI p1] [(.int (13 : Int32)), (.int p1)])) _
    exact k)
  by_cases c3_2 : p1 = (13 : Int32)
  · skip
    have pre3 : Go p.tables e below S0 s₁ (mkF m 10 #[vR a0, vI p1] [(.int (0 : Int32)), (.ref a0), (.int (0 : Int32)), (.ref a0)]) := fun t k => pre1 t (by
      refine XS.icmpNo X0.here hx rfl (hb hby d6_3) rfl (teq c3_2).2 ?_
      show Steps p.tables e below (s₁.setTop (mkF m 6 #[vR a0, vI p1] [])) _
      refine XS.aloadN X0.here hx rfl (hb hby d6_6) rfl rfl ?_
      show Steps p.tables e below (s₁.setTop (mkF m 7 #[vR a0, vI p1] [(.ref a0)])) _
      refine XS.iconst X0.here hx rfl (hb hby d6_7) ?_
      show Steps p.tables e below (s₁.setTop (mkF m 8 #[vR a0, vI p1] [(.int (0 : Int32)), (.ref a0)])) _
      refine XS.aloadN X0.here hx rfl (hb hby d6_8) rfl rfl ?_
      show Steps p.tables e below (s₁.setTop (mkF m 9 #[vR a0, vI p1] [(.ref a0), (.int (0 : Int32)), (.ref a0)])) _
      refine XS.iconst X0.here hx rfl (hb hby d6_9) ?_
      show Steps p.tables e below (s₁.setTop (mkF m 10 #[vR a0, vI p1] [(.int (0 : Int32)), (.ref a0), (.int (0 : Int32)), (.ref a0)])) _
      exact k)
    obtain ⟨cl4, Ar4, q4, S4, M4, H4, G4⟩ := id V0
    have in4 : ¬ ((0 : Int32) < 0 ∨ cl4.slots.size ≤ ((0 : Int32)).toNatClampNeg) := inb_of S4 ⟨by decide, by decide⟩
    have at4 : cl4.slots[((0 : Int32)).toNatClampNeg]? = some (.long s0) := H4.at in4 rfl
    have pre5 : Go p.tables e below S0 s₁ (mkF m 13 #[vR a0, vI p1] [(.long (s0 + (1 : Int64))), (.int (0 : Int32)), (.ref a0)]) := fun t k => pre3 t (by
      refine X0.laload hx (j := (0 : Int32)) (v := (.long s0)) (by rw [e0]; exact Ar4.1) (State.isArrayOf_alike hZ.alike Ar4.2.1) Ar4.2.2 in4 at4 (g := (mkF m 10 #[vR a0, vI p1] [(.int (0 : Int32)), (.ref a0), (.int (0 : Int32)), (.ref a0)])) rfl rfl (hb hby d6_10) _ ?_
      show Steps p.tables e below (s₁.setTop (mkF m 11 #[vR a0, vI p1] [(.long s0), (.int (0 : Int32)), (.ref a0)])) _
      refine XS.lconst X0.here hx rfl (hb hby d6_11) ?_
      show Steps p.tables e below (s₁.setTop (mkF m 12 #[vR a0, vI p1] [(.long (1 : Int64)), (.long s0), (.int (0 : Int32)), (.ref a0)])) _
      refine XS.ladd X0.here hx rfl (hb hby d6_12) rfl ?_
      show Steps p.tables e below (s₁.setTop (mkF m 13 #[vR a0, vI p1] [(.long (s0 + (1 : Int64))), (.int (0 : Int32)), (.ref a0)])) _
      exact k)
    obtain ⟨cl6, Ar6, q6, S6, M6, H6, G6⟩ := id V0
    have in6 : ¬ ((0 : Int32) < 0 ∨ cl6.slots.size ≤ ((0 : Int32)).toNatClampNeg) := inb_of S6 ⟨by decide, by decide⟩
    obtain ⟨T6, h6, X6, e6, W6, st6⟩ := stJ X0 hx hZ e0 Ar6 (j := (0 : Int32)) in6 (g := (mkF m 13 #[vR a0, vI p1] [(.long (s0 + (1 : Int64))), (.int (0 : Int32)), (.ref a0)])) rfl rfl (hb hby d6_13)
    have pre6 : Go p.tables e below S0 T6 (mkF m 14 #[vR a0, vI p1] []) := fun t k => pre5 t (st6 t k)
    have N6 := Fr.snoc X6 N0 g0
    have av6 : Arv Z h6 a0 k0 .long (3 : Int32) [(.long (s0 + (1 : Int64))), (.long s1), (.long s2)] (.long (0 : Int64)) := Arv.set Ar6 q6 S6 M6 H6 G6 rfl W6 0 rfl (Nat.le_of_ble_eq_true rfl)
    have zz8 : n0 ≤ h6.size := Nat.le_trans Z0 (Keep.of_wr W6).1
    have kp9 : Keep h0 h6 [a0] := kp0.wr W6 (Or.inl (List.mem_of_getElem? (i := 0) rfl))
    have pre10 : Go p.tables e below S0 T6 (mkF m 17 #[vR a0, vI p1] [(.long (1 : Int64)), (.int (1 : Int32)), (.ref a0)]) := fun t k => pre6 t (by
      refine XS.aloadN X6.here hx rfl (hb hby d6_14) rfl rfl ?_
      show Steps p.tables e below (T6.setTop (mkF m 15 #[vR a0, vI p1] [(.ref a0)])) _
      refine XS.iconst X6.here hx rfl (hb hby d6_15) ?_
      show Steps p.tables e below (T6.setTop (mkF m 16 #[vR a0, vI p1] [(.int (1 : Int32)), (.ref a0)])) _
      refine XS.lconst X6.here hx rfl (hb hby d6_16) ?_
      show Steps p.tables e below (T6.setTop (mkF m 17 #[vR a0, vI p1] [(.long (1 : Int64)), (.int (1 : Int32)), (.ref a0)])) _
      exact k)
    obtain ⟨cl11, Ar11, q11, S11, M11, H11, G11⟩ := id av6
    have in11 : ¬ ((1 : Int32) < 0 ∨ cl11.slots.size ≤ ((1 : Int32)).toNatClampNeg) := inb_of S11 ⟨by decide, by decide⟩
    obtain ⟨T11, h11, X11, e11, W11, st11⟩ := stJ X6 hx hZ e6 Ar11 (j := (1 : Int32)) in11 (g := (mkF m 17 #[vR a0, vI p1] [(.long (1 : Int64)), (.int (1 : Int32)), (.ref a0)])) rfl rfl (hb hby d6_17)
    have pre11 : Go p.tables e below S0 T11 (mkF m 18 #[vR a0, vI p1] []) := fun t k => pre10 t (st11 t k)
    have N11 := Fr.snoc X11 N6 g0
    have av11 : Arv Z h11 a0 k0 .long (3 : Int32) [(.long (s0 + (1 : Int64))), (.long (1 : Int64)), (.long s2)] (.long (0 : Int64)) := Arv.set Ar11 q11 S11 M11 H11 G11 rfl W11 1 rfl (Nat.le_of_ble_eq_true rfl)
    have zz13 : n0 ≤ h11.size := Nat.le_trans zz8 (Keep.of_wr W11).1
    have kp14 : Keep h0 h11 [a0] := kp9.wr W11 (Or.inl (List.mem_of_getElem? (i := 0) rfl))
    have pre15 : Go p.tables e below S0 T11 (mkF m 21 #[vR a0, vI p1] [(.long (1 : Int64)), (.int (2 : Int32)), (.ref a0)]) := fun t k => pre11 t (by
      refine XS.aloadN X11.here hx rfl (hb hby d6_18) rfl rfl ?_
      show Steps p.tables e below (T11.setTop (mkF m 19 #[vR a0, vI p1] [(.ref a0)])) _
      refine XS.iconst X11.here hx rfl (hb hby d6_19) ?_
      show Steps p.tables e below (T11.setTop (mkF m 20 #[vR a0, vI p1] [(.int (2 : Int32)), (.ref a0)])) _
      refine XS.lconst X11.here hx rfl (hb hby d6_20) ?_
      show Steps p.tables e below (T11.setTop (mkF m 21 #[vR a0, vI p1] [(.long (1 : Int64)), (.int (2 : Int32)), (.ref a0)])) _
      exact k)
    obtain ⟨cl16, Ar16, q16, S16, M16, H16, G16⟩ := id av11
    have in16 : ¬ ((2 : Int32) < 0 ∨ cl16.slots.size ≤ ((2 : Int32)).toNatClampNeg) := inb_of S16 ⟨by decide, by decide⟩
    obtain ⟨T16, h16, X16, e16, W16, st16⟩ := stJ X11 hx hZ e11 Ar16 (j := (2 : Int32)) in16 (g := (mkF m 21 #[vR a0, vI p1] [(.long (1 : Int64)), (.int (2 : Int32)), (.ref a0)])) rfl rfl (hb hby d6_21)
    have pre16 : Go p.tables e below S0 T16 (mkF m 22 #[vR a0, vI p1] []) := fun t k => pre15 t (st16 t k)
    have N16 := Fr.snoc X16 N11 g0
    have av16 : Arv Z h16 a0 k0 .long (3 : Int32) [(.long (s0 + (1 : Int64))), (.long (1 : Int64)), (.long (1 : Int64))] (.long (0 : Int64)) := Arv.set Ar16 q16 S16 M16 H16 G16 rfl W16 2 rfl (Nat.le_of_ble_eq_true rfl)
    have zz18 : n0 ≤ h16.size := Nat.le_trans zz13 (Keep.of_wr W16).1
    have kp19 : Keep h0 h16 [a0] := kp14.wr W16 (Or.inl (List.mem_of_getElem? (i := 0) rfl))
    have pre20 : Go p.tables e below S0 T16 (mkF m 91 #[vR a0, vI p1] []) := fun t k => pre16 t (by
      refine XS.goto X16.here hx rfl (pc0 := 22) (pc' := 91) rfl (hb hby d6_22) (by decide) (by decide) ?_
      show Steps p.tables e below (T16.setTop (mkF m 91 #[vR a0, vI p1] [])) _
      exact k)
    obtain ⟨fs, hr, hrun, hended, hW, hsame⟩ := X16.leave (v := none) (fun _ => rfl)
    exact ⟨_, _, pre20.fin hS0 (X16.returnOut hx Bd.returns (hb hby d6_91) hr), hrun, hended, _, _, rfl, (by
      show Q6 Z a0 p1 k0 s0 s1 s2 h0 n0 _ T16.heap _
      rw [e16]
      exact ⟨rfl, N16, _, _, _, ⟨by simp [own_s0, c3_2], by simp [own_s1, c3_2], by simp [own_s2, c3_2]⟩, kp19, av16⟩), ⟨_, rfl⟩, hW, hsame.mono (by decide) (by decide)⟩
  · skip
    have pre21 : Go p.tables e below S0 s₁ (mkF m 28 #[vR a0, vI p1] [(.int (10 : Int32)), (.int p1)]) := fun t k => pre1 t (by
      refine XS.icmpYes X0.here hx rfl (pc0 := 3) (pc' := 25) rfl (hb hby d6_3) rfl (feq c3_2).2 (by decide) (by decide) ?_
      show Steps p.tables e below (s₁.setTop (mkF m 25 #[vR a0, vI p1] [])) _
      refine XS.iloadN X0.here hx rfl (hb hby d6_25) rfl ?_
      show Steps p.tables e below (s₁.setTop (mkF m 26 #[vR a0, vI p1] [(.int p1)])) _
      refine XS.bipush X0.here hx rfl (hb hby d6_26) ?_
      show Steps p.tables e below (s₁.setTop (mkF m 28 #[vR a0, vI p1] [(.int (10 : Int32)), (.int p1)])) _
      exact k)
    by_cases c28_22 : p1 = (10 : Int32)
    · skip
      have pre23 : Go p.tables e below S0 s₁ (mkF m 33 #[vR a0, vI p1] [(.int (2 : Int32)), (.ref a0)]) := fun t k => pre21 t (by
        refine XS.icmpNo X0.here hx rfl (hb hby d6_28) rfl (teq c28_22).2 ?_
        show Steps p.tables e below (s₁.setTop (mkF m 31 #[vR a0, vI p1] [])) _
        refine XS.aloadN X0.here hx rfl (hb hby d6_31) rfl rfl ?_
        show Steps p.tables e below (s₁.setTop (mkF m 32 #[vR a0, vI p1] [(.ref a0)])) _
        refine XS.iconst X0.here hx rfl (hb hby d6_32) ?_
        show Steps p.tables e below (s₁.setTop (mkF m 33 #[vR a0, vI p1] [(.int (2 : Int32)), (.ref a0)])) _
        exact k)
      obtain ⟨cl24, Ar24, q24, S24, M24, H24, G24⟩ := id V0
      have in24 : ¬ ((2 : Int32) < 0 ∨ cl24.slots.size ≤ ((2 : Int32)).toNatClampNeg) := inb_of S24 ⟨by decide, by decide⟩
      have at24 : cl24.slots[((2 : Int32)).toNatClampNeg]? = some (.long s2) := H24.at in24 rfl
      have pre25 : Go p.tables e below S0 s₁ (mkF m 36 #[vR a0, vI p1] [(.int (lcmpW s2 (0 : Int64)))]) := fun t k => pre23 t (by
        refine X0.laload hx (j := (2 : Int32)) (v := (.long s2)) (by rw [e0]; exact Ar24.1) (State.isArrayOf_alike hZ.alike Ar24.2.1) Ar24.2.2 in24 at24 (g := (mkF m 33 #[vR a0, vI p1] [(.int (2 : Int32)), (.ref a0)])) rfl rfl (hb hby d6_33) _ ?_
        show Steps p.tables e below (s₁.setTop (mkF m 34 #[vR a0, vI p1] [(.long s2)])) _
        refine XS.lconst X0.here hx rfl (hb hby d6_34) ?_
        show Steps p.tables e below (s₁.setTop (mkF m 35 #[vR a0, vI p1] [(.long (0 : Int64)), (.long s2)])) _
        refine XS.lcmp X0.here hx rfl (hb hby d6_35) rfl ?_
        show Steps p.tables e below (s₁.setTop (mkF m 36 #[vR a0, vI p1] [(.int (lcmpW s2 (0 : Int64)))])) _
        exact k)
      by_cases c36_26 : s2 = (0 : Int64)
      · skip
        have pre27 : Go p.tables e below S0 s₁ (mkF m 43 #[vR a0, vI p1] [(.int (0 : Int32)), (.ref a0), (.int (0 : Int32)), (.ref a0)]) := fun t k => pre25 t (by
          refine XS.ifNo X0.here hx rfl (hb hby d6_36) rfl ((if0 _ _).trans (teq ((lw_eq _ _).mpr c36_26)).2) ?_
          show Steps p.tables e below (s₁.setTop (mkF m 39 #[vR a0, vI p1] [])) _
          refine XS.aloadN X0.here hx rfl (hb hby d6_39) rfl rfl ?_
          show Steps p.tables e below (s₁.setTop (mkF m 40 #[vR a0, vI p1] [(.ref a0)])) _
          refine XS.iconst X0.here hx rfl (hb hby d6_40) ?_
          show Steps p.tables e below (s₁.setTop (mkF m 41 #[vR a0, vI p1] [(.int (0 : Int32)), (.ref a0)])) _
          refine XS.aloadN X0.here hx rfl (hb hby d6_41) rfl rfl ?_
          show Steps p.tables e below (s₁.setTop (mkF m 42 #[vR a0, vI p1] [(.ref a0), (.int (0 : Int32)), (.ref a0)])) _
          refine XS.iconst X0.here hx rfl (hb hby d6_42) ?_
          show Steps p.tables e below (s₁.setTop (mkF m 43 #[vR a0, vI p1] [(.int (0 : Int32)), (.ref a0), (.int (0 : Int32)), (.ref a0)])) _
          exact k)
        obtain ⟨cl28, Ar28, q28, S28, M28, H28, G28⟩ := id V0
        have in28 : ¬ ((0 : Int32) < 0 ∨ cl28.slots.size ≤ ((0 : Int32)).toNatClampNeg) := inb_of S28 ⟨by decide, by decide⟩
        have at28 : cl28.slots[((0 : Int32)).toNatClampNeg]? = some (.long s0) := H28.at in28 rfl
        have pre29 : Go p.tables e below S0 s₁ (mkF m 46 #[vR a0, vI p1] [(.long (s0 + (1 : Int64))), (.int (0 : Int32)), (.ref a0)]) := fun t k => pre27 t (by
          refine X0.laload hx (j := (0 : Int32)) (v := (.long s0)) (by rw [e0]; exact Ar28.1) (State.isArrayOf_alike hZ.alike Ar28.2.1) Ar28.2.2 in28 at28 (g := (mkF m 43 #[vR a0, vI p1] [(.int (0 : Int32)), (.ref a0), (.int (0 : Int32)), (.ref a0)])) rfl rfl (hb hby d6_43) _ ?_
          show Steps p.tables e below (s₁.setTop (mkF m 44 #[vR a0, vI p1] [(.long s0), (.int (0 : Int32)), (.ref a0)])) _
          refine XS.lconst X0.here hx rfl (hb hby d6_44) ?_
          show Steps p.tables e below (s₁.setTop (mkF m 45 #[vR a0, vI p1] [(.long (1 : Int64)), (.long s0), (.int (0 : Int32)), (.ref a0)])) _
          refine XS.ladd X0.here hx rfl (hb hby d6_45) rfl ?_
          show Steps p.tables e below (s₁.setTop (mkF m 46 #[vR a0, vI p1] [(.long (s0 + (1 : Int64))), (.int (0 : Int32)), (.ref a0)])) _
          exact k)
        obtain ⟨cl30, Ar30, q30, S30, M30, H30, G30⟩ := id V0
        have in30 : ¬ ((0 : Int32) < 0 ∨ cl30.slots.size ≤ ((0 : Int32)).toNatClampNeg) := inb_of S30 ⟨by decide, by decide⟩
        obtain ⟨T30, h30, X30, e30, W30, st30⟩ := stJ X0 hx hZ e0 Ar30 (j := (0 : Int32)) in30 (g := (mkF m 46 #[vR a0, vI p1] [(.long (s0 + (1 : Int64))), (.int (0 : Int32)), (.ref a0)])) rfl rfl (hb hby d6_46)
        have pre30 : Go p.tables e below S0 T30 (mkF m 47 #[vR a0, vI p1] []) := fun t k => pre29 t (st30 t k)
        have N30 := Fr.snoc X30 N0 g0
        have av30 : Arv Z h30 a0 k0 .long (3 : Int32) [(.long (s0 + (1 : Int64))), (.long s1), (.long s2)] (.long (0 : Int64)) := Arv.set Ar30 q30 S30 M30 H30 G30 rfl W30 0 rfl (Nat.le_of_ble_eq_true rfl)
        have zz32 : n0 ≤ h30.size := Nat.le_trans Z0 (Keep.of_wr W30).1
        have kp33 : Keep h0 h30 [a0] := kp0.wr W30 (Or.inl (List.mem_of_getElem? (i := 0) rfl))
        have pre34 : Go p.tables e below S0 T30 (mkF m 50 #[vR a0, vI p1] [(.long (1 : Int64)), (.int (1 : Int32)), (.ref a0)]) := fun t k => pre30 t (by
          refine XS.aloadN X30.here hx rfl (hb hby d6_47) rfl rfl ?_
          show Steps p.tables e below (T30.setTop (mkF m 48 #[vR a0, vI p1] [(.ref a0)])) _
          refine XS.iconst X30.here hx rfl (hb hby d6_48) ?_
          show Steps p.tables e below (T30.setTop (mkF m 49 #[vR a0, vI p1] [(.int (1 : Int32)), (.ref a0)])) _
          refine XS.lconst X30.here hx rfl (hb hby d6_49) ?_
          show Steps p.tables e below (T30.setTop (mkF m 50 #[vR a0, vI p1] [(.long (1 : Int64)), (.int (1 : Int32)), (.ref a0)])) _
          exact k)
        obtain ⟨cl35, Ar35, q35, S35, M35, H35, G35⟩ := id av30
        have in35 : ¬ ((1 : Int32) < 0 ∨ cl35.slots.size ≤ ((1 : Int32)).toNatClampNeg) := inb_of S35 ⟨by decide, by decide⟩
        obtain ⟨T35, h35, X35, e35, W35, st35⟩ := stJ X30 hx hZ e30 Ar35 (j := (1 : Int32)) in35 (g := (mkF m 50 #[vR a0, vI p1] [(.long (1 : Int64)), (.int (1 : Int32)), (.ref a0)])) rfl rfl (hb hby d6_50)
        have pre35 : Go p.tables e below S0 T35 (mkF m 51 #[vR a0, vI p1] []) := fun t k => pre34 t (st35 t k)
        have N35 := Fr.snoc X35 N30 g0
        have av35 : Arv Z h35 a0 k0 .long (3 : Int32) [(.long (s0 + (1 : Int64))), (.long (1 : Int64)), (.long s2)] (.long (0 : Int64)) := Arv.set Ar35 q35 S35 M35 H35 G35 rfl W35 1 rfl (Nat.le_of_ble_eq_true rfl)
        have zz37 : n0 ≤ h35.size := Nat.le_trans zz32 (Keep.of_wr W35).1
        have kp38 : Keep h0 h35 [a0] := kp33.wr W35 (Or.inl (List.mem_of_getElem? (i := 0) rfl))
        have pre39 : Go p.tables e below S0 T35 (mkF m 54 #[vR a0, vI p1] [(.long (0 : Int64)), (.int (2 : Int32)), (.ref a0)]) := fun t k => pre35 t (by
          refine XS.aloadN X35.here hx rfl (hb hby d6_51) rfl rfl ?_
          show Steps p.tables e below (T35.setTop (mkF m 52 #[vR a0, vI p1] [(.ref a0)])) _
          refine XS.iconst X35.here hx rfl (hb hby d6_52) ?_
          show Steps p.tables e below (T35.setTop (mkF m 53 #[vR a0, vI p1] [(.int (2 : Int32)), (.ref a0)])) _
          refine XS.lconst X35.here hx rfl (hb hby d6_53) ?_
          show Steps p.tables e below (T35.setTop (mkF m 54 #[vR a0, vI p1] [(.long (0 : Int64)), (.int (2 : Int32)), (.ref a0)])) _
          exact k)
        obtain ⟨cl40, Ar40, q40, S40, M40, H40, G40⟩ := id av35
        have in40 : ¬ ((2 : Int32) < 0 ∨ cl40.slots.size ≤ ((2 : Int32)).toNatClampNeg) := inb_of S40 ⟨by decide, by decide⟩
        obtain ⟨T40, h40, X40, e40, W40, st40⟩ := stJ X35 hx hZ e35 Ar40 (j := (2 : Int32)) in40 (g := (mkF m 54 #[vR a0, vI p1] [(.long (0 : Int64)), (.int (2 : Int32)), (.ref a0)])) rfl rfl (hb hby d6_54)
        have pre40 : Go p.tables e below S0 T40 (mkF m 55 #[vR a0, vI p1] []) := fun t k => pre39 t (st40 t k)
        have N40 := Fr.snoc X40 N35 g0
        have av40 : Arv Z h40 a0 k0 .long (3 : Int32) [(.long (s0 + (1 : Int64))), (.long (1 : Int64)), (.long (0 : Int64))] (.long (0 : Int64)) := Arv.set Ar40 q40 S40 M40 H40 G40 rfl W40 2 rfl (Nat.le_of_ble_eq_true rfl)
        have zz42 : n0 ≤ h40.size := Nat.le_trans zz37 (Keep.of_wr W40).1
        have kp43 : Keep h0 h40 [a0] := kp38.wr W40 (Or.inl (List.mem_of_getElem? (i := 0) rfl))
        have pre44 : Go p.tables e below S0 T40 (mkF m 91 #[vR a0, vI p1] []) := fun t k => pre40 t (by
          refine XS.goto X40.here hx rfl (pc0 := 55) (pc' := 91) rfl (hb hby d6_55) (by decide) (by decide) ?_
          show Steps p.tables e below (T40.setTop (mkF m 91 #[vR a0, vI p1] [])) _
          exact k)
        obtain ⟨fs, hr, hrun, hended, hW, hsame⟩ := X40.leave (v := none) (fun _ => rfl)
        exact ⟨_, _, pre44.fin hS0 (X40.returnOut hx Bd.returns (hb hby d6_91) hr), hrun, hended, _, _, rfl, (by
          show Q6 Z a0 p1 k0 s0 s1 s2 h0 n0 _ T40.heap _
          rw [e40]
          exact ⟨rfl, N40, _, _, _, ⟨by simp [own_s0, c3_2, c28_22, c36_26], by simp [own_s1, c3_2, c28_22, c36_26], by simp [own_s2, c3_2, c28_22, c36_26]⟩, kp43, av40⟩), ⟨_, rfl⟩, hW, hsame.mono (by decide) (by decide)⟩
      · skip
        have pre45 : Go p.tables e below S0 s₁ (mkF m 54 #[vR a0, vI p1] [(.long (0 : Int64)), (.int (2 : Int32)), (.ref a0)]) := fun t k => pre25 t (by
          refine XS.ifYes X0.here hx rfl (pc0 := 36) (pc' := 51) rfl (hb hby d6_36) rfl ((if0 _ _).trans (feq (fun q => c36_26 ((lw_eq _ _).mp q))).2) (by decide) (by decide) ?_
          show Steps p.tables e below (s₁.setTop (mkF m 51 #[vR a0, vI p1] [])) _
          refine XS.aloadN X0.here hx rfl (hb hby d6_51) rfl rfl ?_
          show Steps p.tables e below (s₁.setTop (mkF m 52 #[vR a0, vI p1] [(.ref a0)])) _
          refine XS.iconst X0.here hx rfl (hb hby d6_52) ?_
          show Steps p.tables e below (s₁.setTop (mkF m 53 #[vR a0, vI p1] [(.int (2 : Int32)), (.ref a0)])) _
          refine XS.lconst X0.here hx rfl (hb hby d6_53) ?_
          show Steps p.tables e below (s₁.setTop (mkF m 54 #[vR a0, vI p1] [(.long (0 : Int64)), (.int (2 : Int32)), (.ref a0)])) _
          exact k)
        obtain ⟨cl46, Ar46, q46, S46, M46, H46, G46⟩ := id V0
        have in46 : ¬ ((2 : Int32) < 0 ∨ cl46.slots.size ≤ ((2 : Int32)).toNatClampNeg) := inb_of S46 ⟨by decide, by decide⟩
        obtain ⟨T46, h46, X46, e46, W46, st46⟩ := stJ X0 hx hZ e0 Ar46 (j := (2 : Int32)) in46 (g := (mkF m 54 #[vR a0, vI p1] [(.long (0 : Int64)), (.int (2 : Int32)), (.ref a0)])) rfl rfl (hb hby d6_54)
        have pre46 : Go p.tables e below S0 T46 (mkF m 55 #[vR a0, vI p1] []) := fun t k => pre45 t (st46 t k)
        have N46 := Fr.snoc X46 N0 g0
        have av46 : Arv Z h46 a0 k0 .long (3 : Int32) [(.long s0), (.long s1), (.long (0 : Int64))] (.long (0 : Int64)) := Arv.set Ar46 q46 S46 M46 H46 G46 rfl W46 2 rfl (Nat.le_of_ble_eq_true rfl)
        have zz48 : n0 ≤ h46.size := Nat.le_trans Z0 (Keep.of_wr W46).1
        have kp49 : Keep h0 h46 [a0] := kp0.wr W46 (Or.inl (List.mem_of_getElem? (i := 0) rfl))
        have pre50 : Go p.tables e below S0 T46 (mkF m 91 #[vR a0, vI p1] []) := fun t k => pre46 t (by
          refine XS.goto X46.here hx rfl (pc0 := 55) (pc' := 91) rfl (hb hby d6_55) (by decide) (by decide) ?_
          show Steps p.tables e below (T46.setTop (mkF m 91 #[vR a0, vI p1] [])) _
          exact k)
        obtain ⟨fs, hr, hrun, hended, hW, hsame⟩ := X46.leave (v := none) (fun _ => rfl)
        exact ⟨_, _, pre50.fin hS0 (X46.returnOut hx Bd.returns (hb hby d6_91) hr), hrun, hended, _, _, rfl, (by
          show Q6 Z a0 p1 k0 s0 s1 s2 h0 n0 _ T46.heap _
          rw [e46]
          exact ⟨rfl, N46, _, _, _, ⟨by simp [own_s0, c3_2, c28_22, c36_26], by simp [own_s1, c3_2, c28_22, c36_26], by simp [own_s2, c3_2, c28_22, c36_26]⟩, kp49, av46⟩), ⟨_, rfl⟩, hW, hsame.mono (by decide) (by decide)⟩
    · skip
      have pre51 : Go p.tables e below S0 s₁ (mkF m 62 #[vR a0, vI p1] [(.int (128 : Int32)), (.int p1)]) := fun t k => pre21 t (by
        refine XS.icmpYes X0.here hx rfl (pc0 := 28) (pc' := 58) rfl (hb hby d6_28) rfl (feq c28_22).2 (by decide) (by decide) ?_
        show Steps p.tables e below (s₁.setTop (mkF m 58 #[vR a0, vI p1] [])) _
        refine XS.iloadN X0.here hx rfl (hb hby d6_58) rfl ?_
        show Steps p.tables e below (s₁.setTop (mkF m 59 #[vR a0, vI p1] [(.int p1)])) _
        refine XS.sipush X0.here hx rfl (hb hby d6_59) ?_
        show Steps p.tables e below (s₁.setTop (mkF m 62 #[vR a0, vI p1] [(.int (128 : Int32)), (.int p1)])) _
        exact k)
      by_cases c62_52 : p1 < (128 : Int32)
      · skip
        have pre53 : Go p.tables e below S0 s₁ (mkF m 83 #[vR a0, vI p1] [(.int (1 : Int32)), (.ref a0), (.int (1 : Int32)), (.ref a0)]) := fun t k => pre51 t (by
          refine XS.icmpYes X0.here hx rfl (pc0 := 62) (pc' := 79) rfl (hb hby d6_62) rfl (tlt c62_52).1 (by decide) (by decide) ?_
          show Steps p.tables e below (s₁.setTop (mkF m 79 #[vR a0, vI p1] [])) _
          refine XS.aloadN X0.here hx rfl (hb hby d6_79) rfl rfl ?_
          show Steps p.tables e below (s₁.setTop (mkF m 80 #[vR a0, vI p1] [(.ref a0)])) _
          refine XS.iconst X0.here hx rfl (hb hby d6_80) ?_
          show Steps p.tables e below (s₁.setTop (mkF m 81 #[vR a0, vI p1] [(.int (1 : Int32)), (.ref a0)])) _
          refine XS.aloadN X0.here hx rfl (hb hby d6_81) rfl rfl ?_
          show Steps p.tables e below (s₁.setTop (mkF m 82 #[vR a0, vI p1] [(.ref a0), (.int (1 : Int32)), (.ref a0)])) _
          refine XS.iconst X0.here hx rfl (hb hby d6_82) ?_
          show Steps p.tables e below (s₁.setTop (mkF m 83 #[vR a0, vI p1] [(.int (1 : Int32)), (.ref a0), (.int (1 : Int32)), (.ref a0)])) _
          exact k)
        obtain ⟨cl54, Ar54, q54, S54, M54, H54, G54⟩ := id V0
        have in54 : ¬ ((1 : Int32) < 0 ∨ cl54.slots.size ≤ ((1 : Int32)).toNatClampNeg) := inb_of S54 ⟨by decide, by decide⟩
        have at54 : cl54.slots[((1 : Int32)).toNatClampNeg]? = some (.long s1) := H54.at in54 rfl
        have pre55 : Go p.tables e below S0 s₁ (mkF m 86 #[vR a0, vI p1] [(.long (s1 + (1 : Int64))), (.int (1 : Int32)), (.ref a0)]) := fun t k => pre53 t (by
          refine X0.laload hx (j := (1 : Int32)) (v := (.long s1)) (by rw [e0]; exact Ar54.1) (State.isArrayOf_alike hZ.alike Ar54.2.1) Ar54.2.2 in54 at54 (g := (mkF m 83 #[vR a0, vI p1] [(.int (1 : Int32)), (.ref a0), (.int (1 : Int32)), (.ref a0)])) rfl rfl (hb hby d6_83) _ ?_
          show Steps p.tables e below (s₁.setTop (mkF m 84 #[vR a0, vI p1] [(.long s1), (.int (1 : Int32)), (.ref a0)])) _
          refine XS.lconst X0.here hx rfl (hb hby d6_84) ?_
          show Steps p.tables e below (s₁.setTop (mkF m 85 #[vR a0, vI p1] [(.long (1 : Int64)), (.long s1), (.int (1 : Int32)), (.ref a0)])) _
          refine XS.ladd X0.here hx rfl (hb hby d6_85) rfl ?_
          show Steps p.tables e below (s₁.setTop (mkF m 86 #[vR a0, vI p1] [(.long (s1 + (1 : Int64))), (.int (1 : Int32)), (.ref a0)])) _
          exact k)
        obtain ⟨cl56, Ar56, q56, S56, M56, H56, G56⟩ := id V0
        have in56 : ¬ ((1 : Int32) < 0 ∨ cl56.slots.size ≤ ((1 : Int32)).toNatClampNeg) := inb_of S56 ⟨by decide, by decide⟩
        obtain ⟨T56, h56, X56, e56, W56, st56⟩ := stJ X0 hx hZ e0 Ar56 (j := (1 : Int32)) in56 (g := (mkF m 86 #[vR a0, vI p1] [(.long (s1 + (1 : Int64))), (.int (1 : Int32)), (.ref a0)])) rfl rfl (hb hby d6_86)
        have pre56 : Go p.tables e below S0 T56 (mkF m 87 #[vR a0, vI p1] []) := fun t k => pre55 t (st56 t k)
        have N56 := Fr.snoc X56 N0 g0
        have av56 : Arv Z h56 a0 k0 .long (3 : Int32) [(.long s0), (.long (s1 + (1 : Int64))), (.long s2)] (.long (0 : Int64)) := Arv.set Ar56 q56 S56 M56 H56 G56 rfl W56 1 rfl (Nat.le_of_ble_eq_true rfl)
        have zz58 : n0 ≤ h56.size := Nat.le_trans Z0 (Keep.of_wr W56).1
        have kp59 : Keep h0 h56 [a0] := kp0.wr W56 (Or.inl (List.mem_of_getElem? (i := 0) rfl))
        have pre60 : Go p.tables e below S0 T56 (mkF m 90 #[vR a0, vI p1] [(.long (0 : Int64)), (.int (2 : Int32)), (.ref a0)]) := fun t k => pre56 t (by
          refine XS.aloadN X56.here hx rfl (hb hby d6_87) rfl rfl ?_
          show Steps p.tables e below (T56.setTop (mkF m 88 #[vR a0, vI p1] [(.ref a0)])) _
          refine XS.iconst X56.here hx rfl (hb hby d6_88) ?_
          show Steps p.tables e below (T56.setTop (mkF m 89 #[vR a0, vI p1] [(.int (2 : Int32)), (.ref a0)])) _
          refine XS.lconst X56.here hx rfl (hb hby d6_89) ?_
          show Steps p.tables e below (T56.setTop (mkF m 90 #[vR a0, vI p1] [(.long (0 : Int64)), (.int (2 : Int32)), (.ref a0)])) _
          exact k)
        obtain ⟨cl61, Ar61, q61, S61, M61, H61, G61⟩ := id av56
        have in61 : ¬ ((2 : Int32) < 0 ∨ cl61.slots.size ≤ ((2 : Int32)).toNatClampNeg) := inb_of S61 ⟨by decide, by decide⟩
        obtain ⟨T61, h61, X61, e61, W61, st61⟩ := stJ X56 hx hZ e56 Ar61 (j := (2 : Int32)) in61 (g := (mkF m 90 #[vR a0, vI p1] [(.long (0 : Int64)), (.int (2 : Int32)), (.ref a0)])) rfl rfl (hb hby d6_90)
        have pre61 : Go p.tables e below S0 T61 (mkF m 91 #[vR a0, vI p1] []) := fun t k => pre60 t (st61 t k)
        have N61 := Fr.snoc X61 N56 g0
        have av61 : Arv Z h61 a0 k0 .long (3 : Int32) [(.long s0), (.long (s1 + (1 : Int64))), (.long (0 : Int64))] (.long (0 : Int64)) := Arv.set Ar61 q61 S61 M61 H61 G61 rfl W61 2 rfl (Nat.le_of_ble_eq_true rfl)
        have zz63 : n0 ≤ h61.size := Nat.le_trans zz58 (Keep.of_wr W61).1
        have kp64 : Keep h0 h61 [a0] := kp59.wr W61 (Or.inl (List.mem_of_getElem? (i := 0) rfl))
        obtain ⟨fs, hr, hrun, hended, hW, hsame⟩ := X61.leave (v := none) (fun _ => rfl)
        exact ⟨_, _, pre61.fin hS0 (X61.returnOut hx Bd.returns (hb hby d6_91) hr), hrun, hended, _, _, rfl, (by
          show Q6 Z a0 p1 k0 s0 s1 s2 h0 n0 _ T61.heap _
          rw [e61]
          exact ⟨rfl, N61, _, _, _, ⟨by simp [own_s0, c3_2, c28_22, c62_52], by simp [own_s1, c3_2, c28_22, c62_52], by simp [own_s2, c3_2, c28_22, c62_52]⟩, kp64, av61⟩), ⟨_, rfl⟩, hW, hsame.mono (by decide) (by decide)⟩
      · skip
        have pre65 : Go p.tables e below S0 s₁ (mkF m 69 #[vR a0, vI p1] [(.int (191 : Int32)), (.int p1)]) := fun t k => pre51 t (by
          refine XS.icmpNo X0.here hx rfl (hb hby d6_62) rfl (flt c62_52).1 ?_
          show Steps p.tables e below (s₁.setTop (mkF m 65 #[vR a0, vI p1] [])) _
          refine XS.iloadN X0.here hx rfl (hb hby d6_65) rfl ?_
          show Steps p.tables e below (s₁.setTop (mkF m 66 #[vR a0, vI p1] [(.int p1)])) _
          refine XS.sipush X0.here hx rfl (hb hby d6_66) ?_
          show Steps p.tables e below (s₁.setTop (mkF m 69 #[vR a0, vI p1] [(.int (191 : Int32)), (.int p1)])) _
          exact k)
        by_cases c69_66 : (191 : Int32) < p1
        · skip
          have pre67 : Go p.tables e below S0 s₁ (mkF m 83 #[vR a0, vI p1] [(.int (1 : Int32)), (.ref a0), (.int (1 : Int32)), (.ref a0)]) := fun t k => pre65 t (by
            refine XS.icmpYes X0.here hx rfl (pc0 := 69) (pc' := 79) rfl (hb hby d6_69) rfl (tlt c69_66).2.2.1 (by decide) (by decide) ?_
            show Steps p.tables e below (s₁.setTop (mkF m 79 #[vR a0, vI p1] [])) _
            refine XS.aloadN X0.here hx rfl (hb hby d6_79) rfl rfl ?_
            show Steps p.tables e below (s₁.setTop (mkF m 80 #[vR a0, vI p1] [(.ref a0)])) _
            refine XS.iconst X0.here hx rfl (hb hby d6_80) ?_
            show Steps p.tables e below (s₁.setTop (mkF m 81 #[vR a0, vI p1] [(.int (1 : Int32)), (.ref a0)])) _
            refine XS.aloadN X0.here hx rfl (hb hby d6_81) rfl rfl ?_
            show Steps p.tables e below (s₁.setTop (mkF m 82 #[vR a0, vI p1] [(.ref a0), (.int (1 : Int32)), (.ref a0)])) _
            refine XS.iconst X0.here hx rfl (hb hby d6_82) ?_
            show Steps p.tables e below (s₁.setTop (mkF m 83 #[vR a0, vI p1] [(.int (1 : Int32)), (.ref a0), (.int (1 : Int32)), (.ref a0)])) _
            exact k)
          obtain ⟨cl68, Ar68, q68, S68, M68, H68, G68⟩ := id V0
          have in68 : ¬ ((1 : Int32) < 0 ∨ cl68.slots.size ≤ ((1 : Int32)).toNatClampNeg) := inb_of S68 ⟨by decide, by decide⟩
          have at68 : cl68.slots[((1 : Int32)).toNatClampNeg]? = some (.long s1) := H68.at in68 rfl
          have pre69 : Go p.tables e below S0 s₁ (mkF m 86 #[vR a0, vI p1] [(.long (s1 + (1 : Int64))), (.int (1 : Int32)), (.ref a0)]) := fun t k => pre67 t (by
            refine X0.laload hx (j := (1 : Int32)) (v := (.long s1)) (by rw [e0]; exact Ar68.1) (State.isArrayOf_alike hZ.alike Ar68.2.1) Ar68.2.2 in68 at68 (g := (mkF m 83 #[vR a0, vI p1] [(.int (1 : Int32)), (.ref a0), (.int (1 : Int32)), (.ref a0)])) rfl rfl (hb hby d6_83) _ ?_
            show Steps p.tables e below (s₁.setTop (mkF m 84 #[vR a0, vI p1] [(.long s1), (.int (1 : Int32)), (.ref a0)])) _
            refine XS.lconst X0.here hx rfl (hb hby d6_84) ?_
            show Steps p.tables e below (s₁.setTop (mkF m 85 #[vR a0, vI p1] [(.long (1 : Int64)), (.long s1), (.int (1 : Int32)), (.ref a0)])) _
            refine XS.ladd X0.here hx rfl (hb hby d6_85) rfl ?_
            show Steps p.tables e below (s₁.setTop (mkF m 86 #[vR a0, vI p1] [(.long (s1 + (1 : Int64))), (.int (1 : Int32)), (.ref a0)])) _
            exact k)
          obtain ⟨cl70, Ar70, q70, S70, M70, H70, G70⟩ := id V0
          have in70 : ¬ ((1 : Int32) < 0 ∨ cl70.slots.size ≤ ((1 : Int32)).toNatClampNeg) := inb_of S70 ⟨by decide, by decide⟩
          obtain ⟨T70, h70, X70, e70, W70, st70⟩ := stJ X0 hx hZ e0 Ar70 (j := (1 : Int32)) in70 (g := (mkF m 86 #[vR a0, vI p1] [(.long (s1 + (1 : Int64))), (.int (1 : Int32)), (.ref a0)])) rfl rfl (hb hby d6_86)
          have pre70 : Go p.tables e below S0 T70 (mkF m 87 #[vR a0, vI p1] []) := fun t k => pre69 t (st70 t k)
          have N70 := Fr.snoc X70 N0 g0
          have av70 : Arv Z h70 a0 k0 .long (3 : Int32) [(.long s0), (.long (s1 + (1 : Int64))), (.long s2)] (.long (0 : Int64)) := Arv.set Ar70 q70 S70 M70 H70 G70 rfl W70 1 rfl (Nat.le_of_ble_eq_true rfl)
          have zz72 : n0 ≤ h70.size := Nat.le_trans Z0 (Keep.of_wr W70).1
          have kp73 : Keep h0 h70 [a0] := kp0.wr W70 (Or.inl (List.mem_of_getElem? (i := 0) rfl))
          have pre74 : Go p.tables e below S0 T70 (mkF m 90 #[vR a0, vI p1] [(.long (0 : Int64)), (.int (2 : Int32)), (.ref a0)]) := fun t k => pre70 t (by
            refine XS.aloadN X70.here hx rfl (hb hby d6_87) rfl rfl ?_
            show Steps p.tables e below (T70.setTop (mkF m 88 #[vR a0, vI p1] [(.ref a0)])) _
            refine XS.iconst X70.here hx rfl (hb hby d6_88) ?_
            show Steps p.tables e below (T70.setTop (mkF m 89 #[vR a0, vI p1] [(.int (2 : Int32)), (.ref a0)])) _
            refine XS.lconst X70.here hx rfl (hb hby d6_89) ?_
            show Steps p.tables e below (T70.setTop (mkF m 90 #[vR a0, vI p1] [(.long (0 : Int64)), (.int (2 : Int32)), (.ref a0)])) _
            exact k)
          obtain ⟨cl75, Ar75, q75, S75, M75, H75, G75⟩ := id av70
          have in75 : ¬ ((2 : Int32) < 0 ∨ cl75.slots.size ≤ ((2 : Int32)).toNatClampNeg) := inb_of S75 ⟨by decide, by decide⟩
          obtain ⟨T75, h75, X75, e75, W75, st75⟩ := stJ X70 hx hZ e70 Ar75 (j := (2 : Int32)) in75 (g := (mkF m 90 #[vR a0, vI p1] [(.long (0 : Int64)), (.int (2 : Int32)), (.ref a0)])) rfl rfl (hb hby d6_90)
          have pre75 : Go p.tables e below S0 T75 (mkF m 91 #[vR a0, vI p1] []) := fun t k => pre74 t (st75 t k)
          have N75 := Fr.snoc X75 N70 g0
          have av75 : Arv Z h75 a0 k0 .long (3 : Int32) [(.long s0), (.long (s1 + (1 : Int64))), (.long (0 : Int64))] (.long (0 : Int64)) := Arv.set Ar75 q75 S75 M75 H75 G75 rfl W75 2 rfl (Nat.le_of_ble_eq_true rfl)
          have zz77 : n0 ≤ h75.size := Nat.le_trans zz72 (Keep.of_wr W75).1
          have kp78 : Keep h0 h75 [a0] := kp73.wr W75 (Or.inl (List.mem_of_getElem? (i := 0) rfl))
          obtain ⟨fs, hr, hrun, hended, hW, hsame⟩ := X75.leave (v := none) (fun _ => rfl)
          exact ⟨_, _, pre75.fin hS0 (X75.returnOut hx Bd.returns (hb hby d6_91) hr), hrun, hended, _, _, rfl, (by
            show Q6 Z a0 p1 k0 s0 s1 s2 h0 n0 _ T75.heap _
            rw [e75]
            exact ⟨rfl, N75, _, _, _, ⟨by simp [own_s0, c3_2, c28_22, c62_52, c69_66], by simp [own_s1, c3_2, c28_22, c62_52, c69_66], by simp [own_s2, c3_2, c28_22, c62_52, c69_66]⟩, kp78, av75⟩), ⟨_, rfl⟩, hW, hsame.mono (by decide) (by decide)⟩
        · skip
          have pre79 : Go p.tables e below S0 s₁ (mkF m 75 #[vR a0, vI p1] [(.long (0 : Int64)), (.int (2 : Int32)), (.ref a0)]) := fun t k => pre65 t (by
            refine XS.icmpNo X0.here hx rfl (hb hby d6_69) rfl (flt c69_66).2.2.1 ?_
            show Steps p.tables e below (s₁.setTop (mkF m 72 #[vR a0, vI p1] [])) _
            refine XS.aloadN X0.here hx rfl (hb hby d6_72) rfl rfl ?_
            show Steps p.tables e below (s₁.setTop (mkF m 73 #[vR a0, vI p1] [(.ref a0)])) _
            refine XS.iconst X0.here hx rfl (hb hby d6_73) ?_
            show Steps p.tables e below (s₁.setTop (mkF m 74 #[vR a0, vI p1] [(.int (2 : Int32)), (.ref a0)])) _
            refine XS.lconst X0.here hx rfl (hb hby d6_74) ?_
            show Steps p.tables e below (s₁.setTop (mkF m 75 #[vR a0, vI p1] [(.long (0 : Int64)), (.int (2 : Int32)), (.ref a0)])) _
            exact k)
          obtain ⟨cl80, Ar80, q80, S80, M80, H80, G80⟩ := id V0
          have in80 : ¬ ((2 : Int32) < 0 ∨ cl80.slots.size ≤ ((2 : Int32)).toNatClampNeg) := inb_of S80 ⟨by decide, by decide⟩
          obtain ⟨T80, h80, X80, e80, W80, st80⟩ := stJ X0 hx hZ e0 Ar80 (j := (2 : Int32)) in80 (g := (mkF m 75 #[vR a0, vI p1] [(.long (0 : Int64)), (.int (2 : Int32)), (.ref a0)])) rfl rfl (hb hby d6_75)
          have pre80 : Go p.tables e below S0 T80 (mkF m 76 #[vR a0, vI p1] []) := fun t k => pre79 t (st80 t k)
          have N80 := Fr.snoc X80 N0 g0
          have av80 : Arv Z h80 a0 k0 .long (3 : Int32) [(.long s0), (.long s1), (.long (0 : Int64))] (.long (0 : Int64)) := Arv.set Ar80 q80 S80 M80 H80 G80 rfl W80 2 rfl (Nat.le_of_ble_eq_true rfl)
          have zz82 : n0 ≤ h80.size := Nat.le_trans Z0 (Keep.of_wr W80).1
          have kp83 : Keep h0 h80 [a0] := kp0.wr W80 (Or.inl (List.mem_of_getElem? (i := 0) rfl))
          have pre84 : Go p.tables e below S0 T80 (mkF m 91 #[vR a0, vI p1] []) := fun t k => pre80 t (by
            refine XS.goto X80.here hx rfl (pc0 := 76) (pc' := 91) rfl (hb hby d6_76) (by decide) (by decide) ?_
            show Steps p.tables e below (T80.setTop (mkF m 91 #[vR a0, vI p1] [])) _
            exact k)
          obtain ⟨fs, hr, hrun, hended, hW, hsame⟩ := X80.leave (v := none) (fun _ => rfl)
          exact ⟨_, _, pre84.fin hS0 (X80.returnOut hx Bd.returns (hb hby d6_91) hr), hrun, hended, _, _, rfl, (by
            show Q6 Z a0 p1 k0 s0 s1 s2 h0 n0 _ T80.heap _
            rw [e80]
            exact ⟨rfl, N80, _, _, _, ⟨by simp [own_s0, c3_2, c28_22, c62_52, c69_66], by simp [own_s1, c3_2, c28_22, c62_52, c69_66], by simp [own_s2, c3_2, c28_22, c62_52, c69_66]⟩, kp83, av80⟩), ⟨_, rfl⟩, hW, hsame.mono (by decide) (by decide)⟩
theorem own_byte : ∀ k : Fin 256, ((Int32.ofNat k.val).toInt8.toInt32 = (13 : Int32) ↔ Int32.ofNat k.val = (13 : Int32)) ∧ ((Int32.ofNat k.val).toInt8.toInt32 = (10 : Int32) ↔ Int32.ofNat k.val = (10 : Int32)) ∧ (((Int32.ofNat k.val).toInt8.toInt32 &&& (192 : Int32)) = (128 : Int32) ↔ (¬ Int32.ofNat k.val < (128 : Int32) ∧ ¬ (191 : Int32) < Int32.ofNat k.val)) ∧ (((Int32.ofNat k.val) &&& (192 : Int32)) = (128 : Int32) ↔ (¬ Int32.ofNat k.val < (128 : Int32) ∧ ¬ (191 : Int32) < Int32.ofNat k.val)) := by decide +kernel
theorem own_small {x u : Int32} {k : Int32} (h : u = own_pick x k) : ∃ n : Nat, n < 256 ∧ u = Int32.ofNat n := by
  have e : 0 ≤ u.toInt ∧ u.toInt < 256 := by
    rw [h]; unfold own_pick
    split
    · decide
    · split
      · decide
      · have := c_and x (255 : Int32) (by decide)
        have t : (255 : Int32).toInt = 255 := rfl
        omega
  refine ⟨u.toInt.toNat, by omega, Int32.toInt_inj.mp ?_⟩
  rw [Int32.toInt_ofNat_of_lt (by omega)]; omega
theorem own_same {u p sg : Int32} (h : ∃ n : Nat, n < 256 ∧ u = Int32.ofNat n) (hp : p = own_arg u sg) : (p = (13 : Int32) ↔ u = (13 : Int32)) ∧ (p = (10 : Int32) ↔ u = (10 : Int32)) ∧ ((p &&& (192 : Int32)) = (128 : Int32) ↔ (¬ u < (128 : Int32) ∧ ¬ (191 : Int32) < u)) := by
  obtain ⟨n, hn, rfl⟩ := h
  have b := own_byte ⟨n, hn⟩
  dsimp only at b
  rw [hp]; unfold own_arg
  split
  · exact ⟨Iff.rfl, Iff.rfl, b.2.2.2⟩
  · exact ⟨b.1, b.2.1, b.2.2.1⟩
def own_R (l c : Int64) (r : Int32) (s0 s1 s2 : Int64) : Prop := l = s0 ∧ c = s1 ∧ (r = (0 : Int32) ↔ s2 = (0 : Int64))
theorem own_step {u sg r r' : Int32} {l c s0 s1 s2 l' c' t0 t1 t2 : Int64} (h : ∃ n : Nat, n < 256 ∧ u = Int32.ofNat n) (hR : own_R l c r s0 s1 s2) (hA : l' = own_l l r (own_arg u sg) ∧ c' = own_c c r (own_arg u sg) ∧ r' = own_r (own_arg u sg)) (hB : t0 = own_s0 s0 s2 u ∧ t1 = own_s1 s1 s2 u ∧ t2 = own_s2 u) : own_R l' c' r' t0 t1 t2 := by
  obtain ⟨q1, q2, q3⟩ := own_same h (rfl : own_arg u sg = own_arg u sg)
  generalize own_arg u sg = p at *
  obtain ⟨rfl, rfl, hr⟩ := hR
  obtain ⟨rfl, rfl, rfl⟩ := hA
  obtain ⟨rfl, rfl, rfl⟩ := hB
  unfold own_R own_l own_c own_r own_s0 own_s1 own_s2
  by_cases h1 : u = (13 : Int32)
  · have h1' := q1.mpr h1
    rw [if_pos h1', if_pos h1', if_pos h1', if_pos h1, if_pos h1, if_pos h1]; exact ⟨rfl, rfl, by decide⟩
  · have h1' : ¬ p = (13 : Int32) := fun q => h1 (q1.mp q)
    rw [if_neg h1', if_neg h1', if_neg h1', if_neg h1, if_neg h1, if_neg h1]
    by_cases h2 : u = (10 : Int32)
    · have h2' := q2.mpr h2
      rw [if_pos h2', if_pos h2', if_pos h2, if_pos h2]
      by_cases h3 : r = (0 : Int32)
      · rw [if_pos h3, if_pos h3, if_pos (hr.mp h3), if_pos (hr.mp h3)]; exact ⟨rfl, rfl, by decide⟩
      · rw [if_neg h3, if_neg h3, if_neg (fun q => h3 (hr.mpr q)), if_neg (fun q => h3 (hr.mpr q))]; exact ⟨rfl, rfl, by decide⟩
    · have h2' : ¬ p = (10 : Int32) := fun q => h2 (q2.mp q)
      rw [if_neg h2', if_neg h2', if_neg h2, if_neg h2]
      refine ⟨rfl, ?_, by decide⟩
      by_cases h3 : u < (128 : Int32)
      · rw [if_pos h3, if_neg (fun q => (q3.mp q).1 h3)]
      · by_cases h4 : (191 : Int32) < u
        · rw [if_neg h3, if_pos h4, if_neg (fun q => (q3.mp q).2 h4)]
        · rw [if_neg h3, if_neg h4, if_pos (q3.mpr ⟨h3, h4⟩)]
theorem ef_0 (m : MethodId) (x0 : Int32) (x1 : Int32) (x2 : Int32) (x3 : Int32) : entryFrame m #[(.int x0), (.int x1), (.int x2), (.int x3)] maxLocals = mkF m 0 #[.val (.int x0), .val (.int x1), .val (.int x2), .val (.int x3), .unset, .unset, .unset, .unset, .unset, .unset, .unset] [] := by first | (simp [entryFrame, mkF, argsToLocals, Value.category, maxLocals]; done) | rfl
theorem pd_0 : parseMethodDescriptor "(II)I" = some ⟨[.int, .int], some .int⟩ := by decide +kernel
theorem pd_1 : parseMethodDescriptor "()V" = some ⟨[], none⟩ := by decide +kernel
theorem pd_2 : parseMethodDescriptor "(IZ)I" = some ⟨[.int, .boolean], some .int⟩ := by decide +kernel
theorem pd_3 : parseMethodDescriptor "(I)V" = some ⟨[.int], none⟩ := by decide +kernel
theorem pd_4 : parseMethodDescriptor "([JI)V" = some ⟨[(.array .long), .int], none⟩ := by decide +kernel
theorem pd_5 : parseMethodDescriptor "()J" = some ⟨[], some .long⟩ := by decide +kernel
def Q0 (Z : State) (p0 p1 p2 p3 : Int32) (h0 : Heap) (n0 : Nat) (v : Option Value) (h : Heap) (L : List Loc) : Prop := v = some (.int 1) ∧ Fr n0 L
set_option maxRecDepth 65536 in
set_option maxHeartbeats 40000000 in
theorem rm0 (l : Launch) (Z : State) (A0 : Array Value) (hw : ∀ d ∈ tables_1, d.before A0 Z = true) (ws : List Jvm.Cond) (p0 : Int32) (p1 : Int32) (p2 : Int32) (p3 : Int32)  (h0 : Heap) (n0 : Nat) (Z0 : n0 ≤ h0.size)  :
    MetFree l x (head1 (Jvm.Cond.code x code maxLocals ret :: ws) room_1) (fun a U => a = #[(.int p0), (.int p1), (.int p2), (.int p3)] ∧ Z.Warmed39 U.vm ∧ U.heap = h0) (fun _ _ _ _ _ => True) (fun _ U o U' => ∃ v L, o = .returned v ∧ Q0 Z p0 p1 p2 p3 h0 n0 v U'.heap L ∧ FrameEnd U o U' L 2 6) := by
  refine MetFree.of_bodySF (plainFor_of_name pn_0) hisR ?_
  intro p e s m args below meth c s₁ Bd hml0 hP hK
  obtain ⟨rfl, hZ, hh⟩ := hP
  have hx := Bd.exec
  have hby := Bd.bytes
  have hml : c.maxLocals = 11 := hml0
  have hown : s.vm.findClass "com/example/ratatoskr/ratatoskr/xml/TextPositionAdvancePinLaw" = some m.cls := findClass_of_methodNamed Bd.named
  have hnm := (name_of_methodNamed Bd.named Bd.method).1
  have X0 : Stand p l e room_1 s m #[(.int p0), (.int p1), (.int p2), (.int p3)] below meth c s₁ [] 0 0 := Stand.of_body Bd
  have e0 : s₁.heap = h0 := by rw [← hh, Bd.state]; rfl
  have N0 := Fr.nil n0
  obtain ⟨S0, hS0⟩ : ∃ z, z = s₁.setTop (entryFrame m #[(.int p0), (.int p1), (.int p2), (.int p3)] maxLocals) := ⟨_, rfl⟩
  have pre0 : Go p.tables e below S0 s₁ (mkF m 0 #[vI p0, vI p1, vI p2, vI p3, .unset, .unset, .unset, .unset, .unset, .unset, .unset] []) := fun t k => by rw [hS0]; exact castTop (ef_0 m p0 p1 p2 p3) k
  have pre1 : Go p.tables e below S0 s₁ (mkF m 4 #[vI p0, vI p1, vI p2, vI p3, .unset, .unset, .unset, .unset, .unset, .unset, .unset] [(.int (p3 &&& (64 : Int32)))]) := fun t k => pre0 t (by
    refine XS.iloadN X0.here hx rfl (hb hby at_0) rfl ?_
    show Steps p.tables e below (s₁.setTop (mkF m 1 #[vI p0, vI p1, vI p2, vI p3, .unset, .unset, .unset, .unset, .unset, .unset, .unset] [(.int p3)])) _
    refine XS.bipush X0.here hx rfl (hb hby at_1) ?_
    show Steps p.tables e below (s₁.setTop (mkF m 3 #[vI p0, vI p1, vI p2, vI p3, .unset, .unset, .unset, .unset, .unset, .unset, .unset] [(.int (64 : Int32)), (.int p3)])) _
    refine XS.iand X0.here hx rfl (hb hby at_3) rfl ?_
    show Steps p.tables e below (s₁.setTop (mkF m 4 #[vI p0, vI p1, vI p2, vI p3, .unset, .unset, .unset, .unset, .unset, .unset, .unset] [(.int (p3 &&& (64 : Int32)))])) _
    exact k)
  refine cps (A := ∃ (j12_s0_5 : Int32), (Go p.tables e below S0 s₁ (mkF m 12 #[vI p0, vI p1, vI p2, vI p3, .unset, .unset, .unset, .unset, .unset, .unset, .unset] [(.int j12_s0_5)]))) (fun tail7 => ?_) ?_
  · skip
    by_cases c4_2 : (p3 &&& (64 : Int32)) = (0 : Int32)
    · skip
      have pre3 : Go p.tables e below S0 s₁ (mkF m 12 #[vI p0, vI p1, vI p2, vI p3, .unset, .unset, .unset, .unset, .unset, .unset, .unset] [(.int (0 : Int32))]) := fun t k => pre1 t (by
        refine XS.ifYes X0.here hx rfl (pc0 := 4) (pc' := 11) rfl (hb hby at_4) rfl ((if0 _ _).trans (teq c4_2).1) (by decide) (by decide) ?_
        show Steps p.tables e below (s₁.setTop (mkF m 11 #[vI p0, vI p1, vI p2, vI p3, .unset, .unset, .unset, .unset, .unset, .unset, .unset] [])) _
        refine XS.iconst X0.here hx rfl (hb hby at_11) ?_
        show Steps p.tables e below (s₁.setTop (mkF m 12 #[vI p0, vI p1, vI p2, vI p3, .unset, .unset, .unset, .unset, .unset, .unset, .unset] [(.int (0 : Int32))])) _
        exact k)
      exact tail7 ⟨(0 : Int32), pre3⟩
    · skip
      have pre4 : Go p.tables e below S0 s₁ (mkF m 12 #[vI p0, vI p1, vI p2, vI p3, .unset, .unset, .unset, .unset, .unset, .unset, .unset] [(.int (1 : Int32))]) := fun t k => pre1 t (by
        refine XS.ifNo X0.here hx rfl (hb hby at_4) rfl ((if0 _ _).trans (feq c4_2).1) ?_
        show Steps p.tables e below (s₁.setTop (mkF m 7 #[vI p0, vI p1, vI p2, vI p3, .unset, .unset, .unset, .unset, .unset, .unset, .unset] [])) _
        refine XS.iconst X0.here hx rfl (hb hby at_7) ?_
        show Steps p.tables e below (s₁.setTop (mkF m 8 #[vI p0, vI p1, vI p2, vI p3, .unset, .unset, .unset, .unset, .unset, .unset, .unset] [(.int (1 : Int32))])) _
        refine XS.goto X0.here hx rfl (pc0 := 8) (pc' := 12) rfl (hb hby at_8) (by decide) (by decide) ?_
        show Steps p.tables e below (s₁.setTop (mkF m 12 #[vI p0, vI p1, vI p2, vI p3, .unset, .unset, .unset, .unset, .unset, .unset, .unset] [(.int (1 : Int32))])) _
        exact k)
      exact tail7 ⟨(1 : Int32), pre4⟩
  rintro ⟨j12_s0_5, pre6⟩
  have pre8 : Go p.tables e below S0 s₁ (mkF m 18 #[vI p0, vI p1, vI p2, vI p3, vI j12_s0_5, .unset, .unset, .unset, .unset, .unset, .unset] [(.int (p3 &&& (3 : Int32))), (.int p0)]) := fun t k => pre6 t (by
    refine XS.istore X0.here hx rfl (hb hby at_12) rfl (l' := #[vI p0, vI p1, vI p2, vI p3, vI j12_s0_5, .unset, .unset, .unset, .unset, .unset, .unset]) rfl ?_
    show Steps p.tables e below (s₁.setTop (mkF m 14 #[vI p0, vI p1, vI p2, vI p3, vI j12_s0_5, .unset, .unset, .unset, .unset, .unset, .unset] [])) _
    refine XS.iloadN X0.here hx rfl (hb hby at_14) rfl ?_
    show Steps p.tables e below (s₁.setTop (mkF m 15 #[vI p0, vI p1, vI p2, vI p3, vI j12_s0_5, .unset, .unset, .unset, .unset, .unset, .unset] [(.int p0)])) _
    refine XS.iloadN X0.here hx rfl (hb hby at_15) rfl ?_
    show Steps p.tables e below (s₁.setTop (mkF m 16 #[vI p0, vI p1, vI p2, vI p3, vI j12_s0_5, .unset, .unset, .unset, .unset, .unset, .unset] [(.int p3), (.int p0)])) _
    refine XS.iconst X0.here hx rfl (hb hby at_16) ?_
    show Steps p.tables e below (s₁.setTop (mkF m 17 #[vI p0, vI p1, vI p2, vI p3, vI j12_s0_5, .unset, .unset, .unset, .unset, .unset, .unset] [(.int (3 : Int32)), (.int p3), (.int p0)])) _
    refine XS.iand X0.here hx rfl (hb hby at_17) rfl ?_
    show Steps p.tables e below (s₁.setTop (mkF m 18 #[vI p0, vI p1, vI p2, vI p3, vI j12_s0_5, .unset, .unset, .unset, .unset, .unset, .unset] [(.int (p3 &&& (3 : Int32))), (.int p0)])) _
    exact k)
  obtain ⟨_, _, ⟨T9, L9, k9, n9⟩, -, X9, ⟨Lc9, hQ9, l9, y9, z9⟩, st9⟩ := Jvm.LawKit.callS X0 hx (y := (⟨"com/example/ratatoskr/ratatoskr/xml/TextPositionAdvancePinLaw", "pick", "(II)I"⟩ : MethodName)) hown (mvT hZ (hw _ (List.mem_of_getElem? (i := 0) rfl))) (mvT hZ (hw _ (List.mem_of_getElem? (i := 1) rfl))) (mvT hZ (hw _ (List.mem_of_getElem? (i := 2) rfl))) (mvT hZ (hw _ (List.mem_of_getElem? (i := 3) rfl))) (by decide) (backOf (W := 0) (rm1 l Z A0 hw [] p0 (p3 &&& (3 : Int32)) h0 n0 Z0) hZ (hw _ (List.mem_of_getElem? (i := 3) rfl)) (hw _ (List.mem_of_getElem? (i := 2) rfl)) (by decide) (by decide)) (g := (mkF m 18 #[vI p0, vI p1, vI p2, vI p3, vI j12_s0_5, .unset, .unset, .unset, .unset, .unset, .unset] [(.int (p3 &&& (3 : Int32))), (.int p0)])) rfl (by rw [hml]; rfl) (argsL := [(.int p0), (.int (p3 &&& (3 : Int32)))]) (rest := []) (lenOf pd_0 rfl) rfl (by show 2 * 0 + _ ≤ _; exact Nat.le_of_eq rfl) (hb hby at_18) (fun _ _ => ⟨rfl, e0, (by decide : 0 + 0 ≤ _), (by decide : 0 + 0 ≤ _)⟩)
  dsimp only [Pt.U, Pt.locs, Pt.cells, Pt.slots] at X9 l9 y9 z9 st9 hQ9
  subst l9 y9 z9
  obtain ⟨rfl, Nq9, eq9⟩ := hQ9
  have N9 := Fr.app N0 Nq9
  have pre9 : Go p.tables e below S0 T9 (mkF m 21 #[vI p0, vI p1, vI p2, vI p3, vI j12_s0_5, .unset, .unset, .unset, .unset, .unset, .unset] [(.int (own_pick p0 (p3 &&& (3 : Int32))))]) := fun t k => pre8 t (st9 t k)
  obtain ⟨v10, hv10, pre10⟩ : ∃ z : Int32, z = (own_pick p0 (p3 &&& (3 : Int32))) ∧ Go p.tables e below S0 T9 (mkF m 23 #[vI p0, vI p1, vI p2, vI p3, vI j12_s0_5, vI z, .unset, .unset, .unset, .unset, .unset] []) := ⟨_, rfl, fun t k => pre9 t (by
    refine XS.istore X9.here hx rfl (hb hby at_21) rfl (l' := #[vI p0, vI p1, vI p2, vI p3, vI j12_s0_5, vI (own_pick p0 (p3 &&& (3 : Int32))), .unset, .unset, .unset, .unset, .unset]) rfl ?_
    show Steps p.tables e below (T9.setTop (mkF m 23 #[vI p0, vI p1, vI p2, vI p3, vI j12_s0_5, vI (own_pick p0 (p3 &&& (3 : Int32))), .unset, .unset, .unset, .unset, .unset] [])) _
    exact k)⟩
  have u23 := own_small hv10
  have pre11 : Go p.tables e below S0 T9 (mkF m 29 #[vI p0, vI p1, vI p2, vI p3, vI j12_s0_5, vI v10, .unset, .unset, .unset, .unset, .unset] [(.int ((p3 >>> ((2 : Int32) &&& 31)) &&& (3 : Int32))), (.int p1)]) := fun t k => pre10 t (by
    refine XS.iloadN X9.here hx rfl (hb hby at_23) rfl ?_
    show Steps p.tables e below (T9.setTop (mkF m 24 #[vI p0, vI p1, vI p2, vI p3, vI j12_s0_5, vI v10, .unset, .unset, .unset, .unset, .unset] [(.int p1)])) _
    refine XS.iloadN X9.here hx rfl (hb hby at_24) rfl ?_
    show Steps p.tables e below (T9.setTop (mkF m 25 #[vI p0, vI p1, vI p2, vI p3, vI j12_s0_5, vI v10, .unset, .unset, .unset, .unset, .unset] [(.int p3), (.int p1)])) _
    refine XS.iconst X9.here hx rfl (hb hby at_25) ?_
    show Steps p.tables e below (T9.setTop (mkF m 26 #[vI p0, vI p1, vI p2, vI p3, vI j12_s0_5, vI v10, .unset, .unset, .unset, .unset, .unset] [(.int (2 : Int32)), (.int p3), (.int p1)])) _
    refine XS.ishr X9.here hx rfl (hb hby at_26) rfl ?_
    show Steps p.tables e below (T9.setTop (mkF m 27 #[vI p0, vI p1, vI p2, vI p3, vI j12_s0_5, vI v10, .unset, .unset, .unset, .unset, .unset] [(.int (p3 >>> ((2 : Int32) &&& 31))), (.int p1)])) _
    refine XS.iconst X9.here hx rfl (hb hby at_27) ?_
    show Steps p.tables e below (T9.setTop (mkF m 28 #[vI p0, vI p1, vI p2, vI p3, vI j12_s0_5, vI v10, .unset, .unset, .unset, .unset, .unset] [(.int (3 : Int32)), (.int (p3 >>> ((2 : Int32) &&& 31))), (.int p1)])) _
    refine XS.iand X9.here hx rfl (hb hby at_28) rfl ?_
    show Steps p.tables e below (T9.setTop (mkF m 29 #[vI p0, vI p1, vI p2, vI p3, vI j12_s0_5, vI v10, .unset, .unset, .unset, .unset, .unset] [(.int ((p3 >>> ((2 : Int32) &&& 31)) &&& (3 : Int32))), (.int p1)])) _
    exact k)
  obtain ⟨_, _, ⟨T12, L12, k12, n12⟩, -, X12, ⟨Lc12, hQ12, l12, y12, z12⟩, st12⟩ := Jvm.LawKit.callS X9 hx (y := (⟨"com/example/ratatoskr/ratatoskr/xml/TextPositionAdvancePinLaw", "pick", "(II)I"⟩ : MethodName)) hown (mvT hZ (hw _ (List.mem_of_getElem? (i := 0) rfl))) (mvT hZ (hw _ (List.mem_of_getElem? (i := 1) rfl))) (mvT hZ (hw _ (List.mem_of_getElem? (i := 2) rfl))) (mvT hZ (hw _ (List.mem_of_getElem? (i := 3) rfl))) (by decide) (backOf (W := 0) (rm1 l Z A0 hw [] p1 ((p3 >>> ((2 : Int32) &&& 31)) &&& (3 : Int32)) h0 n0 Z0) hZ (hw _ (List.mem_of_getElem? (i := 3) rfl)) (hw _ (List.mem_of_getElem? (i := 2) rfl)) (by decide) (by decide)) (g := (mkF m 29 #[vI p0, vI p1, vI p2, vI p3, vI j12_s0_5, vI v10, .unset, .unset, .unset, .unset, .unset] [(.int ((p3 >>> ((2 : Int32) &&& 31)) &&& (3 : Int32))), (.int p1)])) rfl (by rw [hml]; rfl) (argsL := [(.int p1), (.int ((p3 >>> ((2 : Int32) &&& 31)) &&& (3 : Int32)))]) (rest := []) (lenOf pd_0 rfl) rfl (by show 2 * 0 + _ ≤ _; exact Nat.le_of_eq rfl) (hb hby at_29) (fun _ _ => ⟨rfl, eq9, (by decide : 0 + 0 ≤ _), (by decide : 0 + 0 ≤ _)⟩)
  dsimp only [Pt.U, Pt.locs, Pt.cells, Pt.slots] at X12 l12 y12 z12 st12 hQ12
  subst l12 y12 z12
  obtain ⟨rfl, Nq12, eq12⟩ := hQ12
  have N12 := Fr.app N9 Nq12
  have pre12 : Go p.tables e below S0 T12 (mkF m 32 #[vI p0, vI p1, vI p2, vI p3, vI j12_s0_5, vI v10, .unset, .unset, .unset, .unset, .unset] [(.int (own_pick p1 ((p3 >>> ((2 : Int32) &&& 31)) &&& (3 : Int32))))]) := fun t k => pre11 t (st12 t k)
  obtain ⟨v13, hv13, pre13⟩ : ∃ z : Int32, z = (own_pick p1 ((p3 >>> ((2 : Int32) &&& 31)) &&& (3 : Int32))) ∧ Go p.tables e below S0 T12 (mkF m 34 #[vI p0, vI p1, vI p2, vI p3, vI j12_s0_5, vI v10, vI z, .unset, .unset, .unset, .unset] []) := ⟨_, rfl, fun t k => pre12 t (by
    refine XS.istore X12.here hx rfl (hb hby at_32) rfl (l' := #[vI p0, vI p1, vI p2, vI p3, vI j12_s0_5, vI v10, vI (own_pick p1 ((p3 >>> ((2 : Int32) &&& 31)) &&& (3 : Int32))), .unset, .unset, .unset, .unset]) rfl ?_
    show Steps p.tables e below (T12.setTop (mkF m 34 #[vI p0, vI p1, vI p2, vI p3, vI j12_s0_5, vI v10, vI (own_pick p1 ((p3 >>> ((2 : Int32) &&& 31)) &&& (3 : Int32))), .unset, .unset, .unset, .unset] [])) _
    exact k)⟩
  have u34 := own_small hv13
  have pre14 : Go p.tables e below S0 T12 (mkF m 40 #[vI p0, vI p1, vI p2, vI p3, vI j12_s0_5, vI v10, vI v13, .unset, .unset, .unset, .unset] [(.int ((p3 >>> ((4 : Int32) &&& 31)) &&& (3 : Int32))), (.int p2)]) := fun t k => pre13 t (by
    refine XS.iloadN X12.here hx rfl (hb hby at_34) rfl ?_
    show Steps p.tables e below (T12.setTop (mkF m 35 #[vI p0, vI p1, vI p2, vI p3, vI j12_s0_5, vI v10, vI v13, .unset, .unset, .unset, .unset] [(.int p2)])) _
    refine XS.iloadN X12.here hx rfl (hb hby at_35) rfl ?_
    show Steps p.tables e below (T12.setTop (mkF m 36 #[vI p0, vI p1, vI p2, vI p3, vI j12_s0_5, vI v10, vI v13, .unset, .unset, .unset, .unset] [(.int p3), (.int p2)])) _
    refine XS.iconst X12.here hx rfl (hb hby at_36) ?_
    show Steps p.tables e below (T12.setTop (mkF m 37 #[vI p0, vI p1, vI p2, vI p3, vI j12_s0_5, vI v10, vI v13, .unset, .unset, .unset, .unset] [(.int (4 : Int32)), (.int p3), (.int p2)])) _
    refine XS.ishr X12.here hx rfl (hb hby at_37) rfl ?_
    show Steps p.tables e below (T12.setTop (mkF m 38 #[vI p0, vI p1, vI p2, vI p3, vI j12_s0_5, vI v10, vI v13, .unset, .unset, .unset, .unset] [(.int (p3 >>> ((4 : Int32) &&& 31))), (.int p2)])) _
    refine XS.iconst X12.here hx rfl (hb hby at_38) ?_
    show Steps p.tables e below (T12.setTop (mkF m 39 #[vI p0, vI p1, vI p2, vI p3, vI j12_s0_5, vI v10, vI v13, .unset, .unset, .unset, .unset] [(.int (3 : Int32)), (.int (p3 >>> ((4 : Int32) &&& 31))), (.int p2)])) _
    refine XS.iand X12.here hx rfl (hb hby at_39) rfl ?_
    show Steps p.tables e below (T12.setTop (mkF m 40 #[vI p0, vI p1, vI p2, vI p3, vI j12_s0_5, vI v10, vI v13, .unset, .unset, .unset, .unset] [(.int ((p3 >>> ((4 : Int32) &&& 31)) &&& (3 : Int32))), (.int p2)])) _
    exact k)
  obtain ⟨_, _, ⟨T15, L15, k15, n15⟩, -, X15, ⟨Lc15, hQ15, l15, y15, z15⟩, st15⟩ := Jvm.LawKit.callS X12 hx (y := (⟨"com/example/ratatoskr/ratatoskr/xml/TextPositionAdvancePinLaw", "pick", "(II)I"⟩ : MethodName)) hown (mvT hZ (hw _ (List.mem_of_getElem? (i := 0) rfl))) (mvT hZ (hw _ (List.mem_of_getElem? (i := 1) rfl))) (mvT hZ (hw _ (List.mem_of_getElem? (i := 2) rfl))) (mvT hZ (hw _ (List.mem_of_getElem? (i := 3) rfl))) (by decide) (backOf (W := 0) (rm1 l Z A0 hw [] p2 ((p3 >>> ((4 : Int32) &&& 31)) &&& (3 : Int32)) h0 n0 Z0) hZ (hw _ (List.mem_of_getElem? (i := 3) rfl)) (hw _ (List.mem_of_getElem? (i := 2) rfl)) (by decide) (by decide)) (g := (mkF m 40 #[vI p0, vI p1, vI p2, vI p3, vI j12_s0_5, vI v10, vI v13, .unset, .unset, .unset, .unset] [(.int ((p3 >>> ((4 : Int32) &&& 31)) &&& (3 : Int32))), (.int p2)])) rfl (by rw [hml]; rfl) (argsL := [(.int p2), (.int ((p3 >>> ((4 : Int32) &&& 31)) &&& (3 : Int32)))]) (rest := []) (lenOf pd_0 rfl) rfl (by show 2 * 0 + _ ≤ _; exact Nat.le_of_eq rfl) (hb hby at_40) (fun _ _ => ⟨rfl, eq12, (by decide : 0 + 0 ≤ _), (by decide : 0 + 0 ≤ _)⟩)
  dsimp only [Pt.U, Pt.locs, Pt.cells, Pt.slots] at X15 l15 y15 z15 st15 hQ15
  subst l15 y15 z15
  obtain ⟨rfl, Nq15, eq15⟩ := hQ15
  have N15 := Fr.app N12 Nq15
  have pre15 : Go p.tables e below S0 T15 (mkF m 43 #[vI p0, vI p1, vI p2, vI p3, vI j12_s0_5, vI v10, vI v13, .unset, .unset, .unset, .unset] [(.int (own_pick p2 ((p3 >>> ((4 : Int32) &&& 31)) &&& (3 : Int32))))]) := fun t k => pre14 t (st15 t k)
  obtain ⟨v16, hv16, pre16⟩ : ∃ z : Int32, z = (own_pick p2 ((p3 >>> ((4 : Int32) &&& 31)) &&& (3 : Int32))) ∧ Go p.tables e below S0 T15 (mkF m 45 #[vI p0, vI p1, vI p2, vI p3, vI j12_s0_5, vI v10, vI v13, vI z, .unset, .unset, .unset] []) := ⟨_, rfl, fun t k => pre15 t (by
    refine XS.istore X15.here hx rfl (hb hby at_43) rfl (l' := #[vI p0, vI p1, vI p2, vI p3, vI j12_s0_5, vI v10, vI v13, vI (own_pick p2 ((p3 >>> ((4 : Int32) &&& 31)) &&& (3 : Int32))), .unset, .unset, .unset]) rfl ?_
    show Steps p.tables e below (T15.setTop (mkF m 45 #[vI p0, vI p1, vI p2, vI p3, vI j12_s0_5, vI v10, vI v13, vI (own_pick p2 ((p3 >>> ((4 : Int32) &&& 31)) &&& (3 : Int32))), .unset, .unset, .unset] [])) _
    exact k)⟩
  have u45 := own_small hv16
  obtain ⟨T17, h17, X17, e17, E17, A17, D17, -, st17⟩ := newO X15 hx hZ hown (hw _ (List.mem_of_getElem? (i := 4) rfl)) (hw _ (List.mem_of_getElem? (i := 5) rfl)) (hw _ (List.mem_of_getElem? (i := 6) rfl)) eq15 (g := (mkF m 45 #[vI p0, vI p1, vI p2, vI p3, vI j12_s0_5, vI v10, vI v13, vI v16, .unset, .unset, .unset] [])) rfl (hb hby at_45) (by decide) (by decide)
  obtain ⟨b17, g17⟩ : ∃ z, z = h0.size := ⟨_, rfl⟩
  rw [← g17] at A17 D17 st17
  have pre17 : Go p.tables e below S0 T17 (mkF m 48 #[vI p0, vI p1, vI p2, vI p3, vI j12_s0_5, vI v10, vI v13, vI v16, .unset, .unset, .unset] [(.ref b17)]) := fun t k => pre16 t (st17 t k)
  have bo17 : n0 ≤ b17 := Nat.le_trans Z0 (Nat.le_of_eq g17.symm)
  have zz19 : n0 ≤ h17.size := Nat.le_trans Z0 E17.1
  have fn17_line : Fld Z h17 b17 "com/example/ratatoskr/ratatoskr/xml/TextPosition" "line" "J" (.long (0 : Int64)) := D17 (Or.inl (hw _ (List.mem_of_getElem? (i := 14) rfl))) (ty := .long) (by decide)
  have fn17_column : Fld Z h17 b17 "com/example/ratatoskr/ratatoskr/xml/TextPosition" "column" "J" (.long (0 : Int64)) := D17 (Or.inl (hw _ (List.mem_of_getElem? (i := 16) rfl))) (ty := .long) (by decide)
  have fn17_afterReturn : Fld Z h17 b17 "com/example/ratatoskr/ratatoskr/xml/TextPosition" "afterReturn" "Z" (.int (0 : Int32)) := D17 (Or.inl (hw _ (List.mem_of_getElem? (i := 27) rfl))) (ty := .boolean) (by decide)
  have pre20 : Go p.tables e below S0 T17 (mkF m 49 #[vI p0, vI p1, vI p2, vI p3, vI j12_s0_5, vI v10, vI v13, vI v16, .unset, .unset, .unset] [(.ref b17), (.ref b17)]) := fun t k => pre17 t (by
    refine XS.dup X17.here hx rfl (hb hby at_48) rfl rfl ?_
    show Steps p.tables e below (T17.setTop (mkF m 49 #[vI p0, vI p1, vI p2, vI p3, vI j12_s0_5, vI v10, vI v13, vI v16, .unset, .unset, .unset] [(.ref b17), (.ref b17)])) _
    exact k)
  obtain ⟨_, _, ⟨T21, L21, k21, n21⟩, -, X21, ⟨Lc21, hQ21, l21, y21, z21⟩, st21⟩ := X17.specialBack hx (y := (⟨"com/example/ratatoskr/ratatoskr/xml/TextPosition", "<init>", "()V"⟩ : MethodName)) rfl hown (mvT hZ (hw _ (List.mem_of_getElem? (i := 7) rfl))) (mvT hZ (hw _ (List.mem_of_getElem? (i := 8) rfl))) (mvT hZ (hw _ (List.mem_of_getElem? (i := 9) rfl))) (by decide) (backOf (W := 1) (rm2 l Z A0 hw [] b17 h17 n0 zz19 A17 fn17_line fn17_column fn17_afterReturn bo17) hZ (hw _ (List.mem_of_getElem? (i := 9) rfl)) (hw _ (List.mem_of_getElem? (i := 6) rfl)) (by decide) (by decide)) (g := (mkF m 49 #[vI p0, vI p1, vI p2, vI p3, vI j12_s0_5, vI v10, vI v13, vI v16, .unset, .unset, .unset] [(.ref b17), (.ref b17)])) rfl (by rw [hml]; rfl) (Steps.refl _) (a := b17) (argsL := []) (rest := [(.ref b17)]) (lenOf pd_1 rfl) rfl (by show 2 * 0 + _ ≤ _; exact Nat.le_of_eq rfl) (hb hby at_49) (fun _ _ => ⟨rfl, e17, (by decide : 1 + 0 ≤ _), (by decide : 3 + 0 ≤ _)⟩)
  dsimp only [Pt.U, Pt.locs, Pt.cells, Pt.slots] at X21 l21 y21 z21 st21 hQ21
  subst l21 y21 z21
  obtain ⟨rfl, Nq21, Kq21, nf21_0, nf21_1, nf21_2, nf21_3⟩ := hQ21
  have N21 := Fr.app N15 Nq21
  have pre21 : Go p.tables e below S0 T21 (mkF m 52 #[vI p0, vI p1, vI p2, vI p3, vI j12_s0_5, vI v10, vI v13, vI v16, .unset, .unset, .unset] [(.ref b17)]) := fun t k => pre20 t (st21.trans k)
  have zz23 : n0 ≤ T21.heap.size := Nat.le_trans zz19 Kq21.1
  have pre24 : Go p.tables e below S0 T21 (mkF m 55 #[vI p0, vI p1, vI p2, vI p3, vI j12_s0_5, vI v10, vI v13, vI v16, vR b17, .unset, .unset] [(.int (3 : Int32))]) := fun t k => pre21 t (by
    refine XS.astore X21.here hx rfl (hb hby at_52) rfl rfl (l' := #[vI p0, vI p1, vI p2, vI p3, vI j12_s0_5, vI v10, vI v13, vI v16, vR b17, .unset, .unset]) rfl ?_
    show Steps p.tables e below (T21.setTop (mkF m 54 #[vI p0, vI p1, vI p2, vI p3, vI j12_s0_5, vI v10, vI v13, vI v16, vR b17, .unset, .unset] [])) _
    refine XS.iconst X21.here hx rfl (hb hby at_54) ?_
    show Steps p.tables e below (T21.setTop (mkF m 55 #[vI p0, vI p1, vI p2, vI p3, vI j12_s0_5, vI v10, vI v13, vI v16, vR b17, .unset, .unset] [(.int (3 : Int32))])) _
    exact k)
  obtain ⟨T25, h25, k25, X25, e25, E25, A25, st25⟩ := newP X21 hx hZ (hw _ (List.mem_of_getElem? (i := 17) rfl)) rfl (g := (mkF m 55 #[vI p0, vI p1, vI p2, vI p3, vI j12_s0_5, vI v10, vI v13, vI v16, vR b17, .unset, .unset] [(.int (3 : Int32))])) rfl (hb hby at_55) rfl (by decide) (cap := 3) (by decide) (by decide) (by decide) (by decide)
  obtain ⟨b25, g25⟩ : ∃ z, z = T21.heap.size := ⟨_, rfl⟩
  rw [← g25] at A25 st25
  have pre25 : Go p.tables e below S0 T25 (mkF m 57 #[vI p0, vI p1, vI p2, vI p3, vI j12_s0_5, vI v10, vI v13, vI v16, vR b17, .unset, .unset] [(.ref b25)]) := fun t k => pre24 t (st25 t k)
  have ne26 : b17 ≠ b25 := Nat.ne_of_lt (Nat.lt_of_lt_of_le nf21_0.lt (Nat.le_of_eq g25.symm))
  have bo25 : n0 ≤ b25 := Nat.le_trans zz23 (Nat.le_of_eq g25.symm)
  have f27_1 := Exa.ext E25 nf21_0
  have f27_2 := Fld.ext E25 nf21_1
  have f27_3 := Fld.ext E25 nf21_2
  have f27_4 := Fld.ext E25 nf21_3
  have zz28 : n0 ≤ h25.size := Nat.le_trans zz23 E25.1
  have av25 : Arv Z h25 b25 k25 .long (3 : Int32) [(.long (0 : Int64)), (.long (0 : Int64)), (.long (0 : Int64))] (.long (0 : Int64)) := (Arv.new A25 (by decide)).pad (pad_rep [] (.long (0 : Int64)) 3)
  have pre29 : Go p.tables e below S0 T25 (mkF m 60 #[vI p0, vI p1, vI p2, vI p3, vI j12_s0_5, vI v10, vI v13, vI v16, vR b17, .unset, .unset] [(.long (1 : Int64)), (.int (0 : Int32)), (.ref b25), (.ref b25)]) := fun t k => pre25 t (by
    refine XS.dup X25.here hx rfl (hb hby at_57) rfl rfl ?_
    show Steps p.tables e below (T25.setTop (mkF m 58 #[vI p0, vI p1, vI p2, vI p3, vI j12_s0_5, vI v10, vI v13, vI v16, vR b17, .unset, .unset] [(.ref b25), (.ref b25)])) _
    refine XS.iconst X25.here hx rfl (hb hby at_58) ?_
    show Steps p.tables e below (T25.setTop (mkF m 59 #[vI p0, vI p1, vI p2, vI p3, vI j12_s0_5, vI v10, vI v13, vI v16, vR b17, .unset, .unset] [(.int (0 : Int32)), (.ref b25), (.ref b25)])) _
    refine XS.lconst X25.here hx rfl (hb hby at_59) ?_
    show Steps p.tables e below (T25.setTop (mkF m 60 #[vI p0, vI p1, vI p2, vI p3, vI j12_s0_5, vI v10, vI v13, vI v16, vR b17, .unset, .unset] [(.long (1 : Int64)), (.int (0 : Int32)), (.ref b25), (.ref b25)])) _
    exact k)
  obtain ⟨cl30, Ar30, q30, S30, M30, H30, G30⟩ := id av25
  have in30 : ¬ ((0 : Int32) < 0 ∨ cl30.slots.size ≤ ((0 : Int32)).toNatClampNeg) := inb_of S30 ⟨by decide, by decide⟩
  obtain ⟨T30, h30, X30, e30, W30, st30⟩ := stJ X25 hx hZ e25 Ar30 (j := (0 : Int32)) in30 (g := (mkF m 60 #[vI p0, vI p1, vI p2, vI p3, vI j12_s0_5, vI v10, vI v13, vI v16, vR b17, .unset, .unset] [(.long (1 : Int64)), (.int (0 : Int32)), (.ref b25), (.ref b25)])) rfl rfl (hb hby at_60)
  have pre30 : Go p.tables e below S0 T30 (mkF m 61 #[vI p0, vI p1, vI p2, vI p3, vI j12_s0_5, vI v10, vI v13, vI v16, vR b17, .unset, .unset] [(.ref b25)]) := fun t k => pre29 t (st30 t k)
  have N30 := Fr.snoc X30 N21 bo25
  have av30 : Arv Z h30 b25 k25 .long (3 : Int32) [(.long (1 : Int64)), (.long (0 : Int64)), (.long (0 : Int64))] (.long (0 : Int64)) := Arv.set Ar30 q30 S30 M30 H30 G30 rfl W30 0 rfl (Nat.le_of_ble_eq_true rfl)
  have f31_1 := Exa.wr W30 f27_1
  have f31_2 := Fld.other W30 f27_2 (Or.inl ne26)
  have f31_3 := Fld.other W30 f27_3 (Or.inl ne26)
  have f31_4 := Fld.other W30 f27_4 (Or.inl ne26)
  have zz32 : n0 ≤ h30.size := Nat.le_trans zz28 (Keep.of_wr W30).1
  have pre33 : Go p.tables e below S0 T30 (mkF m 64 #[vI p0, vI p1, vI p2, vI p3, vI j12_s0_5, vI v10, vI v13, vI v16, vR b17, .unset, .unset] [(.long (1 : Int64)), (.int (1 : Int32)), (.ref b25), (.ref b25)]) := fun t k => pre30 t (by
    refine XS.dup X30.here hx rfl (hb hby at_61) rfl rfl ?_
    show Steps p.tables e below (T30.setTop (mkF m 62 #[vI p0, vI p1, vI p2, vI p3, vI j12_s0_5, vI v10, vI v13, vI v16, vR b17, .unset, .unset] [(.ref b25), (.ref b25)])) _
    refine XS.iconst X30.here hx rfl (hb hby at_62) ?_
    show Steps p.tables e below (T30.setTop (mkF m 63 #[vI p0, vI p1, vI p2, vI p3, vI j12_s0_5, vI v10, vI v13, vI v16, vR b17, .unset, .unset] [(.int (1 : Int32)), (.ref b25), (.ref b25)])) _
    refine XS.lconst X30.here hx rfl (hb hby at_63) ?_
    show Steps p.tables e below (T30.setTop (mkF m 64 #[vI p0, vI p1, vI p2, vI p3, vI j12_s0_5, vI v10, vI v13, vI v16, vR b17, .unset, .unset] [(.long (1 : Int64)), (.int (1 : Int32)), (.ref b25), (.ref b25)])) _
    exact k)
  obtain ⟨cl34, Ar34, q34, S34, M34, H34, G34⟩ := id av30
  have in34 : ¬ ((1 : Int32) < 0 ∨ cl34.slots.size ≤ ((1 : Int32)).toNatClampNeg) := inb_of S34 ⟨by decide, by decide⟩
  obtain ⟨T34, h34, X34, e34, W34, st34⟩ := stJ X30 hx hZ e30 Ar34 (j := (1 : Int32)) in34 (g := (mkF m 64 #[vI p0, vI p1, vI p2, vI p3, vI j12_s0_5, vI v10, vI v13, vI v16, vR b17, .unset, .unset] [(.long (1 : Int64)), (.int (1 : Int32)), (.ref b25), (.ref b25)])) rfl rfl (hb hby at_64)
  have pre34 : Go p.tables e below S0 T34 (mkF m 65 #[vI p0, vI p1, vI p2, vI p3, vI j12_s0_5, vI v10, vI v13, vI v16, vR b17, .unset, .unset] [(.ref b25)]) := fun t k => pre33 t (st34 t k)
  have N34 := Fr.snoc X34 N30 bo25
  have av34 : Arv Z h34 b25 k25 .long (3 : Int32) [(.long (1 : Int64)), (.long (1 : Int64)), (.long (0 : Int64))] (.long (0 : Int64)) := Arv.set Ar34 q34 S34 M34 H34 G34 rfl W34 1 rfl (Nat.le_of_ble_eq_true rfl)
  have f35_1 := Exa.wr W34 f31_1
  have f35_2 := Fld.other W34 f31_2 (Or.inl ne26)
  have f35_3 := Fld.other W34 f31_3 (Or.inl ne26)
  have f35_4 := Fld.other W34 f31_4 (Or.inl ne26)
  have zz36 : n0 ≤ h34.size := Nat.le_trans zz32 (Keep.of_wr W34).1
  have pre37 : Go p.tables e below S0 T34 (mkF m 68 #[vI p0, vI p1, vI p2, vI p3, vI j12_s0_5, vI v10, vI v13, vI v16, vR b17, .unset, .unset] [(.long (0 : Int64)), (.int (2 : Int32)), (.ref b25), (.ref b25)]) := fun t k => pre34 t (by
    refine XS.dup X34.here hx rfl (hb hby at_65) rfl rfl ?_
    show Steps p.tables e below (T34.setTop (mkF m 66 #[vI p0, vI p1, vI p2, vI p3, vI j12_s0_5, vI v10, vI v13, vI v16, vR b17, .unset, .unset] [(.ref b25), (.ref b25)])) _
    refine XS.iconst X34.here hx rfl (hb hby at_66) ?_
    show Steps p.tables e below (T34.setTop (mkF m 67 #[vI p0, vI p1, vI p2, vI p3, vI j12_s0_5, vI v10, vI v13, vI v16, vR b17, .unset, .unset] [(.int (2 : Int32)), (.ref b25), (.ref b25)])) _
    refine XS.lconst X34.here hx rfl (hb hby at_67) ?_
    show Steps p.tables e below (T34.setTop (mkF m 68 #[vI p0, vI p1, vI p2, vI p3, vI j12_s0_5, vI v10, vI v13, vI v16, vR b17, .unset, .unset] [(.long (0 : Int64)), (.int (2 : Int32)), (.ref b25), (.ref b25)])) _
    exact k)
  obtain ⟨cl38, Ar38, q38, S38, M38, H38, G38⟩ := id av34
  have in38 : ¬ ((2 : Int32) < 0 ∨ cl38.slots.size ≤ ((2 : Int32)).toNatClampNeg) := inb_of S38 ⟨by decide, by decide⟩
  obtain ⟨T38, h38, X38, e38, W38, st38⟩ := stJ X34 hx hZ e34 Ar38 (j := (2 : Int32)) in38 (g := (mkF m 68 #[vI p0, vI p1, vI p2, vI p3, vI j12_s0_5, vI v10, vI v13, vI v16, vR b17, .unset, .unset] [(.long (0 : Int64)), (.int (2 : Int32)), (.ref b25), (.ref b25)])) rfl rfl (hb hby at_68)
  have pre38 : Go p.tables e below S0 T38 (mkF m 69 #[vI p0, vI p1, vI p2, vI p3, vI j12_s0_5, vI v10, vI v13, vI v16, vR b17, .unset, .unset] [(.ref b25)]) := fun t k => pre37 t (st38 t k)
  have N38 := Fr.snoc X38 N34 bo25
  have av38 : Arv Z h38 b25 k25 .long (3 : Int32) [(.long (1 : Int64)), (.long (1 : Int64)), (.long (0 : Int64))] (.long (0 : Int64)) := Arv.set Ar38 q38 S38 M38 H38 G38 rfl W38 2 rfl (Nat.le_of_ble_eq_true rfl)
  have f39_1 := Exa.wr W38 f35_1
  have f39_2 := Fld.other W38 f35_2 (Or.inl ne26)
  have f39_3 := Fld.other W38 f35_3 (Or.inl ne26)
  have f39_4 := Fld.other W38 f35_4 (Or.inl ne26)
  have zz40 : n0 ≤ h38.size := Nat.le_trans zz36 (Keep.of_wr W38).1
  have pre41 : Go p.tables e below S0 T38 (mkF m 80 #[vI p0, vI p1, vI p2, vI p3, vI j12_s0_5, vI v10, vI v13, vI v16, vR b17, vR b25, vI (1 : Int32)] [(.int j12_s0_5), (.int v10), (.ref b17)]) := fun t k => pre38 t (by
    refine XS.astore X38.here hx rfl (hb hby at_69) rfl rfl (l' := #[vI p0, vI p1, vI p2, vI p3, vI j12_s0_5, vI v10, vI v13, vI v16, vR b17, vR b25, .unset]) rfl ?_
    show Steps p.tables e below (T38.setTop (mkF m 71 #[vI p0, vI p1, vI p2, vI p3, vI j12_s0_5, vI v10, vI v13, vI v16, vR b17, vR b25, .unset] [])) _
    refine XS.iconst X38.here hx rfl (hb hby at_71) ?_
    show Steps p.tables e below (T38.setTop (mkF m 72 #[vI p0, vI p1, vI p2, vI p3, vI j12_s0_5, vI v10, vI v13, vI v16, vR b17, vR b25, .unset] [(.int (1 : Int32))])) _
    refine XS.istore X38.here hx rfl (hb hby at_72) rfl (l' := #[vI p0, vI p1, vI p2, vI p3, vI j12_s0_5, vI v10, vI v13, vI v16, vR b17, vR b25, vI (1 : Int32)]) rfl ?_
    show Steps p.tables e below (T38.setTop (mkF m 74 #[vI p0, vI p1, vI p2, vI p3, vI j12_s0_5, vI v10, vI v13, vI v16, vR b17, vR b25, vI (1 : Int32)] [])) _
    refine XS.aload X38.here hx rfl (hb hby at_74) rfl rfl ?_
    show Steps p.tables e below (T38.setTop (mkF m 76 #[vI p0, vI p1, vI p2, vI p3, vI j12_s0_5, vI v10, vI v13, vI v16, vR b17, vR b25, vI (1 : Int32)] [(.ref b17)])) _
    refine XS.iload X38.here hx rfl (hb hby at_76) rfl ?_
    show Steps p.tables e below (T38.setTop (mkF m 78 #[vI p0, vI p1, vI p2, vI p3, vI j12_s0_5, vI v10, vI v13, vI v16, vR b17, vR b25, vI (1 : Int32)] [(.int v10), (.ref b17)])) _
    refine XS.iload X38.here hx rfl (hb hby at_78) rfl ?_
    show Steps p.tables e below (T38.setTop (mkF m 80 #[vI p0, vI p1, vI p2, vI p3, vI j12_s0_5, vI v10, vI v13, vI v16, vR b17, vR b25, vI (1 : Int32)] [(.int j12_s0_5), (.int v10), (.ref b17)])) _
    exact k)
  obtain ⟨_, _, ⟨T42, L42, k42, n42⟩, -, X42, ⟨Lc42, hQ42, l42, y42, z42⟩, st42⟩ := Jvm.LawKit.callS X38 hx (y := (⟨"com/example/ratatoskr/ratatoskr/xml/TextPositionAdvancePinLaw", "arg", "(IZ)I"⟩ : MethodName)) hown (mvT hZ (hw _ (List.mem_of_getElem? (i := 18) rfl))) (mvT hZ (hw _ (List.mem_of_getElem? (i := 19) rfl))) (mvT hZ (hw _ (List.mem_of_getElem? (i := 2) rfl))) (mvT hZ (hw _ (List.mem_of_getElem? (i := 20) rfl))) (by decide) (backOf (W := 1) (rm4 l Z A0 hw [] v10 j12_s0_5 h38 n0 zz40) hZ (hw _ (List.mem_of_getElem? (i := 20) rfl)) (hw _ (List.mem_of_getElem? (i := 2) rfl)) (by decide) (by decide)) (g := (mkF m 80 #[vI p0, vI p1, vI p2, vI p3, vI j12_s0_5, vI v10, vI v13, vI v16, vR b17, vR b25, vI (1 : Int32)] [(.int j12_s0_5), (.int v10), (.ref b17)])) rfl (by rw [hml]; rfl) (argsL := [(.int v10), (.int j12_s0_5)]) (rest := [(.ref b17)]) (lenOf pd_2 rfl) rfl (by show 2 * 0 + _ ≤ _; exact Nat.le_of_eq rfl) (hb hby at_80) (fun _ _ => ⟨rfl, e38, (by decide : 2 + 0 ≤ _), (by decide : 6 + 0 ≤ _)⟩)
  dsimp only [Pt.U, Pt.locs, Pt.cells, Pt.slots] at X42 l42 y42 z42 st42 hQ42
  subst l42 y42 z42
  obtain ⟨rfl, Nq42, eq42⟩ := hQ42
  have N42 := Fr.app N38 Nq42
  have pre42 : Go p.tables e below S0 T42 (mkF m 83 #[vI p0, vI p1, vI p2, vI p3, vI j12_s0_5, vI v10, vI v13, vI v16, vR b17, vR b25, vI (1 : Int32)] [(.int (own_arg v10 j12_s0_5)), (.ref b17)]) := fun t k => pre41 t (st42 t k)
  obtain ⟨cq43, kq43, qa43, qb43, qc43⟩ := isOf hZ eq42 f39_1
  obtain ⟨_, _, ⟨T43, L43, k43, n43⟩, -, X43, ⟨Lc43, hQ43, l43, y43, z43⟩, st43⟩ := X42.virtualBack hx (y := (⟨"com/example/ratatoskr/ratatoskr/xml/TextPosition", "advance", "(I)V"⟩ : MethodName)) (z := (⟨"com/example/ratatoskr/ratatoskr/xml/TextPosition", "advance", "(I)V"⟩ : MethodName)) hown (mvT hZ (hw _ (List.mem_of_getElem? (i := 21) rfl))) (mvT hZ (hw _ (List.mem_of_getElem? (i := 22) rfl))) (notFace_of_selects (args := #[]) (mvT hZ (hw _ (List.mem_of_getElem? (i := 24) rfl)))) (mvT hZ (hw _ (List.mem_of_getElem? (i := 24) rfl))) (mvT hZ (hw _ (List.mem_of_getElem? (i := 23) rfl))) (by decide) (backOf (W := 0) (rm5 l Z A0 hw [] b17 (own_arg v10 j12_s0_5) (1 : Int64) (1 : Int64) (0 : Int32) h38 n0 zz40 f39_1 f39_2 f39_3 f39_4 bo17) hZ (hw _ (List.mem_of_getElem? (i := 25) rfl)) (hw _ (List.mem_of_getElem? (i := 6) rfl)) (by decide) (by decide)) qa43 qc43 (g := (mkF m 83 #[vI p0, vI p1, vI p2, vI p3, vI j12_s0_5, vI v10, vI v13, vI v16, vR b17, vR b25, vI (1 : Int32)] [(.int (own_arg v10 j12_s0_5)), (.ref b17)])) rfl (by rw [hml]; rfl) (Steps.refl _) (argsL := [(.int (own_arg v10 j12_s0_5))]) (rest := []) (lenOf pd_3 rfl) rfl (by show 2 * 0 + _ ≤ _; exact Nat.le_of_eq rfl) (hb hby at_83) (fun _ _ => ⟨rfl, eq42, (by decide : 2 + 0 ≤ _), (by decide : 6 + 0 ≤ _)⟩)
  dsimp only [Pt.U, Pt.locs, Pt.cells, Pt.slots] at X43 l43 y43 z43 st43 hQ43
  subst l43 y43 z43
  obtain ⟨rfl, Nq43, l43', c43', r43', hA43, Kq43, nf43_0, nf43_1, nf43_2, nf43_3⟩ := hQ43
  have N43 := Fr.app N42 Nq43
  have pre43 : Go p.tables e below S0 T43 (mkF m 86 #[vI p0, vI p1, vI p2, vI p3, vI j12_s0_5, vI v10, vI v13, vI v16, vR b17, vR b25, vI (1 : Int32)] []) := fun t k => pre42 t (st43.trans k)
  have f44_1 := av38.keep Kq43 (ninS (Ne.symm ne26) nin0)
  have zz45 : n0 ≤ T43.heap.size := Nat.le_trans zz40 Kq43.1
  have pre46 : Go p.tables e below S0 T43 (mkF m 90 #[vI p0, vI p1, vI p2, vI p3, vI j12_s0_5, vI v10, vI v13, vI v16, vR b17, vR b25, vI (1 : Int32)] [(.int v10), (.ref b25)]) := fun t k => pre43 t (by
    refine XS.aload X43.here hx rfl (hb hby at_86) rfl rfl ?_
    show Steps p.tables e below (T43.setTop (mkF m 88 #[vI p0, vI p1, vI p2, vI p3, vI j12_s0_5, vI v10, vI v13, vI v16, vR b17, vR b25, vI (1 : Int32)] [(.ref b25)])) _
    refine XS.iload X43.here hx rfl (hb hby at_88) rfl ?_
    show Steps p.tables e below (T43.setTop (mkF m 90 #[vI p0, vI p1, vI p2, vI p3, vI j12_s0_5, vI v10, vI v13, vI v16, vR b17, vR b25, vI (1 : Int32)] [(.int v10), (.ref b25)])) _
    exact k)
  obtain ⟨_, _, ⟨T47, L47, k47, n47⟩, -, X47, ⟨Lc47, hQ47, l47, y47, z47⟩, st47⟩ := Jvm.LawKit.callS X43 hx (y := (⟨"com/example/ratatoskr/ratatoskr/xml/TextPositionAdvancePinLaw", "ref", "([JI)V"⟩ : MethodName)) hown (mvT hZ (hw _ (List.mem_of_getElem? (i := 28) rfl))) (mvT hZ (hw _ (List.mem_of_getElem? (i := 29) rfl))) (mvT hZ (hw _ (List.mem_of_getElem? (i := 2) rfl))) (mvT hZ (hw _ (List.mem_of_getElem? (i := 30) rfl))) (by decide) (backOf (W := 0) (rm6 l Z A0 hw [] b25 v10 k25 (1 : Int64) (1 : Int64) (0 : Int64) T43.heap n0 zz45 f44_1 bo25) hZ (hw _ (List.mem_of_getElem? (i := 30) rfl)) (hw _ (List.mem_of_getElem? (i := 2) rfl)) (by decide) (by decide)) (g := (mkF m 90 #[vI p0, vI p1, vI p2, vI p3, vI j12_s0_5, vI v10, vI v13, vI v16, vR b17, vR b25, vI (1 : Int32)] [(.int v10), (.ref b25)])) rfl (by rw [hml]; rfl) (argsL := [(.ref b25), (.int v10)]) (rest := []) (lenOf pd_4 rfl) rfl (by show 2 * 0 + _ ≤ _; exact Nat.le_of_eq rfl) (hb hby at_90) (fun _ _ => ⟨rfl, rfl, (by decide : 2 + 0 ≤ _), (by decide : 6 + 0 ≤ _)⟩)
  dsimp only [Pt.U, Pt.locs, Pt.cells, Pt.slots] at X47 l47 y47 z47 st47 hQ47
  subst l47 y47 z47
  obtain ⟨rfl, Nq47, t47_0, t47_1, t47_2, hR47, Kq47, nf47_0⟩ := hQ47
  have N47 := Fr.app N43 Nq47
  have pre47 : Go p.tables e below S0 T47 (mkF m 93 #[vI p0, vI p1, vI p2, vI p3, vI j12_s0_5, vI v10, vI v13, vI v16, vR b17, vR b25, vI (1 : Int32)] []) := fun t k => pre46 t (st47 t k)
  have f48_1 := Exa.keep nf43_0 Kq47
  have f48_2 := Fld.keep nf43_1 Kq47 (ninS ne26 nin0)
  have f48_3 := Fld.keep nf43_2 Kq47 (ninS ne26 nin0)
  have f48_4 := Fld.keep nf43_3 Kq47 (ninS ne26 nin0)
  have zz49 : n0 ≤ T47.heap.size := Nat.le_trans zz45 Kq47.1
  have R1 : own_R l43' c43' r43' t47_0 t47_1 t47_2 := own_step u23 (show own_R (1 : Int64) (1 : Int64) (0 : Int32) (1 : Int64) (1 : Int64) (0 : Int64) from ⟨rfl, rfl, by decide⟩) hA43 hR47
  have pre50 : Go p.tables e below S0 T47 (mkF m 100 #[vI p0, vI p1, vI p2, vI p3, vI j12_s0_5, vI v10, vI v13, vI v16, vR b17, vR b25, vI (1 : Int32)] [(.ref b17)]) := fun t k => pre47 t (by
    refine XS.iload X47.here hx rfl (hb hby at_93) rfl ?_
    show Steps p.tables e below (T47.setTop (mkF m 95 #[vI p0, vI p1, vI p2, vI p3, vI j12_s0_5, vI v10, vI v13, vI v16, vR b17, vR b25, vI (1 : Int32)] [(.int (1 : Int32))])) _
    refine XS.ifNo X47.here hx rfl (hb hby at_95) rfl ((if0 _ _).trans (feq (by decide : ¬ ((1 : Int32) = (0 : Int32)))).1) ?_
    show Steps p.tables e below (T47.setTop (mkF m 98 #[vI p0, vI p1, vI p2, vI p3, vI j12_s0_5, vI v10, vI v13, vI v16, vR b17, vR b25, vI (1 : Int32)] [])) _
    refine XS.aload X47.here hx rfl (hb hby at_98) rfl rfl ?_
    show Steps p.tables e below (T47.setTop (mkF m 100 #[vI p0, vI p1, vI p2, vI p3, vI j12_s0_5, vI v10, vI v13, vI v16, vR b17, vR b25, vI (1 : Int32)] [(.ref b17)])) _
    exact k)
  obtain ⟨cq51, kq51, qa51, qb51, qc51⟩ := isOf hZ rfl f48_1
  obtain ⟨_, _, ⟨T51, L51, k51, n51⟩, -, X51, ⟨Lc51, hQ51, l51, y51, z51⟩, st51⟩ := X47.virtualBack hx (y := (⟨"com/example/ratatoskr/ratatoskr/xml/TextPosition", "line", "()J"⟩ : MethodName)) (z := (⟨"com/example/ratatoskr/ratatoskr/xml/TextPosition", "line", "()J"⟩ : MethodName)) hown (mvT hZ (hw _ (List.mem_of_getElem? (i := 31) rfl))) (mvT hZ (hw _ (List.mem_of_getElem? (i := 32) rfl))) (notFace_of_selects (args := #[]) (mvT hZ (hw _ (List.mem_of_getElem? (i := 34) rfl)))) (mvT hZ (hw _ (List.mem_of_getElem? (i := 34) rfl))) (mvT hZ (hw _ (List.mem_of_getElem? (i := 33) rfl))) (by decide) (backOf (W := 0) (rm7 l Z A0 hw [] b17 l43' T47.heap n0 zz49 f48_2) hZ (hw _ (List.mem_of_getElem? (i := 35) rfl)) (hw _ (List.mem_of_getElem? (i := 6) rfl)) (by decide) (by decide)) qa51 qc51 (g := (mkF m 100 #[vI p0, vI p1, vI p2, vI p3, vI j12_s0_5, vI v10, vI v13, vI v16, vR b17, vR b25, vI (1 : Int32)] [(.ref b17)])) rfl (by rw [hml]; rfl) (Steps.refl _) (argsL := []) (rest := []) (lenOf pd_5 rfl) rfl (by show 2 * 0 + _ ≤ _; exact Nat.le_of_eq rfl) (hb hby at_100) (fun _ _ => ⟨rfl, rfl, (by decide : 2 + 0 ≤ _), (by decide : 6 + 0 ≤ _)⟩)
  dsimp only [Pt.U, Pt.locs, Pt.cells, Pt.slots] at X51 l51 y51 z51 st51 hQ51
  subst l51 y51 z51
  obtain ⟨rfl, Nq51, eq51⟩ := hQ51
  have N51 := Fr.app N47 Nq51
  have pre51 : Go p.tables e below S0 T51 (mkF m 103 #[vI p0, vI p1, vI p2, vI p3, vI j12_s0_5, vI v10, vI v13, vI v16, vR b17, vR b25, vI (1 : Int32)] [(.long l43')]) := fun t k => pre50 t (st51.trans k)
  have pre52 : Go p.tables e below S0 T51 (mkF m 106 #[vI p0, vI p1, vI p2, vI p3, vI j12_s0_5, vI v10, vI v13, vI v16, vR b17, vR b25, vI (1 : Int32)] [(.int (0 : Int32)), (.ref b25), (.long l43')]) := fun t k => pre51 t (by
    refine XS.aload X51.here hx rfl (hb hby at_103) rfl rfl ?_
    show Steps p.tables e below (T51.setTop (mkF m 105 #[vI p0, vI p1, vI p2, vI p3, vI j12_s0_5, vI v10, vI v13, vI v16, vR b17, vR b25, vI (1 : Int32)] [(.ref b25), (.long l43')])) _
    refine XS.iconst X51.here hx rfl (hb hby at_105) ?_
    show Steps p.tables e below (T51.setTop (mkF m 106 #[vI p0, vI p1, vI p2, vI p3, vI j12_s0_5, vI v10, vI v13, vI v16, vR b17, vR b25, vI (1 : Int32)] [(.int (0 : Int32)), (.ref b25), (.long l43')])) _
    exact k)
  obtain ⟨cl53, Ar53, q53, S53, M53, H53, G53⟩ := id nf47_0
  have in53 : ¬ ((0 : Int32) < 0 ∨ cl53.slots.size ≤ ((0 : Int32)).toNatClampNeg) := inb_of S53 ⟨by decide, by decide⟩
  have at53 : cl53.slots[((0 : Int32)).toNatClampNeg]? = some (.long t47_0) := H53.at in53 rfl
  have pre54 : Go p.tables e below S0 T51 (mkF m 108 #[vI p0, vI p1, vI p2, vI p3, vI j12_s0_5, vI v10, vI v13, vI v16, vR b17, vR b25, vI (1 : Int32)] [(.int (lcmpW l43' t47_0))]) := fun t k => pre52 t (by
    refine X51.laload hx (j := (0 : Int32)) (v := (.long t47_0)) (by rw [eq51]; exact Ar53.1) (State.isArrayOf_alike hZ.alike Ar53.2.1) Ar53.2.2 in53 at53 (g := (mkF m 106 #[vI p0, vI p1, vI p2, vI p3, vI j12_s0_5, vI v10, vI v13, vI v16, vR b17, vR b25, vI (1 : Int32)] [(.int (0 : Int32)), (.ref b25), (.long l43')])) rfl rfl (hb hby at_106) _ ?_
    show Steps p.tables e below (T51.setTop (mkF m 107 #[vI p0, vI p1, vI p2, vI p3, vI j12_s0_5, vI v10, vI v13, vI v16, vR b17, vR b25, vI (1 : Int32)] [(.long t47_0), (.long l43')])) _
    refine XS.lcmp X51.here hx rfl (hb hby at_107) rfl ?_
    show Steps p.tables e below (T51.setTop (mkF m 108 #[vI p0, vI p1, vI p2, vI p3, vI j12_s0_5, vI v10, vI v13, vI v16, vR b17, vR b25, vI (1 : Int32)] [(.int (lcmpW l43' t47_0))])) _
    exact k)
  have cc55 : l43' = t47_0 := R1.1
  have pre56 : Go p.tables e below S0 T51 (mkF m 113 #[vI p0, vI p1, vI p2, vI p3, vI j12_s0_5, vI v10, vI v13, vI v16, vR b17, vR b25, vI (1 : Int32)] [(.ref b17)]) := fun t k => pre54 t (by
    refine XS.ifNo X51.here hx rfl (hb hby at_108) rfl ((if0 _ _).trans (teq ((lw_eq _ _).mpr cc55)).2) ?_
    show Steps p.tables e below (T51.setTop (mkF m 111 #[vI p0, vI p1, vI p2, vI p3, vI j12_s0_5, vI v10, vI v13, vI v16, vR b17, vR b25, vI (1 : Int32)] [])) _
    refine XS.aload X51.here hx rfl (hb hby at_111) rfl rfl ?_
    show Steps p.tables e below (T51.setTop (mkF m 113 #[vI p0, vI p1, vI p2, vI p3, vI j12_s0_5, vI v10, vI v13, vI v16, vR b17, vR b25, vI (1 : Int32)] [(.ref b17)])) _
    exact k)
  obtain ⟨cq57, kq57, qa57, qb57, qc57⟩ := isOf hZ eq51 f48_1
  obtain ⟨_, _, ⟨T57, L57, k57, n57⟩, -, X57, ⟨Lc57, hQ57, l57, y57, z57⟩, st57⟩ := X51.virtualBack hx (y := (⟨"com/example/ratatoskr/ratatoskr/xml/TextPosition", "column", "()J"⟩ : MethodName)) (z := (⟨"com/example/ratatoskr/ratatoskr/xml/TextPosition", "column", "()J"⟩ : MethodName)) hown (mvT hZ (hw _ (List.mem_of_getElem? (i := 36) rfl))) (mvT hZ (hw _ (List.mem_of_getElem? (i := 37) rfl))) (notFace_of_selects (args := #[]) (mvT hZ (hw _ (List.mem_of_getElem? (i := 39) rfl)))) (mvT hZ (hw _ (List.mem_of_getElem? (i := 39) rfl))) (mvT hZ (hw _ (List.mem_of_getElem? (i := 38) rfl))) (by decide) (backOf (W := 0) (rm8 l Z A0 hw [] b17 c43' T47.heap n0 zz49 f48_3) hZ (hw _ (List.mem_of_getElem? (i := 40) rfl)) (hw _ (List.mem_of_getElem? (i := 6) rfl)) (by decide) (by decide)) qa57 qc57 (g := (mkF m 113 #[vI p0, vI p1, vI p2, vI p3, vI j12_s0_5, vI v10, vI v13, vI v16, vR b17, vR b25, vI (1 : Int32)] [(.ref b17)])) rfl (by rw [hml]; rfl) (Steps.refl _) (argsL := []) (rest := []) (lenOf pd_5 rfl) rfl (by show 2 * 0 + _ ≤ _; exact Nat.le_of_eq rfl) (hb hby at_113) (fun _ _ => ⟨rfl, eq51, (by decide : 2 + 0 ≤ _), (by decide : 6 + 0 ≤ _)⟩)
  dsimp only [Pt.U, Pt.locs, Pt.cells, Pt.slots] at X57 l57 y57 z57 st57 hQ57
  subst l57 y57 z57
  obtain ⟨rfl, Nq57, eq57⟩ := hQ57
  have N57 := Fr.app N51 Nq57
  have pre57 : Go p.tables e below S0 T57 (mkF m 116 #[vI p0, vI p1, vI p2, vI p3, vI j12_s0_5, vI v10, vI v13, vI v16, vR b17, vR b25, vI (1 : Int32)] [(.long c43')]) := fun t k => pre56 t (st57.trans k)
  have pre58 : Go p.tables e below S0 T57 (mkF m 119 #[vI p0, vI p1, vI p2, vI p3, vI j12_s0_5, vI v10, vI v13, vI v16, vR b17, vR b25, vI (1 : Int32)] [(.int (1 : Int32)), (.ref b25), (.long c43')]) := fun t k => pre57 t (by
    refine XS.aload X57.here hx rfl (hb hby at_116) rfl rfl ?_
    show Steps p.tables e below (T57.setTop (mkF m 118 #[vI p0, vI p1, vI p2, vI p3, vI j12_s0_5, vI v10, vI v13, vI v16, vR b17, vR b25, vI (1 : Int32)] [(.ref b25), (.long c43')])) _
    refine XS.iconst X57.here hx rfl (hb hby at_118) ?_
    show Steps p.tables e below (T57.setTop (mkF m 119 #[vI p0, vI p1, vI p2, vI p3, vI j12_s0_5, vI v10, vI v13, vI v16, vR b17, vR b25, vI (1 : Int32)] [(.int (1 : Int32)), (.ref b25), (.long c43')])) _
    exact k)
  obtain ⟨cl59, Ar59, q59, S59, M59, H59, G59⟩ := id nf47_0
  have in59 : ¬ ((1 : Int32) < 0 ∨ cl59.slots.size ≤ ((1 : Int32)).toNatClampNeg) := inb_of S59 ⟨by decide, by decide⟩
  have at59 : cl59.slots[((1 : Int32)).toNatClampNeg]? = some (.long t47_1) := H59.at in59 rfl
  have pre60 : Go p.tables e below S0 T57 (mkF m 121 #[vI p0, vI p1, vI p2, vI p3, vI j12_s0_5, vI v10, vI v13, vI v16, vR b17, vR b25, vI (1 : Int32)] [(.int (lcmpW c43' t47_1))]) := fun t k => pre58 t (by
    refine X57.laload hx (j := (1 : Int32)) (v := (.long t47_1)) (by rw [eq57]; exact Ar59.1) (State.isArrayOf_alike hZ.alike Ar59.2.1) Ar59.2.2 in59 at59 (g := (mkF m 119 #[vI p0, vI p1, vI p2, vI p3, vI j12_s0_5, vI v10, vI v13, vI v16, vR b17, vR b25, vI (1 : Int32)] [(.int (1 : Int32)), (.ref b25), (.long c43')])) rfl rfl (hb hby at_119) _ ?_
    show Steps p.tables e below (T57.setTop (mkF m 120 #[vI p0, vI p1, vI p2, vI p3, vI j12_s0_5, vI v10, vI v13, vI v16, vR b17, vR b25, vI (1 : Int32)] [(.long t47_1), (.long c43')])) _
    refine XS.lcmp X57.here hx rfl (hb hby at_120) rfl ?_
    show Steps p.tables e below (T57.setTop (mkF m 121 #[vI p0, vI p1, vI p2, vI p3, vI j12_s0_5, vI v10, vI v13, vI v16, vR b17, vR b25, vI (1 : Int32)] [(.int (lcmpW c43' t47_1))])) _
    exact k)
  have cc61 : c43' = t47_1 := R1.2.1
  have pre62 : Go p.tables e below S0 T57 (mkF m 137 #[vI p0, vI p1, vI p2, vI p3, vI j12_s0_5, vI v10, vI v13, vI v16, vR b17, vR b25, vI (1 : Int32)] [(.int j12_s0_5), (.int v13), (.ref b17)]) := fun t k => pre60 t (by
    refine XS.ifNo X57.here hx rfl (hb hby at_121) rfl ((if0 _ _).trans (teq ((lw_eq _ _).mpr cc61)).2) ?_
    show Steps p.tables e below (T57.setTop (mkF m 124 #[vI p0, vI p1, vI p2, vI p3, vI j12_s0_5, vI v10, vI v13, vI v16, vR b17, vR b25, vI (1 : Int32)] [])) _
    refine XS.iconst X57.here hx rfl (hb hby at_124) ?_
    show Steps p.tables e below (T57.setTop (mkF m 125 #[vI p0, vI p1, vI p2, vI p3, vI j12_s0_5, vI v10, vI v13, vI v16, vR b17, vR b25, vI (1 : Int32)] [(.int (1 : Int32))])) _
    refine XS.goto X57.here hx rfl (pc0 := 125) (pc' := 129) rfl (hb hby at_125) (by decide) (by decide) ?_
    show Steps p.tables e below (T57.setTop (mkF m 129 #[vI p0, vI p1, vI p2, vI p3, vI j12_s0_5, vI v10, vI v13, vI v16, vR b17, vR b25, vI (1 : Int32)] [(.int (1 : Int32))])) _
    refine XS.istore X57.here hx rfl (hb hby at_129) rfl (l' := #[vI p0, vI p1, vI p2, vI p3, vI j12_s0_5, vI v10, vI v13, vI v16, vR b17, vR b25, vI (1 : Int32)]) rfl ?_
    show Steps p.tables e below (T57.setTop (mkF m 131 #[vI p0, vI p1, vI p2, vI p3, vI j12_s0_5, vI v10, vI v13, vI v16, vR b17, vR b25, vI (1 : Int32)] [])) _
    refine XS.aload X57.here hx rfl (hb hby at_131) rfl rfl ?_
    show Steps p.tables e below (T57.setTop (mkF m 133 #[vI p0, vI p1, vI p2, vI p3, vI j12_s0_5, vI v10, vI v13, vI v16, vR b17, vR b25, vI (1 : Int32)] [(.ref b17)])) _
    refine XS.iload X57.here hx rfl (hb hby at_133) rfl ?_
    show Steps p.tables e below (T57.setTop (mkF m 135 #[vI p0, vI p1, vI p2, vI p3, vI j12_s0_5, vI v10, vI v13, vI v16, vR b17, vR b25, vI (1 : Int32)] [(.int v13), (.ref b17)])) _
    refine XS.iload X57.here hx rfl (hb hby at_135) rfl ?_
    show Steps p.tables e below (T57.setTop (mkF m 137 #[vI p0, vI p1, vI p2, vI p3, vI j12_s0_5, vI v10, vI v13, vI v16, vR b17, vR b25, vI (1 : Int32)] [(.int j12_s0_5), (.int v13), (.ref b17)])) _
    exact k)
  obtain ⟨_, _, ⟨T63, L63, k63, n63⟩, -, X63, ⟨Lc63, hQ63, l63, y63, z63⟩, st63⟩ := Jvm.LawKit.callS X57 hx (y := (⟨"com/example/ratatoskr/ratatoskr/xml/TextPositionAdvancePinLaw", "arg", "(IZ)I"⟩ : MethodName)) hown (mvT hZ (hw _ (List.mem_of_getElem? (i := 18) rfl))) (mvT hZ (hw _ (List.mem_of_getElem? (i := 19) rfl))) (mvT hZ (hw _ (List.mem_of_getElem? (i := 2) rfl))) (mvT hZ (hw _ (List.mem_of_getElem? (i := 20) rfl))) (by decide) (backOf (W := 1) (rm4 l Z A0 hw [] v13 j12_s0_5 T47.heap n0 zz49) hZ (hw _ (List.mem_of_getElem? (i := 20) rfl)) (hw _ (List.mem_of_getElem? (i := 2) rfl)) (by decide) (by decide)) (g := (mkF m 137 #[vI p0, vI p1, vI p2, vI p3, vI j12_s0_5, vI v10, vI v13, vI v16, vR b17, vR b25, vI (1 : Int32)] [(.int j12_s0_5), (.int v13), (.ref b17)])) rfl (by rw [hml]; rfl) (argsL := [(.int v13), (.int j12_s0_5)]) (rest := [(.ref b17)]) (lenOf pd_2 rfl) rfl (by show 2 * 0 + _ ≤ _; exact Nat.le_of_eq rfl) (hb hby at_137) (fun _ _ => ⟨rfl, eq57, (by decide : 2 + 0 ≤ _), (by decide : 6 + 0 ≤ _)⟩)
  dsimp only [Pt.U, Pt.locs, Pt.cells, Pt.slots] at X63 l63 y63 z63 st63 hQ63
  subst l63 y63 z63
  obtain ⟨rfl, Nq63, eq63⟩ := hQ63
  have N63 := Fr.app N57 Nq63
  have pre63 : Go p.tables e below S0 T63 (mkF m 140 #[vI p0, vI p1, vI p2, vI p3, vI j12_s0_5, vI v10, vI v13, vI v16, vR b17, vR b25, vI (1 : Int32)] [(.int (own_arg v13 j12_s0_5)), (.ref b17)]) := fun t k => pre62 t (st63 t k)
  obtain ⟨cq64, kq64, qa64, qb64, qc64⟩ := isOf hZ eq63 f48_1
  obtain ⟨_, _, ⟨T64, L64, k64, n64⟩, -, X64, ⟨Lc64, hQ64, l64, y64, z64⟩, st64⟩ := X63.virtualBack hx (y := (⟨"com/example/ratatoskr/ratatoskr/xml/TextPosition", "advance", "(I)V"⟩ : MethodName)) (z := (⟨"com/example/ratatoskr/ratatoskr/xml/TextPosition", "advance", "(I)V"⟩ : MethodName)) hown (mvT hZ (hw _ (List.mem_of_getElem? (i := 21) rfl))) (mvT hZ (hw _ (List.mem_of_getElem? (i := 22) rfl))) (notFace_of_selects (args := #[]) (mvT hZ (hw _ (List.mem_of_getElem? (i := 24) rfl)))) (mvT hZ (hw _ (List.mem_of_getElem? (i := 24) rfl))) (mvT hZ (hw _ (List.mem_of_getElem? (i := 23) rfl))) (by decide) (backOf (W := 0) (rm5 l Z A0 hw [] b17 (own_arg v13 j12_s0_5) l43' c43' r43' T47.heap n0 zz49 f48_1 f48_2 f48_3 f48_4 bo17) hZ (hw _ (List.mem_of_getElem? (i := 25) rfl)) (hw _ (List.mem_of_getElem? (i := 6) rfl)) (by decide) (by decide)) qa64 qc64 (g := (mkF m 140 #[vI p0, vI p1, vI p2, vI p3, vI j12_s0_5, vI v10, vI v13, vI v16, vR b17, vR b25, vI (1 : Int32)] [(.int (own_arg v13 j12_s0_5)), (.ref b17)])) rfl (by rw [hml]; rfl) (Steps.refl _) (argsL := [(.int (own_arg v13 j12_s0_5))]) (rest := []) (lenOf pd_3 rfl) rfl (by show 2 * 0 + _ ≤ _; exact Nat.le_of_eq rfl) (hb hby at_140) (fun _ _ => ⟨rfl, eq63, (by decide : 2 + 0 ≤ _), (by decide : 6 + 0 ≤ _)⟩)
  dsimp only [Pt.U, Pt.locs, Pt.cells, Pt.slots] at X64 l64 y64 z64 st64 hQ64
  subst l64 y64 z64
  obtain ⟨rfl, Nq64, l64', c64', r64', hA64, Kq64, nf64_0, nf64_1, nf64_2, nf64_3⟩ := hQ64
  have N64 := Fr.app N63 Nq64
  have pre64 : Go p.tables e below S0 T64 (mkF m 143 #[vI p0, vI p1, vI p2, vI p3, vI j12_s0_5, vI v10, vI v13, vI v16, vR b17, vR b25, vI (1 : Int32)] []) := fun t k => pre63 t (st64.trans k)
  have f65_1 := nf47_0.keep Kq64 (ninS (Ne.symm ne26) nin0)
  have zz66 : n0 ≤ T64.heap.size := Nat.le_trans zz49 Kq64.1
  have pre67 : Go p.tables e below S0 T64 (mkF m 147 #[vI p0, vI p1, vI p2, vI p3, vI j12_s0_5, vI v10, vI v13, vI v16, vR b17, vR b25, vI (1 : Int32)] [(.int v13), (.ref b25)]) := fun t k => pre64 t (by
    refine XS.aload X64.here hx rfl (hb hby at_143) rfl rfl ?_
    show Steps p.tables e below (T64.setTop (mkF m 145 #[vI p0, vI p1, vI p2, vI p3, vI j12_s0_5, vI v10, vI v13, vI v16, vR b17, vR b25, vI (1 : Int32)] [(.ref b25)])) _
    refine XS.iload X64.here hx rfl (hb hby at_145) rfl ?_
    show Steps p.tables e below (T64.setTop (mkF m 147 #[vI p0, vI p1, vI p2, vI p3, vI j12_s0_5, vI v10, vI v13, vI v16, vR b17, vR b25, vI (1 : Int32)] [(.int v13), (.ref b25)])) _
    exact k)
  obtain ⟨_, _, ⟨T68, L68, k68, n68⟩, -, X68, ⟨Lc68, hQ68, l68, y68, z68⟩, st68⟩ := Jvm.LawKit.callS X64 hx (y := (⟨"com/example/ratatoskr/ratatoskr/xml/TextPositionAdvancePinLaw", "ref", "([JI)V"⟩ : MethodName)) hown (mvT hZ (hw _ (List.mem_of_getElem? (i := 28) rfl))) (mvT hZ (hw _ (List.mem_of_getElem? (i := 29) rfl))) (mvT hZ (hw _ (List.mem_of_getElem? (i := 2) rfl))) (mvT hZ (hw _ (List.mem_of_getElem? (i := 30) rfl))) (by decide) (backOf (W := 0) (rm6 l Z A0 hw [] b25 v13 k25 t47_0 t47_1 t47_2 T64.heap n0 zz66 f65_1 bo25) hZ (hw _ (List.mem_of_getElem? (i := 30) rfl)) (hw _ (List.mem_of_getElem? (i := 2) rfl)) (by decide) (by decide)) (g := (mkF m 147 #[vI p0, vI p1, vI p2, vI p3, vI j12_s0_5, vI v10, vI v13, vI v16, vR b17, vR b25, vI (1 : Int32)] [(.int v13), (.ref b25)])) rfl (by rw [hml]; rfl) (argsL := [(.ref b25), (.int v13)]) (rest := []) (lenOf pd_4 rfl) rfl (by show 2 * 0 + _ ≤ _; exact Nat.le_of_eq rfl) (hb hby at_147) (fun _ _ => ⟨rfl, rfl, (by decide : 2 + 0 ≤ _), (by decide : 6 + 0 ≤ _)⟩)
  dsimp only [Pt.U, Pt.locs, Pt.cells, Pt.slots] at X68 l68 y68 z68 st68 hQ68
  subst l68 y68 z68
  obtain ⟨rfl, Nq68, t68_0, t68_1, t68_2, hR68, Kq68, nf68_0⟩ := hQ68
  have N68 := Fr.app N64 Nq68
  have pre68 : Go p.tables e below S0 T68 (mkF m 150 #[vI p0, vI p1, vI p2, vI p3, vI j12_s0_5, vI v10, vI v13, vI v16, vR b17, vR b25, vI (1 : Int32)] []) := fun t k => pre67 t (st68 t k)
  have f69_1 := Exa.keep nf64_0 Kq68
  have f69_2 := Fld.keep nf64_1 Kq68 (ninS ne26 nin0)
  have f69_3 := Fld.keep nf64_2 Kq68 (ninS ne26 nin0)
  have f69_4 := Fld.keep nf64_3 Kq68 (ninS ne26 nin0)
  have zz70 : n0 ≤ T68.heap.size := Nat.le_trans zz66 Kq68.1
  have R2 : own_R l64' c64' r64' t68_0 t68_1 t68_2 := own_step u34 R1 hA64 hR68
  have pre71 : Go p.tables e below S0 T68 (mkF m 157 #[vI p0, vI p1, vI p2, vI p3, vI j12_s0_5, vI v10, vI v13, vI v16, vR b17, vR b25, vI (1 : Int32)] [(.ref b17)]) := fun t k => pre68 t (by
    refine XS.iload X68.here hx rfl (hb hby at_150) rfl ?_
    show Steps p.tables e below (T68.setTop (mkF m 152 #[vI p0, vI p1, vI p2, vI p3, vI j12_s0_5, vI v10, vI v13, vI v16, vR b17, vR b25, vI (1 : Int32)] [(.int (1 : Int32))])) _
    refine XS.ifNo X68.here hx rfl (hb hby at_152) rfl ((if0 _ _).trans (feq (by decide : ¬ ((1 : Int32) = (0 : Int32)))).1) ?_
    show Steps p.tables e below (T68.setTop (mkF m 155 #[vI p0, vI p1, vI p2, vI p3, vI j12_s0_5, vI v10, vI v13, vI v16, vR b17, vR b25, vI (1 : Int32)] [])) _
    refine XS.aload X68.here hx rfl (hb hby at_155) rfl rfl ?_
    show Steps p.tables e below (T68.setTop (mkF m 157 #[vI p0, vI p1, vI p2, vI p3, vI j12_s0_5, vI v10, vI v13, vI v16, vR b17, vR b25, vI (1 : Int32)] [(.ref b17)])) _
    exact k)
  obtain ⟨cq72, kq72, qa72, qb72, qc72⟩ := isOf hZ rfl f69_1
  obtain ⟨_, _, ⟨T72, L72, k72, n72⟩, -, X72, ⟨Lc72, hQ72, l72, y72, z72⟩, st72⟩ := X68.virtualBack hx (y := (⟨"com/example/ratatoskr/ratatoskr/xml/TextPosition", "line", "()J"⟩ : MethodName)) (z := (⟨"com/example/ratatoskr/ratatoskr/xml/TextPosition", "line", "()J"⟩ : MethodName)) hown (mvT hZ (hw _ (List.mem_of_getElem? (i := 31) rfl))) (mvT hZ (hw _ (List.mem_of_getElem? (i := 32) rfl))) (notFace_of_selects (args := #[]) (mvT hZ (hw _ (List.mem_of_getElem? (i := 34) rfl)))) (mvT hZ (hw _ (List.mem_of_getElem? (i := 34) rfl))) (mvT hZ (hw _ (List.mem_of_getElem? (i := 33) rfl))) (by decide) (backOf (W := 0) (rm7 l Z A0 hw [] b17 l64' T68.heap n0 zz70 f69_2) hZ (hw _ (List.mem_of_getElem? (i := 35) rfl)) (hw _ (List.mem_of_getElem? (i := 6) rfl)) (by decide) (by decide)) qa72 qc72 (g := (mkF m 157 #[vI p0, vI p1, vI p2, vI p3, vI j12_s0_5, vI v10, vI v13, vI v16, vR b17, vR b25, vI (1 : Int32)] [(.ref b17)])) rfl (by rw [hml]; rfl) (Steps.refl _) (argsL := []) (rest := []) (lenOf pd_5 rfl) rfl (by show 2 * 0 + _ ≤ _; exact Nat.le_of_eq rfl) (hb hby at_157) (fun _ _ => ⟨rfl, rfl, (by decide : 2 + 0 ≤ _), (by decide : 6 + 0 ≤ _)⟩)
  dsimp only [Pt.U, Pt.locs, Pt.cells, Pt.slots] at X72 l72 y72 z72 st72 hQ72
  subst l72 y72 z72
  obtain ⟨rfl, Nq72, eq72⟩ := hQ72
  have N72 := Fr.app N68 Nq72
  have pre72 : Go p.tables e below S0 T72 (mkF m 160 #[vI p0, vI p1, vI p2, vI p3, vI j12_s0_5, vI v10, vI v13, vI v16, vR b17, vR b25, vI (1 : Int32)] [(.long l64')]) := fun t k => pre71 t (st72.trans k)
  have pre73 : Go p.tables e below S0 T72 (mkF m 163 #[vI p0, vI p1, vI p2, vI p3, vI j12_s0_5, vI v10, vI v13, vI v16, vR b17, vR b25, vI (1 : Int32)] [(.int (0 : Int32)), (.ref b25), (.long l64')]) := fun t k => pre72 t (by
    refine XS.aload X72.here hx rfl (hb hby at_160) rfl rfl ?_
    show Steps p.tables e below (T72.setTop (mkF m 162 #[vI p0, vI p1, vI p2, vI p3, vI j12_s0_5, vI v10, vI v13, vI v16, vR b17, vR b25, vI (1 : Int32)] [(.ref b25), (.long l64')])) _
    refine XS.iconst X72.here hx rfl (hb hby at_162) ?_
    show Steps p.tables e below (T72.setTop (mkF m 163 #[vI p0, vI p1, vI p2, vI p3, vI j12_s0_5, vI v10, vI v13, vI v16, vR b17, vR b25, vI (1 : Int32)] [(.int (0 : Int32)), (.ref b25), (.long l64')])) _
    exact k)
  obtain ⟨cl74, Ar74, q74, S74, M74, H74, G74⟩ := id nf68_0
  have in74 : ¬ ((0 : Int32) < 0 ∨ cl74.slots.size ≤ ((0 : Int32)).toNatClampNeg) := inb_of S74 ⟨by decide, by decide⟩
  have at74 : cl74.slots[((0 : Int32)).toNatClampNeg]? = some (.long t68_0) := H74.at in74 rfl
  have pre75 : Go p.tables e below S0 T72 (mkF m 165 #[vI p0, vI p1, vI p2, vI p3, vI j12_s0_5, vI v10, vI v13, vI v16, vR b17, vR b25, vI (1 : Int32)] [(.int (lcmpW l64' t68_0))]) := fun t k => pre73 t (by
    refine X72.laload hx (j := (0 : Int32)) (v := (.long t68_0)) (by rw [eq72]; exact Ar74.1) (State.isArrayOf_alike hZ.alike Ar74.2.1) Ar74.2.2 in74 at74 (g := (mkF m 163 #[vI p0, vI p1, vI p2, vI p3, vI j12_s0_5, vI v10, vI v13, vI v16, vR b17, vR b25, vI (1 : Int32)] [(.int (0 : Int32)), (.ref b25), (.long l64')])) rfl rfl (hb hby at_163) _ ?_
    show Steps p.tables e below (T72.setTop (mkF m 164 #[vI p0, vI p1, vI p2, vI p3, vI j12_s0_5, vI v10, vI v13, vI v16, vR b17, vR b25, vI (1 : Int32)] [(.long t68_0), (.long l64')])) _
    refine XS.lcmp X72.here hx rfl (hb hby at_164) rfl ?_
    show Steps p.tables e below (T72.setTop (mkF m 165 #[vI p0, vI p1, vI p2, vI p3, vI j12_s0_5, vI v10, vI v13, vI v16, vR b17, vR b25, vI (1 : Int32)] [(.int (lcmpW l64' t68_0))])) _
    exact k)
  have cc76 : l64' = t68_0 := R2.1
  have pre77 : Go p.tables e below S0 T72 (mkF m 170 #[vI p0, vI p1, vI p2, vI p3, vI j12_s0_5, vI v10, vI v13, vI v16, vR b17, vR b25, vI (1 : Int32)] [(.ref b17)]) := fun t k => pre75 t (by
    refine XS.ifNo X72.here hx rfl (hb hby at_165) rfl ((if0 _ _).trans (teq ((lw_eq _ _).mpr cc76)).2) ?_
    show Steps p.tables e below (T72.setTop (mkF m 168 #[vI p0, vI p1, vI p2, vI p3, vI j12_s0_5, vI v10, vI v13, vI v16, vR b17, vR b25, vI (1 : Int32)] [])) _
    refine XS.aload X72.here hx rfl (hb hby at_168) rfl rfl ?_
    show Steps p.tables e below (T72.setTop (mkF m 170 #[vI p0, vI p1, vI p2, vI p3, vI j12_s0_5, vI v10, vI v13, vI v16, vR b17, vR b25, vI (1 : Int32)] [(.ref b17)])) _
    exact k)
  obtain ⟨cq78, kq78, qa78, qb78, qc78⟩ := isOf hZ eq72 f69_1
  obtain ⟨_, _, ⟨T78, L78, k78, n78⟩, -, X78, ⟨Lc78, hQ78, l78, y78, z78⟩, st78⟩ := X72.virtualBack hx (y := (⟨"com/example/ratatoskr/ratatoskr/xml/TextPosition", "column", "()J"⟩ : MethodName)) (z := (⟨"com/example/ratatoskr/ratatoskr/xml/TextPosition", "column", "()J"⟩ : MethodName)) hown (mvT hZ (hw _ (List.mem_of_getElem? (i := 36) rfl))) (mvT hZ (hw _ (List.mem_of_getElem? (i := 37) rfl))) (notFace_of_selects (args := #[]) (mvT hZ (hw _ (List.mem_of_getElem? (i := 39) rfl)))) (mvT hZ (hw _ (List.mem_of_getElem? (i := 39) rfl))) (mvT hZ (hw _ (List.mem_of_getElem? (i := 38) rfl))) (by decide) (backOf (W := 0) (rm8 l Z A0 hw [] b17 c64' T68.heap n0 zz70 f69_3) hZ (hw _ (List.mem_of_getElem? (i := 40) rfl)) (hw _ (List.mem_of_getElem? (i := 6) rfl)) (by decide) (by decide)) qa78 qc78 (g := (mkF m 170 #[vI p0, vI p1, vI p2, vI p3, vI j12_s0_5, vI v10, vI v13, vI v16, vR b17, vR b25, vI (1 : Int32)] [(.ref b17)])) rfl (by rw [hml]; rfl) (Steps.refl _) (argsL := []) (rest := []) (lenOf pd_5 rfl) rfl (by show 2 * 0 + _ ≤ _; exact Nat.le_of_eq rfl) (hb hby at_170) (fun _ _ => ⟨rfl, eq72, (by decide : 2 + 0 ≤ _), (by decide : 6 + 0 ≤ _)⟩)
  dsimp only [Pt.U, Pt.locs, Pt.cells, Pt.slots] at X78 l78 y78 z78 st78 hQ78
  subst l78 y78 z78
  obtain ⟨rfl, Nq78, eq78⟩ := hQ78
  have N78 := Fr.app N72 Nq78
  have pre78 : Go p.tables e below S0 T78 (mkF m 173 #[vI p0, vI p1, vI p2, vI p3, vI j12_s0_5, vI v10, vI v13, vI v16, vR b17, vR b25, vI (1 : Int32)] [(.long c64')]) := fun t k => pre77 t (st78.trans k)
  have pre79 : Go p.tables e below S0 T78 (mkF m 176 #[vI p0, vI p1, vI p2, vI p3, vI j12_s0_5, vI v10, vI v13, vI v16, vR b17, vR b25, vI (1 : Int32)] [(.int (1 : Int32)), (.ref b25), (.long c64')]) := fun t k => pre78 t (by
    refine XS.aload X78.here hx rfl (hb hby at_173) rfl rfl ?_
    show Steps p.tables e below (T78.setTop (mkF m 175 #[vI p0, vI p1, vI p2, vI p3, vI j12_s0_5, vI v10, vI v13, vI v16, vR b17, vR b25, vI (1 : Int32)] [(.ref b25), (.long c64')])) _
    refine XS.iconst X78.here hx rfl (hb hby at_175) ?_
    show Steps p.tables e below (T78.setTop (mkF m 176 #[vI p0, vI p1, vI p2, vI p3, vI j12_s0_5, vI v10, vI v13, vI v16, vR b17, vR b25, vI (1 : Int32)] [(.int (1 : Int32)), (.ref b25), (.long c64')])) _
    exact k)
  obtain ⟨cl80, Ar80, q80, S80, M80, H80, G80⟩ := id nf68_0
  have in80 : ¬ ((1 : Int32) < 0 ∨ cl80.slots.size ≤ ((1 : Int32)).toNatClampNeg) := inb_of S80 ⟨by decide, by decide⟩
  have at80 : cl80.slots[((1 : Int32)).toNatClampNeg]? = some (.long t68_1) := H80.at in80 rfl
  have pre81 : Go p.tables e below S0 T78 (mkF m 178 #[vI p0, vI p1, vI p2, vI p3, vI j12_s0_5, vI v10, vI v13, vI v16, vR b17, vR b25, vI (1 : Int32)] [(.int (lcmpW c64' t68_1))]) := fun t k => pre79 t (by
    refine X78.laload hx (j := (1 : Int32)) (v := (.long t68_1)) (by rw [eq78]; exact Ar80.1) (State.isArrayOf_alike hZ.alike Ar80.2.1) Ar80.2.2 in80 at80 (g := (mkF m 176 #[vI p0, vI p1, vI p2, vI p3, vI j12_s0_5, vI v10, vI v13, vI v16, vR b17, vR b25, vI (1 : Int32)] [(.int (1 : Int32)), (.ref b25), (.long c64')])) rfl rfl (hb hby at_176) _ ?_
    show Steps p.tables e below (T78.setTop (mkF m 177 #[vI p0, vI p1, vI p2, vI p3, vI j12_s0_5, vI v10, vI v13, vI v16, vR b17, vR b25, vI (1 : Int32)] [(.long t68_1), (.long c64')])) _
    refine XS.lcmp X78.here hx rfl (hb hby at_177) rfl ?_
    show Steps p.tables e below (T78.setTop (mkF m 178 #[vI p0, vI p1, vI p2, vI p3, vI j12_s0_5, vI v10, vI v13, vI v16, vR b17, vR b25, vI (1 : Int32)] [(.int (lcmpW c64' t68_1))])) _
    exact k)
  have cc82 : c64' = t68_1 := R2.2.1
  have pre83 : Go p.tables e below S0 T78 (mkF m 194 #[vI p0, vI p1, vI p2, vI p3, vI j12_s0_5, vI v10, vI v13, vI v16, vR b17, vR b25, vI (1 : Int32)] [(.int j12_s0_5), (.int v16), (.ref b17)]) := fun t k => pre81 t (by
    refine XS.ifNo X78.here hx rfl (hb hby at_178) rfl ((if0 _ _).trans (teq ((lw_eq _ _).mpr cc82)).2) ?_
    show Steps p.tables e below (T78.setTop (mkF m 181 #[vI p0, vI p1, vI p2, vI p3, vI j12_s0_5, vI v10, vI v13, vI v16, vR b17, vR b25, vI (1 : Int32)] [])) _
    refine XS.iconst X78.here hx rfl (hb hby at_181) ?_
    show Steps p.tables e below (T78.setTop (mkF m 182 #[vI p0, vI p1, vI p2, vI p3, vI j12_s0_5, vI v10, vI v13, vI v16, vR b17, vR b25, vI (1 : Int32)] [(.int (1 : Int32))])) _
    refine XS.goto X78.here hx rfl (pc0 := 182) (pc' := 186) rfl (hb hby at_182) (by decide) (by decide) ?_
    show Steps p.tables e below (T78.setTop (mkF m 186 #[vI p0, vI p1, vI p2, vI p3, vI j12_s0_5, vI v10, vI v13, vI v16, vR b17, vR b25, vI (1 : Int32)] [(.int (1 : Int32))])) _
    refine XS.istore X78.here hx rfl (hb hby at_186) rfl (l' := #[vI p0, vI p1, vI p2, vI p3, vI j12_s0_5, vI v10, vI v13, vI v16, vR b17, vR b25, vI (1 : Int32)]) rfl ?_
    show Steps p.tables e below (T78.setTop (mkF m 188 #[vI p0, vI p1, vI p2, vI p3, vI j12_s0_5, vI v10, vI v13, vI v16, vR b17, vR b25, vI (1 : Int32)] [])) _
    refine XS.aload X78.here hx rfl (hb hby at_188) rfl rfl ?_
    show Steps p.tables e below (T78.setTop (mkF m 190 #[vI p0, vI p1, vI p2, vI p3, vI j12_s0_5, vI v10, vI v13, vI v16, vR b17, vR b25, vI (1 : Int32)] [(.ref b17)])) _
    refine XS.iload X78.here hx rfl (hb hby at_190) rfl ?_
    show Steps p.tables e below (T78.setTop (mkF m 192 #[vI p0, vI p1, vI p2, vI p3, vI j12_s0_5, vI v10, vI v13, vI v16, vR b17, vR b25, vI (1 : Int32)] [(.int v16), (.ref b17)])) _
    refine XS.iload X78.here hx rfl (hb hby at_192) rfl ?_
    show Steps p.tables e below (T78.setTop (mkF m 194 #[vI p0, vI p1, vI p2, vI p3, vI j12_s0_5, vI v10, vI v13, vI v16, vR b17, vR b25, vI (1 : Int32)] [(.int j12_s0_5), (.int v16), (.ref b17)])) _
    exact k)
  obtain ⟨_, _, ⟨T84, L84, k84, n84⟩, -, X84, ⟨Lc84, hQ84, l84, y84, z84⟩, st84⟩ := Jvm.LawKit.callS X78 hx (y := (⟨"com/example/ratatoskr/ratatoskr/xml/TextPositionAdvancePinLaw", "arg", "(IZ)I"⟩ : MethodName)) hown (mvT hZ (hw _ (List.mem_of_getElem? (i := 18) rfl))) (mvT hZ (hw _ (List.mem_of_getElem? (i := 19) rfl))) (mvT hZ (hw _ (List.mem_of_getElem? (i := 2) rfl))) (mvT hZ (hw _ (List.mem_of_getElem? (i := 20) rfl))) (by decide) (backOf (W := 1) (rm4 l Z A0 hw [] v16 j12_s0_5 T68.heap n0 zz70) hZ (hw _ (List.mem_of_getElem? (i := 20) rfl)) (hw _ (List.mem_of_getElem? (i := 2) rfl)) (by decide) (by decide)) (g := (mkF m 194 #[vI p0, vI p1, vI p2, vI p3, vI j12_s0_5, vI v10, vI v13, vI v16, vR b17, vR b25, vI (1 : Int32)] [(.int j12_s0_5), (.int v16), (.ref b17)])) rfl (by rw [hml]; rfl) (argsL := [(.int v16), (.int j12_s0_5)]) (rest := [(.ref b17)]) (lenOf pd_2 rfl) rfl (by show 2 * 0 + _ ≤ _; exact Nat.le_of_eq rfl) (hb hby at_194) (fun _ _ => ⟨rfl, eq78, (by decide : 2 + 0 ≤ _), (by decide : 6 + 0 ≤ _)⟩)
  dsimp only [Pt.U, Pt.locs, Pt.cells, Pt.slots] at X84 l84 y84 z84 st84 hQ84
  subst l84 y84 z84
  obtain ⟨rfl, Nq84, eq84⟩ := hQ84
  have N84 := Fr.app N78 Nq84
  have pre84 : Go p.tables e below S0 T84 (mkF m 197 #[vI p0, vI p1, vI p2, vI p3, vI j12_s0_5, vI v10, vI v13, vI v16, vR b17, vR b25, vI (1 : Int32)] [(.int (own_arg v16 j12_s0_5)), (.ref b17)]) := fun t k => pre83 t (st84 t k)
  obtain ⟨cq85, kq85, qa85, qb85, qc85⟩ := isOf hZ eq84 f69_1
  obtain ⟨_, _, ⟨T85, L85, k85, n85⟩, -, X85, ⟨Lc85, hQ85, l85, y85, z85⟩, st85⟩ := X84.virtualBack hx (y := (⟨"com/example/ratatoskr/ratatoskr/xml/TextPosition", "advance", "(I)V"⟩ : MethodName)) (z := (⟨"com/example/ratatoskr/ratatoskr/xml/TextPosition", "advance", "(I)V"⟩ : MethodName)) hown (mvT hZ (hw _ (List.mem_of_getElem? (i := 21) rfl))) (mvT hZ (hw _ (List.mem_of_getElem? (i := 22) rfl))) (notFace_of_selects (args := #[]) (mvT hZ (hw _ (List.mem_of_getElem? (i := 24) rfl)))) (mvT hZ (hw _ (List.mem_of_getElem? (i := 24) rfl))) (mvT hZ (hw _ (List.mem_of_getElem? (i := 23) rfl))) (by decide) (backOf (W := 0) (rm5 l Z A0 hw [] b17 (own_arg v16 j12_s0_5) l64' c64' r64' T68.heap n0 zz70 f69_1 f69_2 f69_3 f69_4 bo17) hZ (hw _ (List.mem_of_getElem? (i := 25) rfl)) (hw _ (List.mem_of_getElem? (i := 6) rfl)) (by decide) (by decide)) qa85 qc85 (g := (mkF m 197 #[vI p0, vI p1, vI p2, vI p3, vI j12_s0_5, vI v10, vI v13, vI v16, vR b17, vR b25, vI (1 : Int32)] [(.int (own_arg v16 j12_s0_5)), (.ref b17)])) rfl (by rw [hml]; rfl) (Steps.refl _) (argsL := [(.int (own_arg v16 j12_s0_5))]) (rest := []) (lenOf pd_3 rfl) rfl (by show 2 * 0 + _ ≤ _; exact Nat.le_of_eq rfl) (hb hby at_197) (fun _ _ => ⟨rfl, eq84, (by decide : 2 + 0 ≤ _), (by decide : 6 + 0 ≤ _)⟩)
  dsimp only [Pt.U, Pt.locs, Pt.cells, Pt.slots] at X85 l85 y85 z85 st85 hQ85
  subst l85 y85 z85
  obtain ⟨rfl, Nq85, l85', c85', r85', hA85, Kq85, nf85_0, nf85_1, nf85_2, nf85_3⟩ := hQ85
  have N85 := Fr.app N84 Nq85
  have pre85 : Go p.tables e below S0 T85 (mkF m 200 #[vI p0, vI p1, vI p2, vI p3, vI j12_s0_5, vI v10, vI v13, vI v16, vR b17, vR b25, vI (1 : Int32)] []) := fun t k => pre84 t (st85.trans k)
  have f86_1 := nf68_0.keep Kq85 (ninS (Ne.symm ne26) nin0)
  have zz87 : n0 ≤ T85.heap.size := Nat.le_trans zz70 Kq85.1
  have pre88 : Go p.tables e below S0 T85 (mkF m 204 #[vI p0, vI p1, vI p2, vI p3, vI j12_s0_5, vI v10, vI v13, vI v16, vR b17, vR b25, vI (1 : Int32)] [(.int v16), (.ref b25)]) := fun t k => pre85 t (by
    refine XS.aload X85.here hx rfl (hb hby at_200) rfl rfl ?_
    show Steps p.tables e below (T85.setTop (mkF m 202 #[vI p0, vI p1, vI p2, vI p3, vI j12_s0_5, vI v10, vI v13, vI v16, vR b17, vR b25, vI (1 : Int32)] [(.ref b25)])) _
    refine XS.iload X85.here hx rfl (hb hby at_202) rfl ?_
    show Steps p.tables e below (T85.setTop (mkF m 204 #[vI p0, vI p1, vI p2, vI p3, vI j12_s0_5, vI v10, vI v13, vI v16, vR b17, vR b25, vI (1 : Int32)] [(.int v16), (.ref b25)])) _
    exact k)
  obtain ⟨_, _, ⟨T89, L89, k89, n89⟩, -, X89, ⟨Lc89, hQ89, l89, y89, z89⟩, st89⟩ := Jvm.LawKit.callS X85 hx (y := (⟨"com/example/ratatoskr/ratatoskr/xml/TextPositionAdvancePinLaw", "ref", "([JI)V"⟩ : MethodName)) hown (mvT hZ (hw _ (List.mem_of_getElem? (i := 28) rfl))) (mvT hZ (hw _ (List.mem_of_getElem? (i := 29) rfl))) (mvT hZ (hw _ (List.mem_of_getElem? (i := 2) rfl))) (mvT hZ (hw _ (List.mem_of_getElem? (i := 30) rfl))) (by decide) (backOf (W := 0) (rm6 l Z A0 hw [] b25 v16 k25 t68_0 t68_1 t68_2 T85.heap n0 zz87 f86_1 bo25) hZ (hw _ (List.mem_of_getElem? (i := 30) rfl)) (hw _ (List.mem_of_getElem? (i := 2) rfl)) (by decide) (by decide)) (g := (mkF m 204 #[vI p0, vI p1, vI p2, vI p3, vI j12_s0_5, vI v10, vI v13, vI v16, vR b17, vR b25, vI (1 : Int32)] [(.int v16), (.ref b25)])) rfl (by rw [hml]; rfl) (argsL := [(.ref b25), (.int v16)]) (rest := []) (lenOf pd_4 rfl) rfl (by show 2 * 0 + _ ≤ _; exact Nat.le_of_eq rfl) (hb hby at_204) (fun _ _ => ⟨rfl, rfl, (by decide : 2 + 0 ≤ _), (by decide : 6 + 0 ≤ _)⟩)
  dsimp only [Pt.U, Pt.locs, Pt.cells, Pt.slots] at X89 l89 y89 z89 st89 hQ89
  subst l89 y89 z89
  obtain ⟨rfl, Nq89, t89_0, t89_1, t89_2, hR89, Kq89, nf89_0⟩ := hQ89
  have N89 := Fr.app N85 Nq89
  have pre89 : Go p.tables e below S0 T89 (mkF m 207 #[vI p0, vI p1, vI p2, vI p3, vI j12_s0_5, vI v10, vI v13, vI v16, vR b17, vR b25, vI (1 : Int32)] []) := fun t k => pre88 t (st89 t k)
  have f90_1 := Exa.keep nf85_0 Kq89
  have f90_2 := Fld.keep nf85_1 Kq89 (ninS ne26 nin0)
  have f90_3 := Fld.keep nf85_2 Kq89 (ninS ne26 nin0)
  have f90_4 := Fld.keep nf85_3 Kq89 (ninS ne26 nin0)
  have zz91 : n0 ≤ T89.heap.size := Nat.le_trans zz87 Kq89.1
  have R3 : own_R l85' c85' r85' t89_0 t89_1 t89_2 := own_step u45 R2 hA85 hR89
  have pre92 : Go p.tables e below S0 T89 (mkF m 214 #[vI p0, vI p1, vI p2, vI p3, vI j12_s0_5, vI v10, vI v13, vI v16, vR b17, vR b25, vI (1 : Int32)] [(.ref b17)]) := fun t k => pre89 t (by
    refine XS.iload X89.here hx rfl (hb hby at_207) rfl ?_
    show Steps p.tables e below (T89.setTop (mkF m 209 #[vI p0, vI p1, vI p2, vI p3, vI j12_s0_5, vI v10, vI v13, vI v16, vR b17, vR b25, vI (1 : Int32)] [(.int (1 : Int32))])) _
    refine XS.ifNo X89.here hx rfl (hb hby at_209) rfl ((if0 _ _).trans (feq (by decide : ¬ ((1 : Int32) = (0 : Int32)))).1) ?_
    show Steps p.tables e below (T89.setTop (mkF m 212 #[vI p0, vI p1, vI p2, vI p3, vI j12_s0_5, vI v10, vI v13, vI v16, vR b17, vR b25, vI (1 : Int32)] [])) _
    refine XS.aload X89.here hx rfl (hb hby at_212) rfl rfl ?_
    show Steps p.tables e below (T89.setTop (mkF m 214 #[vI p0, vI p1, vI p2, vI p3, vI j12_s0_5, vI v10, vI v13, vI v16, vR b17, vR b25, vI (1 : Int32)] [(.ref b17)])) _
    exact k)
  obtain ⟨cq93, kq93, qa93, qb93, qc93⟩ := isOf hZ rfl f90_1
  obtain ⟨_, _, ⟨T93, L93, k93, n93⟩, -, X93, ⟨Lc93, hQ93, l93, y93, z93⟩, st93⟩ := X89.virtualBack hx (y := (⟨"com/example/ratatoskr/ratatoskr/xml/TextPosition", "line", "()J"⟩ : MethodName)) (z := (⟨"com/example/ratatoskr/ratatoskr/xml/TextPosition", "line", "()J"⟩ : MethodName)) hown (mvT hZ (hw _ (List.mem_of_getElem? (i := 31) rfl))) (mvT hZ (hw _ (List.mem_of_getElem? (i := 32) rfl))) (notFace_of_selects (args := #[]) (mvT hZ (hw _ (List.mem_of_getElem? (i := 34) rfl)))) (mvT hZ (hw _ (List.mem_of_getElem? (i := 34) rfl))) (mvT hZ (hw _ (List.mem_of_getElem? (i := 33) rfl))) (by decide) (backOf (W := 0) (rm7 l Z A0 hw [] b17 l85' T89.heap n0 zz91 f90_2) hZ (hw _ (List.mem_of_getElem? (i := 35) rfl)) (hw _ (List.mem_of_getElem? (i := 6) rfl)) (by decide) (by decide)) qa93 qc93 (g := (mkF m 214 #[vI p0, vI p1, vI p2, vI p3, vI j12_s0_5, vI v10, vI v13, vI v16, vR b17, vR b25, vI (1 : Int32)] [(.ref b17)])) rfl (by rw [hml]; rfl) (Steps.refl _) (argsL := []) (rest := []) (lenOf pd_5 rfl) rfl (by show 2 * 0 + _ ≤ _; exact Nat.le_of_eq rfl) (hb hby at_214) (fun _ _ => ⟨rfl, rfl, (by decide : 2 + 0 ≤ _), (by decide : 6 + 0 ≤ _)⟩)
  dsimp only [Pt.U, Pt.locs, Pt.cells, Pt.slots] at X93 l93 y93 z93 st93 hQ93
  subst l93 y93 z93
  obtain ⟨rfl, Nq93, eq93⟩ := hQ93
  have N93 := Fr.app N89 Nq93
  have pre93 : Go p.tables e below S0 T93 (mkF m 217 #[vI p0, vI p1, vI p2, vI p3, vI j12_s0_5, vI v10, vI v13, vI v16, vR b17, vR b25, vI (1 : Int32)] [(.long l85')]) := fun t k => pre92 t (st93.trans k)
  have pre94 : Go p.tables e below S0 T93 (mkF m 220 #[vI p0, vI p1, vI p2, vI p3, vI j12_s0_5, vI v10, vI v13, vI v16, vR b17, vR b25, vI (1 : Int32)] [(.int (0 : Int32)), (.ref b25), (.long l85')]) := fun t k => pre93 t (by
    refine XS.aload X93.here hx rfl (hb hby at_217) rfl rfl ?_
    show Steps p.tables e below (T93.setTop (mkF m 219 #[vI p0, vI p1, vI p2, vI p3, vI j12_s0_5, vI v10, vI v13, vI v16, vR b17, vR b25, vI (1 : Int32)] [(.ref b25), (.long l85')])) _
    refine XS.iconst X93.here hx rfl (hb hby at_219) ?_
    show Steps p.tables e below (T93.setTop (mkF m 220 #[vI p0, vI p1, vI p2, vI p3, vI j12_s0_5, vI v10, vI v13, vI v16, vR b17, vR b25, vI (1 : Int32)] [(.int (0 : Int32)), (.ref b25), (.long l85')])) _
    exact k)
  obtain ⟨cl95, Ar95, q95, S95, M95, H95, G95⟩ := id nf89_0
  have in95 : ¬ ((0 : Int32) < 0 ∨ cl95.slots.size ≤ ((0 : Int32)).toNatClampNeg) := inb_of S95 ⟨by decide, by decide⟩
  have at95 : cl95.slots[((0 : Int32)).toNatClampNeg]? = some (.long t89_0) := H95.at in95 rfl
  have pre96 : Go p.tables e below S0 T93 (mkF m 222 #[vI p0, vI p1, vI p2, vI p3, vI j12_s0_5, vI v10, vI v13, vI v16, vR b17, vR b25, vI (1 : Int32)] [(.int (lcmpW l85' t89_0))]) := fun t k => pre94 t (by
    refine X93.laload hx (j := (0 : Int32)) (v := (.long t89_0)) (by rw [eq93]; exact Ar95.1) (State.isArrayOf_alike hZ.alike Ar95.2.1) Ar95.2.2 in95 at95 (g := (mkF m 220 #[vI p0, vI p1, vI p2, vI p3, vI j12_s0_5, vI v10, vI v13, vI v16, vR b17, vR b25, vI (1 : Int32)] [(.int (0 : Int32)), (.ref b25), (.long l85')])) rfl rfl (hb hby at_220) _ ?_
    show Steps p.tables e below (T93.setTop (mkF m 221 #[vI p0, vI p1, vI p2, vI p3, vI j12_s0_5, vI v10, vI v13, vI v16, vR b17, vR b25, vI (1 : Int32)] [(.long t89_0), (.long l85')])) _
    refine XS.lcmp X93.here hx rfl (hb hby at_221) rfl ?_
    show Steps p.tables e below (T93.setTop (mkF m 222 #[vI p0, vI p1, vI p2, vI p3, vI j12_s0_5, vI v10, vI v13, vI v16, vR b17, vR b25, vI (1 : Int32)] [(.int (lcmpW l85' t89_0))])) _
    exact k)
  have cc97 : l85' = t89_0 := R3.1
  have pre98 : Go p.tables e below S0 T93 (mkF m 227 #[vI p0, vI p1, vI p2, vI p3, vI j12_s0_5, vI v10, vI v13, vI v16, vR b17, vR b25, vI (1 : Int32)] [(.ref b17)]) := fun t k => pre96 t (by
    refine XS.ifNo X93.here hx rfl (hb hby at_222) rfl ((if0 _ _).trans (teq ((lw_eq _ _).mpr cc97)).2) ?_
    show Steps p.tables e below (T93.setTop (mkF m 225 #[vI p0, vI p1, vI p2, vI p3, vI j12_s0_5, vI v10, vI v13, vI v16, vR b17, vR b25, vI (1 : Int32)] [])) _
    refine XS.aload X93.here hx rfl (hb hby at_225) rfl rfl ?_
    show Steps p.tables e below (T93.setTop (mkF m 227 #[vI p0, vI p1, vI p2, vI p3, vI j12_s0_5, vI v10, vI v13, vI v16, vR b17, vR b25, vI (1 : Int32)] [(.ref b17)])) _
    exact k)
  obtain ⟨cq99, kq99, qa99, qb99, qc99⟩ := isOf hZ eq93 f90_1
  obtain ⟨_, _, ⟨T99, L99, k99, n99⟩, -, X99, ⟨Lc99, hQ99, l99, y99, z99⟩, st99⟩ := X93.virtualBack hx (y := (⟨"com/example/ratatoskr/ratatoskr/xml/TextPosition", "column", "()J"⟩ : MethodName)) (z := (⟨"com/example/ratatoskr/ratatoskr/xml/TextPosition", "column", "()J"⟩ : MethodName)) hown (mvT hZ (hw _ (List.mem_of_getElem? (i := 36) rfl))) (mvT hZ (hw _ (List.mem_of_getElem? (i := 37) rfl))) (notFace_of_selects (args := #[]) (mvT hZ (hw _ (List.mem_of_getElem? (i := 39) rfl)))) (mvT hZ (hw _ (List.mem_of_getElem? (i := 39) rfl))) (mvT hZ (hw _ (List.mem_of_getElem? (i := 38) rfl))) (by decide) (backOf (W := 0) (rm8 l Z A0 hw [] b17 c85' T89.heap n0 zz91 f90_3) hZ (hw _ (List.mem_of_getElem? (i := 40) rfl)) (hw _ (List.mem_of_getElem? (i := 6) rfl)) (by decide) (by decide)) qa99 qc99 (g := (mkF m 227 #[vI p0, vI p1, vI p2, vI p3, vI j12_s0_5, vI v10, vI v13, vI v16, vR b17, vR b25, vI (1 : Int32)] [(.ref b17)])) rfl (by rw [hml]; rfl) (Steps.refl _) (argsL := []) (rest := []) (lenOf pd_5 rfl) rfl (by show 2 * 0 + _ ≤ _; exact Nat.le_of_eq rfl) (hb hby at_227) (fun _ _ => ⟨rfl, eq93, (by decide : 2 + 0 ≤ _), (by decide : 6 + 0 ≤ _)⟩)
  dsimp only [Pt.U, Pt.locs, Pt.cells, Pt.slots] at X99 l99 y99 z99 st99 hQ99
  subst l99 y99 z99
  obtain ⟨rfl, Nq99, eq99⟩ := hQ99
  have N99 := Fr.app N93 Nq99
  have pre99 : Go p.tables e below S0 T99 (mkF m 230 #[vI p0, vI p1, vI p2, vI p3, vI j12_s0_5, vI v10, vI v13, vI v16, vR b17, vR b25, vI (1 : Int32)] [(.long c85')]) := fun t k => pre98 t (st99.trans k)
  have pre100 : Go p.tables e below S0 T99 (mkF m 233 #[vI p0, vI p1, vI p2, vI p3, vI j12_s0_5, vI v10, vI v13, vI v16, vR b17, vR b25, vI (1 : Int32)] [(.int (1 : Int32)), (.ref b25), (.long c85')]) := fun t k => pre99 t (by
    refine XS.aload X99.here hx rfl (hb hby at_230) rfl rfl ?_
    show Steps p.tables e below (T99.setTop (mkF m 232 #[vI p0, vI p1, vI p2, vI p3, vI j12_s0_5, vI v10, vI v13, vI v16, vR b17, vR b25, vI (1 : Int32)] [(.ref b25), (.long c85')])) _
    refine XS.iconst X99.here hx rfl (hb hby at_232) ?_
    show Steps p.tables e below (T99.setTop (mkF m 233 #[vI p0, vI p1, vI p2, vI p3, vI j12_s0_5, vI v10, vI v13, vI v16, vR b17, vR b25, vI (1 : Int32)] [(.int (1 : Int32)), (.ref b25), (.long c85')])) _
    exact k)
  obtain ⟨cl101, Ar101, q101, S101, M101, H101, G101⟩ := id nf89_0
  have in101 : ¬ ((1 : Int32) < 0 ∨ cl101.slots.size ≤ ((1 : Int32)).toNatClampNeg) := inb_of S101 ⟨by decide, by decide⟩
  have at101 : cl101.slots[((1 : Int32)).toNatClampNeg]? = some (.long t89_1) := H101.at in101 rfl
  have pre102 : Go p.tables e below S0 T99 (mkF m 235 #[vI p0, vI p1, vI p2, vI p3, vI j12_s0_5, vI v10, vI v13, vI v16, vR b17, vR b25, vI (1 : Int32)] [(.int (lcmpW c85' t89_1))]) := fun t k => pre100 t (by
    refine X99.laload hx (j := (1 : Int32)) (v := (.long t89_1)) (by rw [eq99]; exact Ar101.1) (State.isArrayOf_alike hZ.alike Ar101.2.1) Ar101.2.2 in101 at101 (g := (mkF m 233 #[vI p0, vI p1, vI p2, vI p3, vI j12_s0_5, vI v10, vI v13, vI v16, vR b17, vR b25, vI (1 : Int32)] [(.int (1 : Int32)), (.ref b25), (.long c85')])) rfl rfl (hb hby at_233) _ ?_
    show Steps p.tables e below (T99.setTop (mkF m 234 #[vI p0, vI p1, vI p2, vI p3, vI j12_s0_5, vI v10, vI v13, vI v16, vR b17, vR b25, vI (1 : Int32)] [(.long t89_1), (.long c85')])) _
    refine XS.lcmp X99.here hx rfl (hb hby at_234) rfl ?_
    show Steps p.tables e below (T99.setTop (mkF m 235 #[vI p0, vI p1, vI p2, vI p3, vI j12_s0_5, vI v10, vI v13, vI v16, vR b17, vR b25, vI (1 : Int32)] [(.int (lcmpW c85' t89_1))])) _
    exact k)
  have cc103 : c85' = t89_1 := R3.2.1
  have pre104 : Go p.tables e below S0 T99 (mkF m 247 #[vI p0, vI p1, vI p2, vI p3, vI j12_s0_5, vI v10, vI v13, vI v16, vR b17, vR b25, vI (1 : Int32)] [(.int (1 : Int32))]) := fun t k => pre102 t (by
    refine XS.ifNo X99.here hx rfl (hb hby at_235) rfl ((if0 _ _).trans (teq ((lw_eq _ _).mpr cc103)).2) ?_
    show Steps p.tables e below (T99.setTop (mkF m 238 #[vI p0, vI p1, vI p2, vI p3, vI j12_s0_5, vI v10, vI v13, vI v16, vR b17, vR b25, vI (1 : Int32)] [])) _
    refine XS.iconst X99.here hx rfl (hb hby at_238) ?_
    show Steps p.tables e below (T99.setTop (mkF m 239 #[vI p0, vI p1, vI p2, vI p3, vI j12_s0_5, vI v10, vI v13, vI v16, vR b17, vR b25, vI (1 : Int32)] [(.int (1 : Int32))])) _
    refine XS.goto X99.here hx rfl (pc0 := 239) (pc' := 243) rfl (hb hby at_239) (by decide) (by decide) ?_
    show Steps p.tables e below (T99.setTop (mkF m 243 #[vI p0, vI p1, vI p2, vI p3, vI j12_s0_5, vI v10, vI v13, vI v16, vR b17, vR b25, vI (1 : Int32)] [(.int (1 : Int32))])) _
    refine XS.istore X99.here hx rfl (hb hby at_243) rfl (l' := #[vI p0, vI p1, vI p2, vI p3, vI j12_s0_5, vI v10, vI v13, vI v16, vR b17, vR b25, vI (1 : Int32)]) rfl ?_
    show Steps p.tables e below (T99.setTop (mkF m 245 #[vI p0, vI p1, vI p2, vI p3, vI j12_s0_5, vI v10, vI v13, vI v16, vR b17, vR b25, vI (1 : Int32)] [])) _
    refine XS.iload X99.here hx rfl (hb hby at_245) rfl ?_
    show Steps p.tables e below (T99.setTop (mkF m 247 #[vI p0, vI p1, vI p2, vI p3, vI j12_s0_5, vI v10, vI v13, vI v16, vR b17, vR b25, vI (1 : Int32)] [(.int (1 : Int32))])) _
    exact k)
  obtain ⟨fs, hr, hrun, hended, hW, hsame⟩ := X99.leave (v := some (.int (1 : Int32))) (fun h => by rw [Bd.returns] at h; cases h)
  exact ⟨_, _, pre104.fin hS0 (retN X99 hx (t := .boolean) Bd.returns (by simp) (hb hby at_247) hr), hrun, hended, _, _, rfl, (by
    show Q0 Z p0 p1 p2 p3 h0 n0 _ T99.heap _
    rw [eq99]
    exact ⟨rfl, N99⟩), ⟨_, rfl⟩, hW, hsame.mono (by decide) (by decide)⟩
set_option maxRecDepth 65536 in
set_option maxHeartbeats 40000000 in
theorem comes_1 {Post : Tables → Env → Array Value → State → Outcome → State → Prop} (hpost : ∀ tb e args s v u, (limb_1_1.after args s (.returned v) u = true ∧ limb_1_2.after args s (.returned v) u = true ∧ True) → FrameEnd s (.returned v) u (Jvm.fieldLocs frame_1_writes args s ++ Jvm.arrayLocs frame_1_arrays args s ++ Jvm.staticLocs frame_1_statics s) 16 128 → Post tb e args s (.returned v) u) :
    ArmFor flags0 classFile x code maxLocals ret World_1 tables_1 room_1 Calls_1 rest_1 Pre_1 Post := by
  intro l hfl _ _ p e ha hc hk s m args below hf hA hF happ hP
  obtain ⟨hcalls, hrest, hpre⟩ := hP
  obtain ⟨-, -, -, hnamed, -, -, -, hat⟩ := (Spec.applies_iff hf).mp happ
  obtain ⟨hg, hn⟩ := and_e (Cond.before_iff.mp (show (Jvm.Cond.and given_1 narrow_1).before args s = true from hpre))
  obtain ⟨g0, r0⟩ := and_e hg
  obtain ⟨g1, r1⟩ := and_e r0
  obtain ⟨g2, r2⟩ := and_e r1
  obtain ⟨g3, r3⟩ := and_e r2
  obtain ⟨w0, w1, w2, w3, rfl⟩ : ∃ w0 w1 w2 w3 : Value, args = #[w0, w1, w2, w3] := by
    have hs : args.size = 4 := by simpa [Cond.value, given_1] using g0
    obtain ⟨L⟩ := args
    match L, hs with
    | [w0, w1, w2, w3], _ => exact ⟨w0, w1, w2, w3, rfl⟩
  have hw := fun d (hd : d ∈ tables_1) => atoms_spec (ws := Jvm.Cond.code x code maxLocals ret :: tables_1) hat d (List.mem_cons_of_mem _ hd)
  obtain ⟨i0, ei0⟩ := is_v g1
  obtain rfl : w0 = (.int i0) := Option.some.inj ei0
  obtain ⟨i1, ei1⟩ := is_v g2
  obtain rfl : w1 = (.int i1) := Option.some.inj ei1
  obtain ⟨i2, ei2⟩ := is_v g3
  obtain rfl : w2 = (.int i2) := Option.some.inj ei2
  obtain ⟨i3, ei3⟩ := is_v r3
  obtain rfl : w3 = (.int i3) := Option.some.inj ei3
  obtain ⟨n, o, h1, h2, h3, _, L, rfl, ⟨rfl, N⟩, hq⟩ := rm0 l s _ hw tables_1 i0 i1 i2 i3  s.heap s.heap.size (Nat.le_refl _) p e ha hc hk s m _ below hf ((Spec.applies_iff_loose hf).mp happ).1 ⟨rfl, State.Warmed39.refl s, rfl⟩ trivial
  refine ⟨n, _, h1, h2, h3, hpost _ _ _ _ _ _ ⟨Cond.after_iff.mpr rfl, Cond.after_iff.mpr (eq_i res_at (Term.int_eval (1)) rfl), trivial⟩ ⟨hq.1, hq.2.1, (hq.2.2.sift fun y hy => Or.inr (N y hy)).mono (by decide) (by decide)⟩⟩
theorem main_1_1 : Claimed_1_1 := comes_1 fun _ _ _ _ _ _ h hF => ⟨h.1, hF⟩
theorem main_1_2 : Claimed_1_2 := comes_1 fun _ _ _ _ _ _ h hF => ⟨h.2.1, hF⟩
end Jvm.Pilot.@@N@@
namespace Jvm.Pilot.@@N@@
open Jvm Jvm.ClassFile Sem Op Lib Jvm.Free Jvm.Stand Jvm.Pilot.@@N@@.Jvm.D
/-! MADE BY PROGRAM (witnessworld.py) out of the Statement's table words and the real class files: 11 classes; the members and pool entries that the words name. The judged class is class 1, her method 1. -/
namespace start1
open Jvm.ClassFile
def u (s : String) : CpInfo := .utf8 (stringToUtf16 s)
/-- a pool by its gaps: so many unusable entries, then the entry; so many at the end -/
def gap : Nat → List CpInfo → List CpInfo
  | 0, r => r
  | n + 1, r => .unusable :: gap n r
def poolList (es : List (Nat × CpInfo)) (last : Nat) : List CpInfo := es.foldr (fun e r => gap e.1 (e.2 :: r)) (gap last [])
def pool (es : List (Nat × CpInfo)) (last : Nat) : Array CpInfo := ⟨poolList es last⟩
def fileOf (pool : Array CpInfo) (this : Nat) (attrs : Array Attribute := #[]) (ms : Array MethodInfo := #[]) (fl : Nat := 33) (sup : Nat := 0) (ifs : Array Nat := #[]) (fds : Array FieldInfo := #[]) : ClassFile where
  minorVersion := 0
  majorVersion := 65
  constantPool := pool
  accessFlags := fl
  thisClass := this
  superClass := sup
  interfaces := ifs
  fields := fds
  methods := ms
  attributes := attrs
def plain (name : String) (sup : Option ClassId) : Class where
  name := name
  kind := .ordinary
  loader := none
  accessFlags := 33
  super := sup
  interfaces := #[]
  cf := none
  fields := #[]
  methods := #[]
  instanceTypes := #[]
  staticTypes := #[]
  resolved := #[]
  callSites := []
  init := .initialized
  statics := none
  mirror := none

def pool0 : Array CpInfo := pool [(5, u "<init>"), (0, u "()V"), (1, .class_ 10), (1, u "java/lang/Object")] 113

def k0c0 : Code := { maxStack := 0, maxLocals := 1, code := object_method_1_code, exceptionTable := #[], attributes := #[] }
def k0m0 : Method := { name := "<init>", desc := "()V", sig := { parameters := [], returnType := none }, accessFlags := 1, code := some k0c0 }
/-- java/lang/Object -/
def k0 : Class := { plain "java/lang/Object" none with
  accessFlags := 33
  interfaces := #[]
  cf := some (fileOf pool0 8 #[] #[{ accessFlags := 1, nameIndex := 5, descriptorIndex := 6, attributes := #[] }] 33 0 #[] #[])
  fields := #[]
  methods := #[k0m0]
  instanceTypes := #[]
  staticTypes := #[]
  resolved := Array.replicate 124 none
  statics := none }

def pool1 : Array CpInfo := pool [(2, .class_ 4), (0, .nameAndType 5 6), (0, u "java/lang/Object"), (0, u "<init>"), (0, u "()V"), (0, .methodref 8 9), (0, .class_ 10), (0, .nameAndType 11 12), (0, u "com/example/ratatoskr/ratatoskr/xml/TextPositionAdvancePinLaw"), (0, u "pick"), (0, u "(II)I"), (0, .class_ 14), (0, u "com/example/ratatoskr/ratatoskr/xml/TextPosition"), (0, .methodref 13 3), (0, .methodref 8 17), (0, .nameAndType 18 19), (0, u "arg"), (0, u "(IZ)I"), (0, .methodref 13 21), (0, .nameAndType 22 23), (0, u "advance"), (0, u "(I)V"), (0, .methodref 8 25), (0, .nameAndType 26 27), (0, u "ref"), (0, u "([JI)V"), (0, .methodref 13 29), (0, .nameAndType 30 31), (0, u "line"), (0, u "()J"), (0, .methodref 13 33), (0, .nameAndType 34 31), (0, u "column"), (2, u "law"), (0, u "(IIII)Z")] 5

def k1m0 : Method := { name := "<init>", desc := "()V", sig := { parameters := [], returnType := none }, accessFlags := 1, code := none }
def k1c1 : Code := { maxStack := 5, maxLocals := 11, code := code, exceptionTable := #[], attributes := #[] }
def k1m1 : Method := { name := "law", desc := "(IIII)Z", sig := { parameters := [.int, .int, .int, .int], returnType := some .boolean }, accessFlags := 9, code := some k1c1 }
def k1c2 : Code := { maxStack := 2, maxLocals := 2, code := method_3_code, exceptionTable := #[], attributes := #[] }
def k1m2 : Method := { name := "pick", desc := "(II)I", sig := { parameters := [.int, .int], returnType := some .int }, accessFlags := 10, code := some k1c2 }
def k1c3 : Code := { maxStack := 1, maxLocals := 2, code := method_4_code, exceptionTable := #[], attributes := #[] }
def k1m3 : Method := { name := "arg", desc := "(IZ)I", sig := { parameters := [.int, .boolean], returnType := some .int }, accessFlags := 10, code := some k1c3 }
def k1c4 : Code := { maxStack := 6, maxLocals := 2, code := method_5_code, exceptionTable := #[], attributes := #[] }
def k1m4 : Method := { name := "ref", desc := "([JI)V", sig := { parameters := [(.array .long), .int], returnType := none }, accessFlags := 10, code := some k1c4 }
/-- com/example/ratatoskr/ratatoskr/xml/TextPositionAdvancePinLaw -/
def k1 : Class := { plain "com/example/ratatoskr/ratatoskr/xml/TextPositionAdvancePinLaw" (some 0) with
  accessFlags := 49
  interfaces := #[]
  cf := some (fileOf pool1 8 #[] #[{ accessFlags := 1, nameIndex := 5, descriptorIndex := 6, attributes := #[] }, { accessFlags := 9, nameIndex := 37, descriptorIndex := 38, attributes := #[] }, { accessFlags := 10, nameIndex := 11, descriptorIndex := 12, attributes := #[] }, { accessFlags := 10, nameIndex := 18, descriptorIndex := 19, attributes := #[] }, { accessFlags := 10, nameIndex := 26, descriptorIndex := 27, attributes := #[] }] 49 2 #[] #[])
  fields := #[]
  methods := #[k1m0, k1m1, k1m2, k1m3, k1m4]
  instanceTypes := #[]
  staticTypes := #[]
  resolved := Array.replicate 44 none
  statics := none }

def pool2 : Array CpInfo := pool [(1, .methodref 2 3), (0, .class_ 4), (0, .nameAndType 5 6), (0, u "java/lang/Object"), (0, u "<init>"), (0, u "()V"), (0, .fieldref 8 9), (0, .class_ 10), (0, .nameAndType 11 12), (0, u "com/example/ratatoskr/ratatoskr/xml/TextPosition"), (0, u "line"), (0, u "J"), (0, .fieldref 8 14), (0, .nameAndType 15 12), (0, u "column"), (0, .fieldref 8 17), (0, .nameAndType 18 19), (0, u "afterReturn"), (0, u "Z"), (2, u "advance"), (0, u "(I)V"), (12, u "()J")] 18

def k2c0 : Code := { maxStack := 3, maxLocals := 1, code := prog_115_method_1_code, exceptionTable := #[], attributes := #[] }
def k2m0 : Method := { name := "<init>", desc := "()V", sig := { parameters := [], returnType := none }, accessFlags := 0, code := some k2c0 }
def k2c1 : Code := { maxStack := 5, maxLocals := 2, code := prog_115_method_3_code, exceptionTable := #[], attributes := #[] }
def k2m1 : Method := { name := "advance", desc := "(I)V", sig := { parameters := [.int], returnType := none }, accessFlags := 0, code := some k2c1 }
def k2c2 : Code := { maxStack := 2, maxLocals := 1, code := prog_115_method_5_code, exceptionTable := #[], attributes := #[] }
def k2m2 : Method := { name := "line", desc := "()J", sig := { parameters := [], returnType := some .long }, accessFlags := 0, code := some k2c2 }
def k2c3 : Code := { maxStack := 2, maxLocals := 1, code := prog_115_method_6_code, exceptionTable := #[], attributes := #[] }
def k2m3 : Method := { name := "column", desc := "()J", sig := { parameters := [], returnType := some .long }, accessFlags := 0, code := some k2c3 }
/-- com/example/ratatoskr/ratatoskr/xml/TextPosition -/
def k2 : Class := { plain "com/example/ratatoskr/ratatoskr/xml/TextPosition" (some 0) with
  accessFlags := 32
  interfaces := #[]
  cf := some (fileOf pool2 8 #[] #[{ accessFlags := 0, nameIndex := 5, descriptorIndex := 6, attributes := #[] }, { accessFlags := 0, nameIndex := 22, descriptorIndex := 23, attributes := #[] }, { accessFlags := 0, nameIndex := 11, descriptorIndex := 36, attributes := #[] }, { accessFlags := 0, nameIndex := 15, descriptorIndex := 36, attributes := #[] }] 32 2 #[] #[{ accessFlags := 2, nameIndex := 11, descriptorIndex := 12, attributes := #[] }, { accessFlags := 2, nameIndex := 15, descriptorIndex := 12, attributes := #[] }, { accessFlags := 2, nameIndex := 18, descriptorIndex := 19, attributes := #[] }])
  fields := #[{ name := "line", type := .long, accessFlags := 2, slot := 0, constantValue := 0 }, { name := "column", type := .long, accessFlags := 2, slot := 1, constantValue := 0 }, { name := "afterReturn", type := .boolean, accessFlags := 2, slot := 2, constantValue := 0 }]
  methods := #[k2m0, k2m1, k2m2, k2m3]
  instanceTypes := #[.long, .long, .boolean]
  staticTypes := #[]
  resolved := Array.replicate 55 none
  statics := none }

def pool3 : Array CpInfo := pool [(1, u "java/lang/Cloneable"), (0, .class_ 1), (0, u "java/lang/Object"), (0, .class_ 3)] 3

/-- java/lang/Cloneable -/
def k3 : Class := { plain "java/lang/Cloneable" (some 0) with
  accessFlags := 1537
  interfaces := #[]
  cf := some (fileOf pool3 2 #[] #[] 1537 4 #[] #[])
  fields := #[]
  methods := #[]
  instanceTypes := #[]
  staticTypes := #[]
  resolved := Array.replicate 8 none
  statics := none }

def pool4 : Array CpInfo := pool [(1, u "java/io/Serializable"), (0, .class_ 1), (0, u "java/lang/Object"), (0, .class_ 3)] 3

/-- java/io/Serializable -/
def k4 : Class := { plain "java/io/Serializable" (some 0) with
  accessFlags := 1537
  interfaces := #[]
  cf := some (fileOf pool4 2 #[] #[] 1537 4 #[] #[])
  fields := #[]
  methods := #[]
  instanceTypes := #[]
  staticTypes := #[]
  resolved := Array.replicate 8 none
  statics := none }

/-- the primitive byte -/
def k5 : Class := { plain "byte" none with kind := .primitive 'B', accessFlags := 0x411 }
/-- [B -/
def k6 : Class := { plain "[B" (some 0) with kind := .array 5 .byte, interfaces := #[3, 4], accessFlags := 1041 }

/-- the primitive int -/
def k7 : Class := { plain "int" none with kind := .primitive 'I', accessFlags := 0x411 }
/-- [I -/
def k8 : Class := { plain "[I" (some 0) with kind := .array 7 .int, interfaces := #[3, 4], accessFlags := 1041 }

/-- the primitive long -/
def k9 : Class := { plain "long" none with kind := .primitive 'J', accessFlags := 0x411 }
/-- [J -/
def k10 : Class := { plain "[J" (some 0) with kind := .array 9 .long, interfaces := #[3, 4], accessFlags := 1041 }

def heap : Heap := #[]
def classes : Array Class := #[k0, k1, k2, k3, k4, k5, k6, k7, k8, k9, k10]
def interned : List (Array UInt16 × Addr) := []
def slotsUsed : Nat := 0
def theMethod : MethodId := ⟨1, 1⟩
def args0 : Array Value := #[.int 5, .int 6, .int 7, .int 8]
def aboutOver (below : List Frame) : State where
  vm := { classes := classes, interned := interned.toArray }
  heap := heap
  slotsUsed := slotsUsed
  threads := #[{ frames := .invoking theMethod args0 :: below }]
def below0 : List Frame := [.native { method := ⟨0, 0⟩, args := #[] }]
def about1 : State := aboutOver below0
def p0 : Program := .bare "" "" ""
def e0 : Env := launch0.env 0 0 0
theorem w_frames : about1.frames = Frame.invoking theMethod args0 :: below0 := rfl
set_option maxRecDepth 65536 in
theorem w_args : argsFit about1.vm theMethod args0 = true := by decide +kernel
set_option maxRecDepth 65536 in
theorem w_heap : heapFits about1 = true := by decide +kernel
set_option maxRecDepth 65536 in
theorem w_runnable : about1.curStatus? = some .runnable := by decide +kernel
set_option maxRecDepth 65536 in
theorem w_alone : about1.alone = true := by decide +kernel
set_option maxRecDepth 65536 in
theorem w_named : about1.methodNamed? x = some theMethod := by decide +kernel
set_option maxRecDepth 65536 in
theorem w_hears : about1.hears theMethod below0 = true := by decide +kernel
set_option maxRecDepth 65536 in
theorem w_ripe : about1.ripe theMethod args0 below0 = true := by decide +kernel
theorem w_running : about1.status = .running := rfl
set_option maxRecDepth 65536 in
theorem w_room : about1.hasRoom e0.platform room_1 = true :=
  launch0.hasRoom_least _ room_1 (by decide +kernel) (by decide +kernel) (by decide +kernel) (by decide +kernel) (by decide +kernel) (by decide +kernel)
theorem allAtoms_all (ts : List Jvm.Cond) (a : Array Jvm.Value) (st : Jvm.State) : (allAtoms ts).before a st = ts.all (fun c => c.before a st) := by
  induction ts with
  | nil => rfl
  | cons c t ih =>
    show (Jvm.Cond.and c (allAtoms t)).before a st = _
    rw [Jvm.Cond.before_and, ih, List.all_cons]
def words1 : List Jvm.Cond := Jvm.Cond.code x code maxLocals ret :: tables_1
/-- a 'code' word, met by the world's own term for the bytes: nothing is compared byte by byte -/
theorem code_word {y : MethodName} {bytes : ByteArray} {mx : Nat} {rt : Option FieldType} {a : Array Value} {s : State} {m : MethodId} {meth : Method} {c : Code} (h1 : s.methodNamed? y = some m) (h2 : s.vm.method? m = some meth) (h3 : meth.code = some c) (h4 : c.code = bytes)
    (h5 : (c.maxLocals == mx && c.exceptionTable.isEmpty && decide (c.maxStack ≤ mostOperands) && decide (meth.sig.returnType = rt) && !meth.locks && decide (parseMethodDescriptor y.desc = some meth.sig)) = true) : (Jvm.Cond.code y bytes mx rt).before a s = true := by
  simp only [Bool.and_eq_true, beq_iff_eq, Bool.not_eq_true', decide_eq_true_eq] at h5
  obtain ⟨⟨⟨⟨⟨g1, g2⟩, g3⟩, g4⟩, g5⟩, g6⟩ := h5
  simp [Cond.before, Cond.holds, Cond.value, h1, h2, h3, h4, g1, g2, g3, g4, g5, g6]
def isCode : Jvm.Cond → Bool
  | .code _ _ _ _ => true
  | _ => false
theorem all_split {L : List Jvm.Cond} {P : Jvm.Cond → Bool} (h1 : L.all (fun c => isCode c || P c) = true) (h2 : ∀ c ∈ L.filter isCode, P c = true) : L.all P = true := by
  refine List.all_eq_true.mpr fun c hc => ?_
  have h := List.all_eq_true.mp h1 c hc
  rcases Bool.eq_false_or_eq_true (isCode c) with hi | hi
  · exact h2 c (List.mem_filter.mpr ⟨hc, hi⟩)
  · simpa [hi] using h
set_option maxRecDepth 65536 in
theorem w_c0 : (Jvm.Cond.code x code maxLocals ret).before args0 about1 = true := code_word (m := ⟨1, 1⟩) (meth := k1m1) (c := k1c1) (by decide +kernel) rfl rfl rfl (by decide +kernel)
set_option maxRecDepth 65536 in
theorem w_c1 : (Jvm.Cond.code ({ cls := "com/example/ratatoskr/ratatoskr/xml/TextPositionAdvancePinLaw", name := "pick", desc := "(II)I" } : Jvm.MethodName) method_3_code (2 : Nat) (Option.some Jvm.ClassFile.FieldType.int)).before args0 about1 = true := code_word (m := ⟨1, 2⟩) (meth := k1m2) (c := k1c2) (by decide +kernel) rfl rfl rfl (by decide +kernel)
set_option maxRecDepth 65536 in
theorem w_c2 : (Jvm.Cond.code ({ cls := "com/example/ratatoskr/ratatoskr/xml/TextPosition", name := "<init>", desc := "()V" } : Jvm.MethodName) prog_115_method_1_code (1 : Nat) (Option.none : Option Jvm.ClassFile.FieldType)).before args0 about1 = true := code_word (m := ⟨2, 0⟩) (meth := k2m0) (c := k2c0) (by decide +kernel) rfl rfl rfl (by decide +kernel)
set_option maxRecDepth 65536 in
theorem w_c3 : (Jvm.Cond.code ({ cls := "java/lang/Object", name := "<init>", desc := "()V" } : Jvm.MethodName) object_method_1_code (1 : Nat) (Option.none : Option Jvm.ClassFile.FieldType)).before args0 about1 = true := code_word (m := ⟨0, 0⟩) (meth := k0m0) (c := k0c0) (by decide +kernel) rfl rfl rfl (by decide +kernel)
set_option maxRecDepth 65536 in
theorem w_c4 : (Jvm.Cond.code ({ cls := "com/example/ratatoskr/ratatoskr/xml/TextPositionAdvancePinLaw", name := "arg", desc := "(IZ)I" } : Jvm.MethodName) method_4_code (2 : Nat) (Option.some Jvm.ClassFile.FieldType.int)).before args0 about1 = true := code_word (m := ⟨1, 3⟩) (meth := k1m3) (c := k1c3) (by decide +kernel) rfl rfl rfl (by decide +kernel)
set_option maxRecDepth 65536 in
theorem w_c5 : (Jvm.Cond.code ({ cls := "com/example/ratatoskr/ratatoskr/xml/TextPosition", name := "advance", desc := "(I)V" } : Jvm.MethodName) prog_115_method_3_code (2 : Nat) (Option.none : Option Jvm.ClassFile.FieldType)).before args0 about1 = true := code_word (m := ⟨2, 1⟩) (meth := k2m1) (c := k2c1) (by decide +kernel) rfl rfl rfl (by decide +kernel)
set_option maxRecDepth 65536 in
theorem w_c6 : (Jvm.Cond.code ({ cls := "com/example/ratatoskr/ratatoskr/xml/TextPositionAdvancePinLaw", name := "ref", desc := "([JI)V" } : Jvm.MethodName) method_5_code (2 : Nat) (Option.none : Option Jvm.ClassFile.FieldType)).before args0 about1 = true := code_word (m := ⟨1, 4⟩) (meth := k1m4) (c := k1c4) (by decide +kernel) rfl rfl rfl (by decide +kernel)
set_option maxRecDepth 65536 in
theorem w_c7 : (Jvm.Cond.code ({ cls := "com/example/ratatoskr/ratatoskr/xml/TextPosition", name := "line", desc := "()J" } : Jvm.MethodName) prog_115_method_5_code (1 : Nat) (Option.some Jvm.ClassFile.FieldType.long)).before args0 about1 = true := code_word (m := ⟨2, 2⟩) (meth := k2m2) (c := k2c2) (by decide +kernel) rfl rfl rfl (by decide +kernel)
set_option maxRecDepth 65536 in
theorem w_c8 : (Jvm.Cond.code ({ cls := "com/example/ratatoskr/ratatoskr/xml/TextPosition", name := "column", desc := "()J" } : Jvm.MethodName) prog_115_method_6_code (1 : Nat) (Option.some Jvm.ClassFile.FieldType.long)).before args0 about1 = true := code_word (m := ⟨2, 3⟩) (meth := k2m3) (c := k2c3) (by decide +kernel) rfl rfl rfl (by decide +kernel)
def codes1 : List Jvm.Cond := [Jvm.Cond.code x code maxLocals ret, Jvm.Cond.code ({ cls := "com/example/ratatoskr/ratatoskr/xml/TextPositionAdvancePinLaw", name := "pick", desc := "(II)I" } : Jvm.MethodName) method_3_code (2 : Nat) (Option.some Jvm.ClassFile.FieldType.int), Jvm.Cond.code ({ cls := "com/example/ratatoskr/ratatoskr/xml/TextPosition", name := "<init>", desc := "()V" } : Jvm.MethodName) prog_115_method_1_code (1 : Nat) (Option.none : Option Jvm.ClassFile.FieldType), Jvm.Cond.code ({ cls := "java/lang/Object", name := "<init>", desc := "()V" } : Jvm.MethodName) object_method_1_code (1 : Nat) (Option.none : Option Jvm.ClassFile.FieldType), Jvm.Cond.code ({ cls := "com/example/ratatoskr/ratatoskr/xml/TextPositionAdvancePinLaw", name := "arg", desc := "(IZ)I" } : Jvm.MethodName) method_4_code (2 : Nat) (Option.some Jvm.ClassFile.FieldType.int), Jvm.Cond.code ({ cls := "com/example/ratatoskr/ratatoskr/xml/TextPosition", name := "advance", desc := "(I)V" } : Jvm.MethodName) prog_115_method_3_code (2 : Nat) (Option.none : Option Jvm.ClassFile.FieldType), Jvm.Cond.code ({ cls := "com/example/ratatoskr/ratatoskr/xml/TextPositionAdvancePinLaw", name := "ref", desc := "([JI)V" } : Jvm.MethodName) method_5_code (2 : Nat) (Option.none : Option Jvm.ClassFile.FieldType), Jvm.Cond.code ({ cls := "com/example/ratatoskr/ratatoskr/xml/TextPosition", name := "line", desc := "()J" } : Jvm.MethodName) prog_115_method_5_code (1 : Nat) (Option.some Jvm.ClassFile.FieldType.long), Jvm.Cond.code ({ cls := "com/example/ratatoskr/ratatoskr/xml/TextPosition", name := "column", desc := "()J" } : Jvm.MethodName) prog_115_method_6_code (1 : Nat) (Option.some Jvm.ClassFile.FieldType.long)]
set_option maxRecDepth 65536 in
theorem codes_eq : words1.filter isCode = codes1 := rfl
theorem w_codes : ∀ c ∈ words1.filter isCode, c.before args0 about1 = true := by
  rw [codes_eq]
  intro c hc
  simp only [codes1, List.mem_cons, List.not_mem_nil, or_false] at hc
  rcases hc with rfl | rfl | rfl | rfl | rfl | rfl | rfl | rfl | rfl
  · exact w_c0
  · exact w_c1
  · exact w_c2
  · exact w_c3
  · exact w_c4
  · exact w_c5
  · exact w_c6
  · exact w_c7
  · exact w_c8
set_option maxRecDepth 65536 in
theorem w_t1 : (words1.take 24).all (fun c => isCode c || c.before args0 about1) = true := by decide +kernel
set_option maxRecDepth 65536 in
theorem w_t2 : (words1.drop 24).all (fun c => isCode c || c.before args0 about1) = true := by decide +kernel
theorem w_tables : (allAtoms (Jvm.Cond.code x code maxLocals ret :: tables_1)).before args0 about1 = true := by
  rw [allAtoms_all]
  show words1.all (fun c => c.before args0 about1) = true
  refine all_split ?_ w_codes
  rw [← List.take_append_drop 24 words1, List.all_append, w_t1, w_t2]
  rfl
set_option maxRecDepth 65536 in
theorem w_case : (Jvm.Cond.and given_1 narrow_1).before args0 about1 = true := by decide +kernel
theorem w_applies : (headSpec (Jvm.Cond.code x code maxLocals ret :: tables_1) room_1).applies x e0.platform about1 = true :=
  (Spec.applies_iff w_frames).mpr ⟨w_running, w_runnable, w_alone, w_named, w_hears, w_ripe, w_room, w_tables⟩
theorem atStart : AtStart classFile x code maxLocals ret World_1 tables_1 room_1 Calls_1 rest_1 Pre_1 launch0 p0 e0 about1 theMethod args0 below0 :=
  ⟨lists_1, trivial, launch0.admits_env _ _ _, launch0.least_env, fairChoices_fair.cas, fairChoices_fair.clock, w_frames, w_args, w_heap, w_applies, trivial, trivial, w_case⟩
end start1
theorem witness_1 : WitnessClaimed_1 := ⟨start1.p0, start1.e0, start1.about1, start1.theMethod, start1.args0, start1.below0, start1.atStart⟩
end Jvm.Pilot.@@N@@
