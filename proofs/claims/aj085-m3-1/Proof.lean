import JvmDerived
import JvmDerived.Pilot.@@N@@Statement
import JvmDerived.Pilot.@@N@@Code
set_option linter.unusedVariables false
set_option linter.unusedSimpArgs false
namespace Jvm.RoadKit
open Sem ClassFile Op Lib Jvm.Stand Jvm.Free Jvm.LawKit
abbrev vI (x : Int32) : Slot := .val (.int x)
abbrev vJ (x : Int64) : Slot := .val (.long x)
abbrev vR (a : Addr) : Slot := .val (.ref a)
/-- from S0 the run comes to T with g on top -/
def Go (tb : Tables) (e : Env) (below : List Frame) (S0 T : State) (g : JFrame) : Prop := ∀ t, Steps tb e below (T.setTop g) t → Steps tb e below S0 t
theorem Go.fin {tb : Tables} {e : Env} {below : List Frame} {S0 S T t : State} {g : JFrame} (h : Go tb e below S0 T g) (q : S0 = S) (k : Steps tb e below (T.setTop g) t) : Steps tb e below S t := q ▸ h t k
section New
variable {p : Program} {l : Launch} {e : Env} {R : Room} {s : State} {m : MethodId} {args : Array Value} {below : List Frame} {meth : Method} {c : Code} {T : State} {locs : List Loc} {cells slots : Nat}
theorem retI (X : Stand p l e R s m args below meth c T locs cells slots) (hx : p.tables.exec = Jvm.exec) {pc : Nat} {Ls : Array Slot} {z : Int32} {rest : List Value} (hret : meth.sig.returnType = some .int) (hd : decode c.code pc = .ok (.ireturn, 1)) {fs : List Frame}
    (hl : ∀ (f : JFrame) (acts : List Action), f.method = m → f.locked = none → f.entered = [] → (doReturn e (T.setTop f) acts (some (.int z))).1 = T.setFrames fs) : Steps p.tables e below (T.setTop (mkF m pc Ls (.int z :: rest))) (T.setFrames fs) := by
  have hm' : T.vm.method? m = some meth := X.method'
  have hn : narrow .int (.int z) = .int z := rfl
  show Steps p.tables e below (T.setTop { method := m, pc := pc, locals := Ls, stack := _ :: rest, locked := none }) _
  jvm_step X.here [X.here.top, hx, hd, hm', hret, hn]
  first | (intro acts; rw [hl _ acts rfl rfl rfl]) | rw [hl _ _ rfl rfl rfl]
  exact Steps.refl _
theorem lremM {g : JFrame} {target : State} (X : Stand p l e R s m args below meth c T locs cells slots) (hx : p.tables.exec = Jvm.exec) (hg : g.method = m) {x y : Int64} {rest : List Value} (hd : decode c.code g.pc = .ok (.lrem, 1)) (hs : g.stack = .long y :: .long x :: rest) (hy : y ≠ 0)
    (hr : Steps p.tables e below (T.setTop { g with pc := g.pc + 1, stack := .long (x % y) :: rest }) target) : Steps p.tables e below (T.setTop g) target := by
  have q : x - x / y * y = x % y := lrem_mod x y
  exact XS.lrem X.here hx hg hd hs hy (by rw [q]; exact hr)
end New
end Jvm.RoadKit
namespace Jvm.Pilot.@@N@@
open Jvm Jvm.ClassFile Sem Op Lib Jvm.Free Jvm.Stand Jvm.LawKit Jvm.RoadKit Bundle Jvm.Pilot.@@N@@.Jvm.D
def own_max (p0 : Int32) (p1 : Int32) : Int32 := if p0 < p1 then (p1) else (p0)
theorem ef_1 (m : MethodId) (x0 : Int32) (x1 : Int32) : entryFrame m #[(.int x0), (.int x1)] 2 = mkF m 0 #[.val (.int x0), .val (.int x1)] [] := by first | (simp [entryFrame, mkF, argsToLocals, Value.category]; done) | rfl
theorem d1_0 : decode jdk_29_method_65_code 0 = .ok (.iload_n 0, 1) := by decide +kernel
theorem d1_1 : decode jdk_29_method_65_code 1 = .ok (.iload_n 1, 1) := by decide +kernel
theorem d1_2 : decode jdk_29_method_65_code 2 = .ok (.if_icmp .lt 7, 3) := by decide +kernel
theorem d1_5 : decode jdk_29_method_65_code 5 = .ok (.iload_n 0, 1) := by decide +kernel
theorem d1_6 : decode jdk_29_method_65_code 6 = .ok (.goto 4, 3) := by decide +kernel
theorem d1_9 : decode jdk_29_method_65_code 9 = .ok (.iload_n 1, 1) := by decide +kernel
theorem d1_10 : decode jdk_29_method_65_code 10 = .ok (.ireturn, 1) := by decide +kernel
def Q1 (Z : State) (p0 : Int32) (p1 : Int32) (h0 : Heap) (n0 : Nat) (v : Option Value) (h : Heap) (L : List Loc) : Prop := v = some (.int (own_max p0 p1)) ∧ Fr n0 L ∧ h = h0
set_option maxRecDepth 65536 in
set_option maxHeartbeats 40000000 in
theorem rm1 (l : Launch) (Z : State) (A0 : Array Value) (hw : ∀ d ∈ tables_1, d.before A0 Z = true) (ws : List Jvm.Cond) (p0 : Int32) (p1 : Int32)  (h0 : Heap) (n0 : Nat) (Z0 : n0 ≤ h0.size)  :
    MetFree l (⟨"java/lang/Math", "max", "(II)I"⟩ : MethodName) (head1 (Jvm.Cond.code (⟨"java/lang/Math", "max", "(II)I"⟩ : MethodName) jdk_29_method_65_code 2 (some .int) :: ws) ({ frames := 0, cells := 0, slots := 0, locals := 0 } : Room)) (fun a U => a = #[(.int p0), (.int p1)] ∧ Z.Warmed39 U.vm ∧ U.heap = h0) (fun _ _ _ _ _ => True) (fun _ U o U' => ∃ v L, o = .returned v ∧ Q1 Z p0 p1 h0 n0 v U'.heap L ∧ FrameEnd U o U' L ({ frames := 0, cells := 0, slots := 0, locals := 0 } : Room).cells ({ frames := 0, cells := 0, slots := 0, locals := 0 } : Room).slots) := by
  refine MetFree.of_bodySF (Jvm.Free.JP.mathPlain rfl (by decide +kernel)) hisR ?_
  intro p e s m args below meth c s₁ Bd hml0 hP hK
  obtain ⟨rfl, hZ, hh⟩ := hP
  have hx := Bd.exec
  have hby := Bd.bytes
  have hml : c.maxLocals = 2 := hml0
  have hown : s.vm.findClass "java/lang/Math" = some m.cls := findClass_of_methodNamed Bd.named
  have hnm := (name_of_methodNamed Bd.named Bd.method).1
  have X0 : Stand p l e ({ frames := 0, cells := 0, slots := 0, locals := 0 } : Room) s m #[(.int p0), (.int p1)] below meth c s₁ [] 0 0 := Stand.of_body Bd
  have e0 : s₁.heap = h0 := by rw [← hh, Bd.state]; rfl
  have N0 := Fr.nil n0
  obtain ⟨S0, hS0⟩ : ∃ z, z = s₁.setTop (entryFrame m #[(.int p0), (.int p1)] 2) := ⟨_, rfl⟩
  have pre0 : Go p.tables e below S0 s₁ (mkF m 0 #[vI p0, vI p1] []) := fun t k => by rw [hS0]; exact castTop (ef_1 m p0 p1) k
  have pre1 : Go p.tables e below S0 s₁ (mkF m 2 #[vI p0, vI p1] [(.int p1), (.int p0)]) := fun t k => pre0 t (by
    refine XS.iloadN X0.here hx rfl (hb hby d1_0) rfl ?_
    show Steps p.tables e below (s₁.setTop (mkF m 1 #[vI p0, vI p1] [(.int p0)])) _
    refine XS.iloadN X0.here hx rfl (hb hby d1_1) rfl ?_
    show Steps p.tables e below (s₁.setTop (mkF m 2 #[vI p0, vI p1] [(.int p1), (.int p0)])) _
    exact k)
  by_cases c2_2 : p0 < p1
  · skip
    have pre3 : Go p.tables e below S0 s₁ (mkF m 10 #[vI p0, vI p1] [(.int p1)]) := fun t k => pre1 t (by
      refine XS.icmpYes X0.here hx rfl (pc0 := 2) (pc' := 9) rfl (hb hby d1_2) rfl (tlt c2_2).1 (by decide) (by decide) ?_
      show Steps p.tables e below (s₁.setTop (mkF m 9 #[vI p0, vI p1] [])) _
      refine XS.iloadN X0.here hx rfl (hb hby d1_9) rfl ?_
      show Steps p.tables e below (s₁.setTop (mkF m 10 #[vI p0, vI p1] [(.int p1)])) _
      exact k)
    obtain ⟨fs, hr, hrun, hended, hW, hsame⟩ := X0.leave (v := some (.int p1)) (fun h => by rw [Bd.returns] at h; cases h)
    exact ⟨_, _, pre3.fin hS0 (retI X0 hx Bd.returns (hb hby d1_10) hr), hrun, hended, _, _, rfl, (by
      show Q1 Z p0 p1 h0 n0 _ s₁.heap _
      rw [e0]
      exact ⟨congrArg (fun z => some (Value.int z)) (by simp [own_max, c2_2]), N0, rfl⟩), ⟨_, rfl⟩, hW, hsame.mono (by decide) (by decide)⟩
  · skip
    have pre4 : Go p.tables e below S0 s₁ (mkF m 10 #[vI p0, vI p1] [(.int p0)]) := fun t k => pre1 t (by
      refine XS.icmpNo X0.here hx rfl (hb hby d1_2) rfl (flt c2_2).1 ?_
      show Steps p.tables e below (s₁.setTop (mkF m 5 #[vI p0, vI p1] [])) _
      refine XS.iloadN X0.here hx rfl (hb hby d1_5) rfl ?_
      show Steps p.tables e below (s₁.setTop (mkF m 6 #[vI p0, vI p1] [(.int p0)])) _
      refine XS.goto X0.here hx rfl (pc0 := 6) (pc' := 10) rfl (hb hby d1_6) (by decide) (by decide) ?_
      show Steps p.tables e below (s₁.setTop (mkF m 10 #[vI p0, vI p1] [(.int p0)])) _
      exact k)
    obtain ⟨fs, hr, hrun, hended, hW, hsame⟩ := X0.leave (v := some (.int p0)) (fun h => by rw [Bd.returns] at h; cases h)
    exact ⟨_, _, pre4.fin hS0 (retI X0 hx Bd.returns (hb hby d1_10) hr), hrun, hended, _, _, rfl, (by
      show Q1 Z p0 p1 h0 n0 _ s₁.heap _
      rw [e0]
      exact ⟨congrArg (fun z => some (Value.int z)) (by simp [own_max, c2_2]), N0, rfl⟩), ⟨_, rfl⟩, hW, hsame.mono (by decide) (by decide)⟩
theorem ef_2 (m : MethodId) (x0 : Addr) (x1 : Int32) : entryFrame m #[(.ref x0), (.int x1)] 2 = mkF m 0 #[.val (.ref x0), .val (.int x1)] [] := by first | (simp [entryFrame, mkF, argsToLocals, Value.category]; done) | rfl
theorem pn_0 : plainName "com/example/tariff_riders/tariffriders/TermLength" = true := by first | (simp [plainName, overriddenIn]; done) | decide +kernel
theorem d2_0 : decode prog_39_method_1_code 0 = .ok (.aload_n 0, 1) := by decide +kernel
theorem d2_1 : decode prog_39_method_1_code 1 = .ok (.invokespecial 1, 3) := by decide +kernel
theorem d2_4 : decode prog_39_method_1_code 4 = .ok (.aload_n 0, 1) := by decide +kernel
theorem d2_5 : decode prog_39_method_1_code 5 = .ok (.iload_n 1, 1) := by decide +kernel
theorem d2_6 : decode prog_39_method_1_code 6 = .ok (.putfield 7, 3) := by decide +kernel
theorem d2_9 : decode prog_39_method_1_code 9 = .ok (.return_, 1) := by decide +kernel
def Q2 (Z : State) (a0 : Addr) (p1 : Int32) (h0 : Heap) (n0 : Nat) (v : Option Value) (h : Heap) (L : List Loc) : Prop := v = none ∧ Fr n0 L ∧ Keep h0 h [a0] ∧ (Exa Z h a0 "com/example/tariff_riders/tariffriders/TermLength") ∧ (Fld Z h a0 "com/example/tariff_riders/tariffriders/TermLength" "length" "I" (.int p1))
set_option maxRecDepth 65536 in
set_option maxHeartbeats 40000000 in
theorem rm2 (l : Launch) (Z : State) (A0 : Array Value) (hw : ∀ d ∈ tables_1, d.before A0 Z = true) (ws : List Jvm.Cond) (a0 : Addr) (p1 : Int32)  (h0 : Heap) (n0 : Nat) (Z0 : n0 ≤ h0.size) (E0 : Exa Z h0 a0 "com/example/tariff_riders/tariffriders/TermLength") (F_length : Fld Z h0 a0 "com/example/tariff_riders/tariffriders/TermLength" "length" "I" (.int (0 : Int32))) (g0 : n0 ≤ a0) :
    MetFree l (⟨"com/example/tariff_riders/tariffriders/TermLength", "<init>", "(I)V"⟩ : MethodName) (head1 (Jvm.Cond.code (⟨"com/example/tariff_riders/tariffriders/TermLength", "<init>", "(I)V"⟩ : MethodName) prog_39_method_1_code 2 none :: ws) ({ frames := 1, cells := 0, slots := 0, locals := 12 } : Room)) (fun a U => a = #[(.ref a0), (.int p1)] ∧ Z.Warmed39 U.vm ∧ U.heap = h0) (fun _ _ _ _ _ => True) (fun _ U o U' => ∃ v L, o = .returned v ∧ Q2 Z a0 p1 h0 n0 v U'.heap L ∧ FrameEnd U o U' L ({ frames := 1, cells := 0, slots := 0, locals := 12 } : Room).cells ({ frames := 1, cells := 0, slots := 0, locals := 12 } : Room).slots) := by
  refine MetFree.of_bodySF (plainFor_of_name pn_0) hisR ?_
  intro p e s m args below meth c s₁ Bd hml0 hP hK
  obtain ⟨rfl, hZ, hh⟩ := hP
  have hx := Bd.exec
  have hby := Bd.bytes
  have hml : c.maxLocals = 2 := hml0
  have hown : s.vm.findClass "com/example/tariff_riders/tariffriders/TermLength" = some m.cls := findClass_of_methodNamed Bd.named
  have hnm := (name_of_methodNamed Bd.named Bd.method).1
  have X0 : Stand p l e ({ frames := 1, cells := 0, slots := 0, locals := 12 } : Room) s m #[(.ref a0), (.int p1)] below meth c s₁ [] 0 0 := Stand.of_body Bd
  have e0 : s₁.heap = h0 := by rw [← hh, Bd.state]; rfl
  have N0 := Fr.nil n0
  have kp0 : Keep h0 h0 [a0] := Keep.refl _ _
  obtain ⟨S0, hS0⟩ : ∃ z, z = s₁.setTop (entryFrame m #[(.ref a0), (.int p1)] 2) := ⟨_, rfl⟩
  have pre0 : Go p.tables e below S0 s₁ (mkF m 0 #[vR a0, vI p1] []) := fun t k => by rw [hS0]; exact castTop (ef_2 m a0 p1) k
  have pre1 : Go p.tables e below S0 s₁ (mkF m 1 #[vR a0, vI p1] [(.ref a0)]) := fun t k => pre0 t (by
    refine XS.aloadN X0.here hx rfl (hb hby d2_0) rfl rfl ?_
    show Steps p.tables e below (s₁.setTop (mkF m 1 #[vR a0, vI p1] [(.ref a0)])) _
    exact k)
  obtain ⟨T2, X2, e2, st2⟩ := initO X0 hx hZ hown (hw _ (List.mem_of_getElem? (i := 11) rfl)) (hw _ (List.mem_of_getElem? (i := 12) rfl)) (hw _ (List.mem_of_getElem? (i := 13) rfl)) e0 (g := (mkF m 1 #[vR a0, vI p1] [(.ref a0)])) rfl (by rw [hml]; rfl) rfl (hb hby d2_1) (by decide) (W := 0) (by show 2 * 0 + _ ≤ _; exact Nat.le_of_eq rfl) (by decide)
  have pre2 : Go p.tables e below S0 T2 (mkF m 4 #[vR a0, vI p1] []) := fun t k => pre1 t (st2 t k)
  have pre3 : Go p.tables e below S0 T2 (mkF m 6 #[vR a0, vI p1] [(.int p1), (.ref a0)]) := fun t k => pre2 t (by
    refine XS.aloadN X2.here hx rfl (hb hby d2_4) rfl rfl ?_
    show Steps p.tables e below (T2.setTop (mkF m 5 #[vR a0, vI p1] [(.ref a0)])) _
    refine XS.iloadN X2.here hx rfl (hb hby d2_5) rfl ?_
    show Steps p.tables e below (T2.setTop (mkF m 6 #[vR a0, vI p1] [(.int p1), (.ref a0)])) _
    exact k)
  obtain ⟨T4, h4, X4, e4, W4, st4⟩ := putF X2 hx hZ hown (host := "") (Or.inl (hw _ (List.mem_of_getElem? (i := 14) rfl))) Via.refl e2 F_length E0 (Or.inr ⟨(hw _ (List.mem_of_getElem? (i := 15) rfl)), rfl, hnm⟩) (hw _ (List.mem_of_getElem? (i := 6) rfl)) (ty := .int) (by decide) rfl rfl (g := (mkF m 6 #[vR a0, vI p1] [(.int p1), (.ref a0)])) rfl rfl (hb hby d2_6)
  have pre4 : Go p.tables e below S0 T4 (mkF m 9 #[vR a0, vI p1] []) := fun t k => pre3 t (st4 t k)
  have N4 := Fr.snoc X4 N0 g0
  have fw4 : Fld Z h4 a0 "com/example/tariff_riders/tariffriders/TermLength" "length" "I" (.int p1) := Fld.same W4 F_length
  have f5_1 := Exa.wr W4 E0
  have zz6 : n0 ≤ h4.size := Nat.le_trans Z0 (Keep.of_wr W4).1
  have kp7 : Keep h0 h4 [a0] := kp0.wr W4 (Or.inl (List.mem_of_getElem? (i := 0) rfl))
  obtain ⟨fs, hr, hrun, hended, hW, hsame⟩ := X4.leave (v := none) (fun _ => rfl)
  exact ⟨_, _, pre4.fin hS0 (X4.returnOut hx Bd.returns (hb hby d2_9) hr), hrun, hended, _, _, rfl, (by
    show Q2 Z a0 p1 h0 n0 _ T4.heap _
    rw [e4]
    exact ⟨rfl, N4, kp7, f5_1, fw4⟩), ⟨_, rfl⟩, hW, hsame.mono (by decide) (by decide)⟩
def own_start (w u : Int32) : Int32 := ((u - (1 : Int32)) / w) * w
theorem ef_4 (m : MethodId) (x0 : Addr) (x1 : Int32) : entryFrame m #[(.ref x0), (.int x1)] 2 = mkF m 0 #[.val (.ref x0), .val (.int x1)] [] := by first | (simp [entryFrame, mkF, argsToLocals, Value.category]; done) | rfl
theorem d4_0 : decode prog_39_method_4_code 0 = .ok (.iload_n 1, 1) := by decide +kernel
theorem d4_1 : decode prog_39_method_4_code 1 = .ok (.iconst 1, 1) := by decide +kernel
theorem d4_2 : decode prog_39_method_4_code 2 = .ok (.isub, 1) := by decide +kernel
theorem d4_3 : decode prog_39_method_4_code 3 = .ok (.aload_n 0, 1) := by decide +kernel
theorem d4_4 : decode prog_39_method_4_code 4 = .ok (.getfield 7, 3) := by decide +kernel
theorem d4_7 : decode prog_39_method_4_code 7 = .ok (.idiv, 1) := by decide +kernel
theorem d4_8 : decode prog_39_method_4_code 8 = .ok (.aload_n 0, 1) := by decide +kernel
theorem d4_9 : decode prog_39_method_4_code 9 = .ok (.getfield 7, 3) := by decide +kernel
theorem d4_12 : decode prog_39_method_4_code 12 = .ok (.imul, 1) := by decide +kernel
theorem d4_13 : decode prog_39_method_4_code 13 = .ok (.ireturn, 1) := by decide +kernel
def Q4 (Z : State) (a0 : Addr) (p1 : Int32) (w_length : Int32) (h0 : Heap) (n0 : Nat) (v : Option Value) (h : Heap) (L : List Loc) : Prop := v = some (.int (own_start w_length p1)) ∧ Fr n0 L ∧ h = h0
set_option maxRecDepth 65536 in
set_option maxHeartbeats 40000000 in
theorem rm4 (l : Launch) (Z : State) (A0 : Array Value) (hw : ∀ d ∈ tables_1, d.before A0 Z = true) (ws : List Jvm.Cond) (a0 : Addr) (p1 : Int32) (w_length : Int32) (h0 : Heap) (n0 : Nat) (Z0 : n0 ≤ h0.size) (F_length : Fld Z h0 a0 "com/example/tariff_riders/tariffriders/TermLength" "length" "I" (.int w_length)) (nz : w_length ≠ 0) :
    MetFree l (⟨"com/example/tariff_riders/tariffriders/TermLength", "termStartOf", "(I)I"⟩ : MethodName) (head1 (Jvm.Cond.code (⟨"com/example/tariff_riders/tariffriders/TermLength", "termStartOf", "(I)I"⟩ : MethodName) prog_39_method_4_code 2 (some .int) :: ws) ({ frames := 0, cells := 0, slots := 0, locals := 0 } : Room)) (fun a U => a = #[(.ref a0), (.int p1)] ∧ Z.Warmed39 U.vm ∧ U.heap = h0) (fun _ _ _ _ _ => True) (fun _ U o U' => ∃ v L, o = .returned v ∧ Q4 Z a0 p1 w_length h0 n0 v U'.heap L ∧ FrameEnd U o U' L ({ frames := 0, cells := 0, slots := 0, locals := 0 } : Room).cells ({ frames := 0, cells := 0, slots := 0, locals := 0 } : Room).slots) := by
  refine MetFree.of_bodySF (plainFor_of_name pn_0) hisR ?_
  intro p e s m args below meth c s₁ Bd hml0 hP hK
  obtain ⟨rfl, hZ, hh⟩ := hP
  have hx := Bd.exec
  have hby := Bd.bytes
  have hml : c.maxLocals = 2 := hml0
  have hown : s.vm.findClass "com/example/tariff_riders/tariffriders/TermLength" = some m.cls := findClass_of_methodNamed Bd.named
  have hnm := (name_of_methodNamed Bd.named Bd.method).1
  have X0 : Stand p l e ({ frames := 0, cells := 0, slots := 0, locals := 0 } : Room) s m #[(.ref a0), (.int p1)] below meth c s₁ [] 0 0 := Stand.of_body Bd
  have e0 : s₁.heap = h0 := by rw [← hh, Bd.state]; rfl
  have N0 := Fr.nil n0
  obtain ⟨S0, hS0⟩ : ∃ z, z = s₁.setTop (entryFrame m #[(.ref a0), (.int p1)] 2) := ⟨_, rfl⟩
  have pre0 : Go p.tables e below S0 s₁ (mkF m 0 #[vR a0, vI p1] []) := fun t k => by rw [hS0]; exact castTop (ef_4 m a0 p1) k
  have pre1 : Go p.tables e below S0 s₁ (mkF m 4 #[vR a0, vI p1] [(.ref a0), (.int (p1 - (1 : Int32)))]) := fun t k => pre0 t (by
    refine XS.iloadN X0.here hx rfl (hb hby d4_0) rfl ?_
    show Steps p.tables e below (s₁.setTop (mkF m 1 #[vR a0, vI p1] [(.int p1)])) _
    refine XS.iconst X0.here hx rfl (hb hby d4_1) ?_
    show Steps p.tables e below (s₁.setTop (mkF m 2 #[vR a0, vI p1] [(.int (1 : Int32)), (.int p1)])) _
    refine XS.isub X0.here hx rfl (hb hby d4_2) rfl ?_
    show Steps p.tables e below (s₁.setTop (mkF m 3 #[vR a0, vI p1] [(.int (p1 - (1 : Int32)))])) _
    refine XS.aloadN X0.here hx rfl (hb hby d4_3) rfl rfl ?_
    show Steps p.tables e below (s₁.setTop (mkF m 4 #[vR a0, vI p1] [(.ref a0), (.int (p1 - (1 : Int32)))])) _
    exact k)
  obtain ⟨T2, X2, e2, st2⟩ := getF X0 hx hZ hown (host := "") (Or.inl (hw _ (List.mem_of_getElem? (i := 14) rfl))) Via.refl e0 F_length (g := (mkF m 4 #[vR a0, vI p1] [(.ref a0), (.int (p1 - (1 : Int32)))])) rfl rfl (hb hby d4_4)
  have pre2 : Go p.tables e below S0 T2 (mkF m 7 #[vR a0, vI p1] [(.int w_length), (.int (p1 - (1 : Int32)))]) := fun t k => pre1 t (st2 t k)
  have nz3 : w_length ≠ 0 := nz
  have pre4 : Go p.tables e below S0 T2 (mkF m 9 #[vR a0, vI p1] [(.ref a0), (.int ((p1 - (1 : Int32)) / w_length))]) := fun t k => pre2 t (by
    refine XS.idiv X2.here hx rfl (hb hby d4_7) rfl nz3 ?_
    show Steps p.tables e below (T2.setTop (mkF m 8 #[vR a0, vI p1] [(.int ((p1 - (1 : Int32)) / w_length))])) _
    refine XS.aloadN X2.here hx rfl (hb hby d4_8) rfl rfl ?_
    show Steps p.tables e below (T2.setTop (mkF m 9 #[vR a0, vI p1] [(.ref a0), (.int ((p1 - (1 : Int32)) / w_length))])) _
    exact k)
  obtain ⟨T5, X5, e5, st5⟩ := getF X2 hx hZ hown (host := "") (Or.inl (hw _ (List.mem_of_getElem? (i := 14) rfl))) Via.refl e2 F_length (g := (mkF m 9 #[vR a0, vI p1] [(.ref a0), (.int ((p1 - (1 : Int32)) / w_length))])) rfl rfl (hb hby d4_9)
  have pre5 : Go p.tables e below S0 T5 (mkF m 12 #[vR a0, vI p1] [(.int w_length), (.int ((p1 - (1 : Int32)) / w_length))]) := fun t k => pre4 t (st5 t k)
  have pre6 : Go p.tables e below S0 T5 (mkF m 13 #[vR a0, vI p1] [(.int (((p1 - (1 : Int32)) / w_length) * w_length))]) := fun t k => pre5 t (by
    refine XS.imul X5.here hx rfl (hb hby d4_12) rfl ?_
    show Steps p.tables e below (T5.setTop (mkF m 13 #[vR a0, vI p1] [(.int (((p1 - (1 : Int32)) / w_length) * w_length))])) _
    exact k)
  obtain ⟨fs, hr, hrun, hended, hW, hsame⟩ := X5.leave (v := some (.int (((p1 - (1 : Int32)) / w_length) * w_length))) (fun h => by rw [Bd.returns] at h; cases h)
  exact ⟨_, _, pre6.fin hS0 (retI X5 hx Bd.returns (hb hby d4_13) hr), hrun, hended, _, _, rfl, (by
    show Q4 Z a0 p1 w_length h0 n0 _ T5.heap _
    rw [e5]
    exact ⟨congrArg (fun z => some (Value.int z)) (by simp [own_start]), N0, rfl⟩), ⟨_, rfl⟩, hW, hsame.mono (by decide) (by decide)⟩
theorem own_a (x m : Int32) (hm : 0 ≤ m.toInt ∧ m.toInt ≤ 100) : 1 ≤ ((x &&& m) + (1 : Int32)).toInt := by
  have h1 := c_and x m hm.1
  have h2 := c_iadd (x &&& m) (1 : Int32)
  have h3 := rng32 ((x &&& m) + (1 : Int32))
  have t : (1 : Int32).toInt = 1 := rfl
  omega
theorem own_b (x : Int32) : 1 ≤ (own_max (1 : Int32) x).toInt := by
  unfold own_max
  split
  · rename_i h; rw [Int32.lt_iff_toInt_lt] at h; have t : (1 : Int32).toInt = 1 := rfl; omega
  · decide
theorem own_nz {n : Int32} (h : 1 ≤ n.toInt) : n ≠ 0 := fun q => by
  rw [q] at h; exact absurd h (by decide)
theorem own_spec {w u s : Int32} (hw : 1 ≤ w.toInt) (hu : 1 ≤ u.toInt) (h : s = own_start w u) : 0 ≤ s.toInt ∧ s.toInt ≤ u.toInt - 1 ∧ u.toInt - s.toInt ≤ w.toInt ∧ s.toInt % w.toInt = 0 := by
  have h1 := c_isub u (1 : Int32)
  have h2 := rng32 (u - (1 : Int32))
  have h3 := rng32 u
  have t : (1 : Int32).toInt = 1 := rfl
  have e1 : (u - (1 : Int32)).toInt = u.toInt - 1 := by omega
  have ne : w ≠ -1 := fun q => by rw [q] at hw; exact absurd hw (by decide)
  have e2 := (c_idiv (u - (1 : Int32)) w w.toInt rfl ne).1 (by omega)
  rw [e1] at e2
  have e3 := c_imul ((u - (1 : Int32)) / w) w
  rw [e2] at e3
  have h4 := rng32 s
  have h5 := Int.mul_ediv_add_emod (u.toInt - 1) w.toInt
  have h6 := Int.emod_nonneg (u.toInt - 1) (show w.toInt ≠ 0 by omega)
  have h7 := Int.emod_lt_of_pos (u.toInt - 1) (show 0 < w.toInt by omega)
  have h8 : 0 ≤ (u.toInt - 1) / w.toInt := Int.ediv_nonneg (by omega) (by omega)
  have h9 : 0 ≤ (u.toInt - 1) / w.toInt * w.toInt := Int.mul_nonneg h8 (by omega)
  rw [Int.mul_comm] at h5
  have e4 : s.toInt = (u.toInt - 1) / w.toInt * w.toInt := by
    rw [h]; unfold own_start; have := rng32 (((u - (1 : Int32)) / w) * w); omega
  refine ⟨by omega, by omega, by omega, ?_⟩
  rw [e4]; exact Int.mul_emod_left _ _
theorem own_longs {s u w : Int32} {ls lu ll : Int64} (h : 0 ≤ s.toInt ∧ s.toInt ≤ u.toInt - 1 ∧ u.toInt - s.toInt ≤ w.toInt ∧ s.toInt % w.toInt = 0) (hu : 1 ≤ u.toInt) (hw : 1 ≤ w.toInt) (e1 : ls = s.toInt64) (e2 : lu = u.toInt64) (e3 : ll = w.toInt64) :
    ¬ ls < (0 : Int64) ∧ ll ≠ 0 ∧ ls % ll = (0 : Int64) ∧ ¬ ((lu - (1 : Int64)) < ls) ∧ ¬ (ll < (lu - ls)) := by
  have f1 : ls.toInt = s.toInt := by rw [e1]; exact c_i2l s
  have f2 : lu.toInt = u.toInt := by rw [e2]; exact c_i2l u
  have f3 : ll.toInt = w.toInt := by rw [e3]; exact c_i2l w
  have z : (0 : Int64).toInt = 0 := rfl
  have o : (1 : Int64).toInt = 1 := rfl
  have r1 := rng32 u
  have r2 := rng32 s
  have r3 := rng32 w
  have a1 := c_lsub lu (1 : Int64)
  have b1 := rng64 (lu - (1 : Int64))
  have a2 := c_lsub lu ls
  have b2 := rng64 (lu - ls)
  rw [f2, o] at a1
  rw [f2, f1] at a2
  refine ⟨?_, ?_, ?_, ?_, ?_⟩
  · rw [Int64.lt_iff_toInt_lt]; omega
  · intro q; rw [q] at f3; omega
  · apply Int64.toInt_inj.mp
    rw [Int64.toInt_mod, f1, f3, z, Int.tmod_eq_emod_of_nonneg h.1]; exact h.2.2.2
  · rw [Int64.lt_iff_toInt_lt]; omega
  · rw [Int64.lt_iff_toInt_lt]; omega
theorem ef_0 (m : MethodId) (x0 : Int32) (x1 : Int32) (x2 : Int32) : entryFrame m #[(.int x0), (.int x1), (.int x2)] maxLocals = mkF m 0 #[.val (.int x0), .val (.int x1), .val (.int x2), .unset, .unset, .unset, .unset, .unset, .unset, .unset, .unset, .unset, .unset] [] := by first | (simp [entryFrame, mkF, argsToLocals, Value.category, maxLocals]; done) | rfl
theorem pn_1 : plainName "com/example/tariff_riders/tariffriders/TermLengthTermStartOfPinLaw" = true := by first | (simp [plainName, overriddenIn]; done) | decide +kernel
theorem pd_0 : parseMethodDescriptor "(II)I" = some ⟨[.int, .int], some .int⟩ := by decide +kernel
theorem pd_1 : parseMethodDescriptor "(I)V" = some ⟨[.int], none⟩ := by decide +kernel
theorem pd_2 : parseMethodDescriptor "(I)I" = some ⟨[.int], some .int⟩ := by decide +kernel
def Q0 (Z : State) (p0 p1 p2 : Int32) (h0 : Heap) (n0 : Nat) (v : Option Value) (h : Heap) (L : List Loc) : Prop := v = some (.int 1) ∧ Fr n0 L
set_option maxRecDepth 65536 in
set_option maxHeartbeats 40000000 in
theorem rm0 (l : Launch) (Z : State) (A0 : Array Value) (hw : ∀ d ∈ tables_1, d.before A0 Z = true) (ws : List Jvm.Cond) (p0 : Int32) (p1 : Int32) (p2 : Int32)  (h0 : Heap) (n0 : Nat) (Z0 : n0 ≤ h0.size)  :
    MetFree l x (head1 (Jvm.Cond.code x code maxLocals ret :: ws) room_1) (fun a U => a = #[(.int p0), (.int p1), (.int p2)] ∧ Z.Warmed39 U.vm ∧ U.heap = h0) (fun _ _ _ _ _ => True) (fun _ U o U' => ∃ v L, o = .returned v ∧ Q0 Z p0 p1 p2 h0 n0 v U'.heap L ∧ FrameEnd U o U' L 1 1) := by
  refine MetFree.of_bodySF (plainFor_of_name pn_1) hisR ?_
  intro p e s m args below meth c s₁ Bd hml0 hP hK
  obtain ⟨rfl, hZ, hh⟩ := hP
  have hx := Bd.exec
  have hby := Bd.bytes
  have hml : c.maxLocals = 13 := hml0
  have hown : s.vm.findClass "com/example/tariff_riders/tariffriders/TermLengthTermStartOfPinLaw" = some m.cls := findClass_of_methodNamed Bd.named
  have hnm := (name_of_methodNamed Bd.named Bd.method).1
  have X0 : Stand p l e room_1 s m #[(.int p0), (.int p1), (.int p2)] below meth c s₁ [] 0 0 := Stand.of_body Bd
  have e0 : s₁.heap = h0 := by rw [← hh, Bd.state]; rfl
  have N0 := Fr.nil n0
  obtain ⟨S0, hS0⟩ : ∃ z, z = s₁.setTop (entryFrame m #[(.int p0), (.int p1), (.int p2)] maxLocals) := ⟨_, rfl⟩
  have pre0 : Go p.tables e below S0 s₁ (mkF m 0 #[vI p0, vI p1, vI p2, .unset, .unset, .unset, .unset, .unset, .unset, .unset, .unset, .unset, .unset] []) := fun t k => by rw [hS0]; exact castTop (ef_0 m p0 p1 p2) k
  have pre1 : Go p.tables e below S0 s₁ (mkF m 3 #[vI p0, vI p1, vI p2, .unset, .unset, .unset, .unset, .unset, .unset, .unset, .unset, .unset, .unset] [(.int (p2 &&& (1 : Int32)))]) := fun t k => pre0 t (by
    refine XS.iloadN X0.here hx rfl (hb hby at_0) rfl ?_
    show Steps p.tables e below (s₁.setTop (mkF m 1 #[vI p0, vI p1, vI p2, .unset, .unset, .unset, .unset, .unset, .unset, .unset, .unset, .unset, .unset] [(.int p2)])) _
    refine XS.iconst X0.here hx rfl (hb hby at_1) ?_
    show Steps p.tables e below (s₁.setTop (mkF m 2 #[vI p0, vI p1, vI p2, .unset, .unset, .unset, .unset, .unset, .unset, .unset, .unset, .unset, .unset] [(.int (1 : Int32)), (.int p2)])) _
    refine XS.iand X0.here hx rfl (hb hby at_2) rfl ?_
    show Steps p.tables e below (s₁.setTop (mkF m 3 #[vI p0, vI p1, vI p2, .unset, .unset, .unset, .unset, .unset, .unset, .unset, .unset, .unset, .unset] [(.int (p2 &&& (1 : Int32)))])) _
    exact k)
  refine cps (A := ∃ (T7 : State) (Lo7 : List Loc) (j23_s0_6 : Int32), (Stand p l e room_1 s m #[(.int p0), (.int p1), (.int p2)] below meth c T7 Lo7 0 0) ∧ (T7.heap = h0) ∧ (Fr n0 Lo7) ∧ (1 ≤ (j23_s0_6).toInt) ∧ (Go p.tables e below S0 T7 (mkF m 23 #[vI p0, vI p1, vI p2, .unset, .unset, .unset, .unset, .unset, .unset, .unset, .unset, .unset, .unset] [(.int j23_s0_6)]))) (fun tail10 => ?_) ?_
  · skip
    by_cases c3_2 : (p2 &&& (1 : Int32)) = (0 : Int32)
    · skip
      have pre3 : Go p.tables e below S0 s₁ (mkF m 20 #[vI p0, vI p1, vI p2, .unset, .unset, .unset, .unset, .unset, .unset, .unset, .unset, .unset, .unset] [(.int (p0 &&& (2147483647 : Int32))), (.int (1 : Int32))]) := fun t k => pre1 t (by
        refine XS.ifYes X0.here hx rfl (pc0 := 3) (pc' := 15) rfl (hb hby at_3) rfl ((if0 _ _).trans (teq c3_2).1) (by decide) (by decide) ?_
        show Steps p.tables e below (s₁.setTop (mkF m 15 #[vI p0, vI p1, vI p2, .unset, .unset, .unset, .unset, .unset, .unset, .unset, .unset, .unset, .unset] [])) _
        refine XS.iconst X0.here hx rfl (hb hby at_15) ?_
        show Steps p.tables e below (s₁.setTop (mkF m 16 #[vI p0, vI p1, vI p2, .unset, .unset, .unset, .unset, .unset, .unset, .unset, .unset, .unset, .unset] [(.int (1 : Int32))])) _
        refine XS.iloadN X0.here hx rfl (hb hby at_16) rfl ?_
        show Steps p.tables e below (s₁.setTop (mkF m 17 #[vI p0, vI p1, vI p2, .unset, .unset, .unset, .unset, .unset, .unset, .unset, .unset, .unset, .unset] [(.int p0), (.int (1 : Int32))])) _
        refine X0.ldcInt hx hown (mvT hZ (hw _ (List.mem_of_getElem? (i := 0) rfl))) (g := (mkF m 17 #[vI p0, vI p1, vI p2, .unset, .unset, .unset, .unset, .unset, .unset, .unset, .unset, .unset, .unset] [(.int p0), (.int (1 : Int32))])) rfl (hb hby at_17) _ ?_
        show Steps p.tables e below (s₁.setTop (mkF m 19 #[vI p0, vI p1, vI p2, .unset, .unset, .unset, .unset, .unset, .unset, .unset, .unset, .unset, .unset] [(.int (2147483647 : Int32)), (.int p0), (.int (1 : Int32))])) _
        refine XS.iand X0.here hx rfl (hb hby at_19) rfl ?_
        show Steps p.tables e below (s₁.setTop (mkF m 20 #[vI p0, vI p1, vI p2, .unset, .unset, .unset, .unset, .unset, .unset, .unset, .unset, .unset, .unset] [(.int (p0 &&& (2147483647 : Int32))), (.int (1 : Int32))])) _
        exact k)
      obtain ⟨_, _, ⟨T4, L4, k4, n4⟩, -, X4, ⟨Lc4, hQ4, l4, y4, z4⟩, st4⟩ := Jvm.LawKit.callS X0 hx (y := (⟨"java/lang/Math", "max", "(II)I"⟩ : MethodName)) hown (mvT hZ (hw _ (List.mem_of_getElem? (i := 1) rfl))) (mvT hZ (hw _ (List.mem_of_getElem? (i := 2) rfl))) (mvT hZ (hw _ (List.mem_of_getElem? (i := 3) rfl))) (mvT hZ (hw _ (List.mem_of_getElem? (i := 4) rfl))) (by decide) (backOf (W := 0) (rm1 l Z A0 hw [] (1 : Int32) (p0 &&& (2147483647 : Int32)) h0 n0 Z0) hZ (hw _ (List.mem_of_getElem? (i := 4) rfl)) (hw _ (List.mem_of_getElem? (i := 3) rfl)) (by decide) (by decide)) (g := (mkF m 20 #[vI p0, vI p1, vI p2, .unset, .unset, .unset, .unset, .unset, .unset, .unset, .unset, .unset, .unset] [(.int (p0 &&& (2147483647 : Int32))), (.int (1 : Int32))])) rfl (by rw [hml]; rfl) (argsL := [(.int (1 : Int32)), (.int (p0 &&& (2147483647 : Int32)))]) (rest := []) (lenOf pd_0 rfl) rfl (by show 2 * 0 + _ ≤ _; exact Nat.le_of_eq rfl) (hb hby at_20) (fun _ _ => ⟨rfl, e0, (by decide : 0 + 0 ≤ _), (by decide : 0 + 0 ≤ _)⟩)
      dsimp only [Pt.U, Pt.locs, Pt.cells, Pt.slots] at X4 l4 y4 z4 st4 hQ4
      subst l4 y4 z4
      obtain ⟨rfl, Nq4, eq4⟩ := hQ4
      have N4 := Fr.app N0 Nq4
      have pre4 : Go p.tables e below S0 T4 (mkF m 23 #[vI p0, vI p1, vI p2, .unset, .unset, .unset, .unset, .unset, .unset, .unset, .unset, .unset, .unset] [(.int (own_max (1 : Int32) (p0 &&& (2147483647 : Int32))))]) := fun t k => pre3 t (st4 t k)
      exact tail10 ⟨T4, _, (own_max (1 : Int32) (p0 &&& (2147483647 : Int32))), X4.more (by decide) (by decide), eq4, N4, (by exact own_b _), pre4⟩
    · skip
      have pre5 : Go p.tables e below S0 s₁ (mkF m 23 #[vI p0, vI p1, vI p2, .unset, .unset, .unset, .unset, .unset, .unset, .unset, .unset, .unset, .unset] [(.int ((p0 &&& (15 : Int32)) + (1 : Int32)))]) := fun t k => pre1 t (by
        refine XS.ifNo X0.here hx rfl (hb hby at_3) rfl ((if0 _ _).trans (feq c3_2).1) ?_
        show Steps p.tables e below (s₁.setTop (mkF m 6 #[vI p0, vI p1, vI p2, .unset, .unset, .unset, .unset, .unset, .unset, .unset, .unset, .unset, .unset] [])) _
        refine XS.iloadN X0.here hx rfl (hb hby at_6) rfl ?_
        show Steps p.tables e below (s₁.setTop (mkF m 7 #[vI p0, vI p1, vI p2, .unset, .unset, .unset, .unset, .unset, .unset, .unset, .unset, .unset, .unset] [(.int p0)])) _
        refine XS.bipush X0.here hx rfl (hb hby at_7) ?_
        show Steps p.tables e below (s₁.setTop (mkF m 9 #[vI p0, vI p1, vI p2, .unset, .unset, .unset, .unset, .unset, .unset, .unset, .unset, .unset, .unset] [(.int (15 : Int32)), (.int p0)])) _
        refine XS.iand X0.here hx rfl (hb hby at_9) rfl ?_
        show Steps p.tables e below (s₁.setTop (mkF m 10 #[vI p0, vI p1, vI p2, .unset, .unset, .unset, .unset, .unset, .unset, .unset, .unset, .unset, .unset] [(.int (p0 &&& (15 : Int32)))])) _
        refine XS.iconst X0.here hx rfl (hb hby at_10) ?_
        show Steps p.tables e below (s₁.setTop (mkF m 11 #[vI p0, vI p1, vI p2, .unset, .unset, .unset, .unset, .unset, .unset, .unset, .unset, .unset, .unset] [(.int (1 : Int32)), (.int (p0 &&& (15 : Int32)))])) _
        refine XS.iadd X0.here hx rfl (hb hby at_11) rfl ?_
        show Steps p.tables e below (s₁.setTop (mkF m 12 #[vI p0, vI p1, vI p2, .unset, .unset, .unset, .unset, .unset, .unset, .unset, .unset, .unset, .unset] [(.int ((p0 &&& (15 : Int32)) + (1 : Int32)))])) _
        refine XS.goto X0.here hx rfl (pc0 := 12) (pc' := 23) rfl (hb hby at_12) (by decide) (by decide) ?_
        show Steps p.tables e below (s₁.setTop (mkF m 23 #[vI p0, vI p1, vI p2, .unset, .unset, .unset, .unset, .unset, .unset, .unset, .unset, .unset, .unset] [(.int ((p0 &&& (15 : Int32)) + (1 : Int32)))])) _
        exact k)
      exact tail10 ⟨s₁, _, ((p0 &&& (15 : Int32)) + (1 : Int32)), X0.more (by decide) (by decide), e0, N0, (by exact own_a _ _ (by decide)), pre5⟩
  rintro ⟨T7, Lo7, j23_s0_6, X7, e7, N7, hj23_8, pre9⟩
  have l1 := hj23_8
  have nzn := own_nz l1
  have pre11 : Go p.tables e below S0 T7 (mkF m 27 #[vI p0, vI p1, vI p2, vI j23_s0_6, .unset, .unset, .unset, .unset, .unset, .unset, .unset, .unset, .unset] [(.int (p2 &&& (2 : Int32)))]) := fun t k => pre9 t (by
    refine XS.istoreN X7.here hx rfl (hb hby at_23) rfl (l' := #[vI p0, vI p1, vI p2, vI j23_s0_6, .unset, .unset, .unset, .unset, .unset, .unset, .unset, .unset, .unset]) rfl ?_
    show Steps p.tables e below (T7.setTop (mkF m 24 #[vI p0, vI p1, vI p2, vI j23_s0_6, .unset, .unset, .unset, .unset, .unset, .unset, .unset, .unset, .unset] [])) _
    refine XS.iloadN X7.here hx rfl (hb hby at_24) rfl ?_
    show Steps p.tables e below (T7.setTop (mkF m 25 #[vI p0, vI p1, vI p2, vI j23_s0_6, .unset, .unset, .unset, .unset, .unset, .unset, .unset, .unset, .unset] [(.int p2)])) _
    refine XS.iconst X7.here hx rfl (hb hby at_25) ?_
    show Steps p.tables e below (T7.setTop (mkF m 26 #[vI p0, vI p1, vI p2, vI j23_s0_6, .unset, .unset, .unset, .unset, .unset, .unset, .unset, .unset, .unset] [(.int (2 : Int32)), (.int p2)])) _
    refine XS.iand X7.here hx rfl (hb hby at_26) rfl ?_
    show Steps p.tables e below (T7.setTop (mkF m 27 #[vI p0, vI p1, vI p2, vI j23_s0_6, .unset, .unset, .unset, .unset, .unset, .unset, .unset, .unset, .unset] [(.int (p2 &&& (2 : Int32)))])) _
    exact k)
  refine cps (A := ∃ (T17 : State) (Lo17 : List Loc) (j47_s0_16 : Int32), (Stand p l e room_1 s m #[(.int p0), (.int p1), (.int p2)] below meth c T17 Lo17 0 0) ∧ (T17.heap = h0) ∧ (Fr n0 Lo17) ∧ (1 ≤ (j47_s0_16).toInt) ∧ (Go p.tables e below S0 T17 (mkF m 47 #[vI p0, vI p1, vI p2, vI j23_s0_6, .unset, .unset, .unset, .unset, .unset, .unset, .unset, .unset, .unset] [(.int j47_s0_16)]))) (fun tail20 => ?_) ?_
  · skip
    by_cases c27_12 : (p2 &&& (2 : Int32)) = (0 : Int32)
    · skip
      have pre13 : Go p.tables e below S0 T7 (mkF m 44 #[vI p0, vI p1, vI p2, vI j23_s0_6, .unset, .unset, .unset, .unset, .unset, .unset, .unset, .unset, .unset] [(.int (p1 &&& (2147483647 : Int32))), (.int (1 : Int32))]) := fun t k => pre11 t (by
        refine XS.ifYes X7.here hx rfl (pc0 := 27) (pc' := 39) rfl (hb hby at_27) rfl ((if0 _ _).trans (teq c27_12).1) (by decide) (by decide) ?_
        show Steps p.tables e below (T7.setTop (mkF m 39 #[vI p0, vI p1, vI p2, vI j23_s0_6, .unset, .unset, .unset, .unset, .unset, .unset, .unset, .unset, .unset] [])) _
        refine XS.iconst X7.here hx rfl (hb hby at_39) ?_
        show Steps p.tables e below (T7.setTop (mkF m 40 #[vI p0, vI p1, vI p2, vI j23_s0_6, .unset, .unset, .unset, .unset, .unset, .unset, .unset, .unset, .unset] [(.int (1 : Int32))])) _
        refine XS.iloadN X7.here hx rfl (hb hby at_40) rfl ?_
        show Steps p.tables e below (T7.setTop (mkF m 41 #[vI p0, vI p1, vI p2, vI j23_s0_6, .unset, .unset, .unset, .unset, .unset, .unset, .unset, .unset, .unset] [(.int p1), (.int (1 : Int32))])) _
        refine X7.ldcInt hx hown (mvT hZ (hw _ (List.mem_of_getElem? (i := 0) rfl))) (g := (mkF m 41 #[vI p0, vI p1, vI p2, vI j23_s0_6, .unset, .unset, .unset, .unset, .unset, .unset, .unset, .unset, .unset] [(.int p1), (.int (1 : Int32))])) rfl (hb hby at_41) _ ?_
        show Steps p.tables e below (T7.setTop (mkF m 43 #[vI p0, vI p1, vI p2, vI j23_s0_6, .unset, .unset, .unset, .unset, .unset, .unset, .unset, .unset, .unset] [(.int (2147483647 : Int32)), (.int p1), (.int (1 : Int32))])) _
        refine XS.iand X7.here hx rfl (hb hby at_43) rfl ?_
        show Steps p.tables e below (T7.setTop (mkF m 44 #[vI p0, vI p1, vI p2, vI j23_s0_6, .unset, .unset, .unset, .unset, .unset, .unset, .unset, .unset, .unset] [(.int (p1 &&& (2147483647 : Int32))), (.int (1 : Int32))])) _
        exact k)
      obtain ⟨_, _, ⟨T14, L14, k14, n14⟩, -, X14, ⟨Lc14, hQ14, l14, y14, z14⟩, st14⟩ := Jvm.LawKit.callS X7 hx (y := (⟨"java/lang/Math", "max", "(II)I"⟩ : MethodName)) hown (mvT hZ (hw _ (List.mem_of_getElem? (i := 1) rfl))) (mvT hZ (hw _ (List.mem_of_getElem? (i := 2) rfl))) (mvT hZ (hw _ (List.mem_of_getElem? (i := 3) rfl))) (mvT hZ (hw _ (List.mem_of_getElem? (i := 4) rfl))) (by decide) (backOf (W := 0) (rm1 l Z A0 hw [] (1 : Int32) (p1 &&& (2147483647 : Int32)) h0 n0 Z0) hZ (hw _ (List.mem_of_getElem? (i := 4) rfl)) (hw _ (List.mem_of_getElem? (i := 3) rfl)) (by decide) (by decide)) (g := (mkF m 44 #[vI p0, vI p1, vI p2, vI j23_s0_6, .unset, .unset, .unset, .unset, .unset, .unset, .unset, .unset, .unset] [(.int (p1 &&& (2147483647 : Int32))), (.int (1 : Int32))])) rfl (by rw [hml]; rfl) (argsL := [(.int (1 : Int32)), (.int (p1 &&& (2147483647 : Int32)))]) (rest := []) (lenOf pd_0 rfl) rfl (by show 2 * 0 + _ ≤ _; exact Nat.le_of_eq rfl) (hb hby at_44) (fun _ _ => ⟨rfl, e7, (by decide : 0 + 0 ≤ _), (by decide : 0 + 0 ≤ _)⟩)
      dsimp only [Pt.U, Pt.locs, Pt.cells, Pt.slots] at X14 l14 y14 z14 st14 hQ14
      subst l14 y14 z14
      obtain ⟨rfl, Nq14, eq14⟩ := hQ14
      have N14 := Fr.app N7 Nq14
      have pre14 : Go p.tables e below S0 T14 (mkF m 47 #[vI p0, vI p1, vI p2, vI j23_s0_6, .unset, .unset, .unset, .unset, .unset, .unset, .unset, .unset, .unset] [(.int (own_max (1 : Int32) (p1 &&& (2147483647 : Int32))))]) := fun t k => pre13 t (st14 t k)
      exact tail20 ⟨T14, _, (own_max (1 : Int32) (p1 &&& (2147483647 : Int32))), X14.more (by decide) (by decide), eq14, N14, (by exact own_b _), pre14⟩
    · skip
      have pre15 : Go p.tables e below S0 T7 (mkF m 47 #[vI p0, vI p1, vI p2, vI j23_s0_6, .unset, .unset, .unset, .unset, .unset, .unset, .unset, .unset, .unset] [(.int ((p1 &&& (63 : Int32)) + (1 : Int32)))]) := fun t k => pre11 t (by
        refine XS.ifNo X7.here hx rfl (hb hby at_27) rfl ((if0 _ _).trans (feq c27_12).1) ?_
        show Steps p.tables e below (T7.setTop (mkF m 30 #[vI p0, vI p1, vI p2, vI j23_s0_6, .unset, .unset, .unset, .unset, .unset, .unset, .unset, .unset, .unset] [])) _
        refine XS.iloadN X7.here hx rfl (hb hby at_30) rfl ?_
        show Steps p.tables e below (T7.setTop (mkF m 31 #[vI p0, vI p1, vI p2, vI j23_s0_6, .unset, .unset, .unset, .unset, .unset, .unset, .unset, .unset, .unset] [(.int p1)])) _
        refine XS.bipush X7.here hx rfl (hb hby at_31) ?_
        show Steps p.tables e below (T7.setTop (mkF m 33 #[vI p0, vI p1, vI p2, vI j23_s0_6, .unset, .unset, .unset, .unset, .unset, .unset, .unset, .unset, .unset] [(.int (63 : Int32)), (.int p1)])) _
        refine XS.iand X7.here hx rfl (hb hby at_33) rfl ?_
        show Steps p.tables e below (T7.setTop (mkF m 34 #[vI p0, vI p1, vI p2, vI j23_s0_6, .unset, .unset, .unset, .unset, .unset, .unset, .unset, .unset, .unset] [(.int (p1 &&& (63 : Int32)))])) _
        refine XS.iconst X7.here hx rfl (hb hby at_34) ?_
        show Steps p.tables e below (T7.setTop (mkF m 35 #[vI p0, vI p1, vI p2, vI j23_s0_6, .unset, .unset, .unset, .unset, .unset, .unset, .unset, .unset, .unset] [(.int (1 : Int32)), (.int (p1 &&& (63 : Int32)))])) _
        refine XS.iadd X7.here hx rfl (hb hby at_35) rfl ?_
        show Steps p.tables e below (T7.setTop (mkF m 36 #[vI p0, vI p1, vI p2, vI j23_s0_6, .unset, .unset, .unset, .unset, .unset, .unset, .unset, .unset, .unset] [(.int ((p1 &&& (63 : Int32)) + (1 : Int32)))])) _
        refine XS.goto X7.here hx rfl (pc0 := 36) (pc' := 47) rfl (hb hby at_36) (by decide) (by decide) ?_
        show Steps p.tables e below (T7.setTop (mkF m 47 #[vI p0, vI p1, vI p2, vI j23_s0_6, .unset, .unset, .unset, .unset, .unset, .unset, .unset, .unset, .unset] [(.int ((p1 &&& (63 : Int32)) + (1 : Int32)))])) _
        exact k)
      exact tail20 ⟨T7, _, ((p1 &&& (63 : Int32)) + (1 : Int32)), X7.more (by decide) (by decide), e7, N7, (by exact own_a _ _ (by decide)), pre15⟩
  rintro ⟨T17, Lo17, j47_s0_16, X17, e17, N17, hj47_18, pre19⟩
  have u1 := hj47_18
  have pre21 : Go p.tables e below S0 T17 (mkF m 49 #[vI p0, vI p1, vI p2, vI j23_s0_6, vI j47_s0_16, .unset, .unset, .unset, .unset, .unset, .unset, .unset, .unset] []) := fun t k => pre19 t (by
    refine XS.istore X17.here hx rfl (hb hby at_47) rfl (l' := #[vI p0, vI p1, vI p2, vI j23_s0_6, vI j47_s0_16, .unset, .unset, .unset, .unset, .unset, .unset, .unset, .unset]) rfl ?_
    show Steps p.tables e below (T17.setTop (mkF m 49 #[vI p0, vI p1, vI p2, vI j23_s0_6, vI j47_s0_16, .unset, .unset, .unset, .unset, .unset, .unset, .unset, .unset] [])) _
    exact k)
  obtain ⟨T22, h22, X22, e22, E22, A22, D22, -, st22⟩ := newO X17 hx hZ hown (hw _ (List.mem_of_getElem? (i := 5) rfl)) (hw _ (List.mem_of_getElem? (i := 6) rfl)) (hw _ (List.mem_of_getElem? (i := 7) rfl)) e17 (g := (mkF m 49 #[vI p0, vI p1, vI p2, vI j23_s0_6, vI j47_s0_16, .unset, .unset, .unset, .unset, .unset, .unset, .unset, .unset] [])) rfl (hb hby at_49) (by decide) (by decide)
  obtain ⟨b22, g22⟩ : ∃ z, z = h0.size := ⟨_, rfl⟩
  rw [← g22] at A22 D22 st22
  have pre22 : Go p.tables e below S0 T22 (mkF m 52 #[vI p0, vI p1, vI p2, vI j23_s0_6, vI j47_s0_16, .unset, .unset, .unset, .unset, .unset, .unset, .unset, .unset] [(.ref b22)]) := fun t k => pre21 t (st22 t k)
  have bo22 : n0 ≤ b22 := Nat.le_trans Z0 (Nat.le_of_eq g22.symm)
  have zz24 : n0 ≤ h22.size := Nat.le_trans Z0 E22.1
  have fn22_length : Fld Z h22 b22 "com/example/tariff_riders/tariffriders/TermLength" "length" "I" (.int (0 : Int32)) := D22 (Or.inr (hw _ (List.mem_of_getElem? (i := 15) rfl))) (ty := .int) (by decide)
  have pre25 : Go p.tables e below S0 T22 (mkF m 54 #[vI p0, vI p1, vI p2, vI j23_s0_6, vI j47_s0_16, .unset, .unset, .unset, .unset, .unset, .unset, .unset, .unset] [(.int j23_s0_6), (.ref b22), (.ref b22)]) := fun t k => pre22 t (by
    refine XS.dup X22.here hx rfl (hb hby at_52) rfl rfl ?_
    show Steps p.tables e below (T22.setTop (mkF m 53 #[vI p0, vI p1, vI p2, vI j23_s0_6, vI j47_s0_16, .unset, .unset, .unset, .unset, .unset, .unset, .unset, .unset] [(.ref b22), (.ref b22)])) _
    refine XS.iloadN X22.here hx rfl (hb hby at_53) rfl ?_
    show Steps p.tables e below (T22.setTop (mkF m 54 #[vI p0, vI p1, vI p2, vI j23_s0_6, vI j47_s0_16, .unset, .unset, .unset, .unset, .unset, .unset, .unset, .unset] [(.int j23_s0_6), (.ref b22), (.ref b22)])) _
    exact k)
  obtain ⟨_, _, ⟨T26, L26, k26, n26⟩, -, X26, ⟨Lc26, hQ26, l26, y26, z26⟩, st26⟩ := X22.specialBack hx (y := (⟨"com/example/tariff_riders/tariffriders/TermLength", "<init>", "(I)V"⟩ : MethodName)) rfl hown (mvT hZ (hw _ (List.mem_of_getElem? (i := 8) rfl))) (mvT hZ (hw _ (List.mem_of_getElem? (i := 9) rfl))) (mvT hZ (hw _ (List.mem_of_getElem? (i := 10) rfl))) (by decide) (backOf (W := 1) (rm2 l Z A0 hw [] b22 j23_s0_6 h22 n0 zz24 A22 fn22_length bo22) hZ (hw _ (List.mem_of_getElem? (i := 10) rfl)) (hw _ (List.mem_of_getElem? (i := 7) rfl)) (by decide) (by decide)) (g := (mkF m 54 #[vI p0, vI p1, vI p2, vI j23_s0_6, vI j47_s0_16, .unset, .unset, .unset, .unset, .unset, .unset, .unset, .unset] [(.int j23_s0_6), (.ref b22), (.ref b22)])) rfl (by rw [hml]; rfl) (Steps.refl _) (a := b22) (argsL := [(.int j23_s0_6)]) (rest := [(.ref b22)]) (lenOf pd_1 rfl) rfl (by show 2 * 0 + _ ≤ _; exact Nat.le_of_eq rfl) (hb hby at_54) (fun _ _ => ⟨rfl, e22, (by decide : 1 + 0 ≤ _), (by decide : 1 + 0 ≤ _)⟩)
  dsimp only [Pt.U, Pt.locs, Pt.cells, Pt.slots] at X26 l26 y26 z26 st26 hQ26
  subst l26 y26 z26
  obtain ⟨rfl, Nq26, Kq26, nf26_0, nf26_1⟩ := hQ26
  have N26 := Fr.app N17 Nq26
  have pre26 : Go p.tables e below S0 T26 (mkF m 57 #[vI p0, vI p1, vI p2, vI j23_s0_6, vI j47_s0_16, .unset, .unset, .unset, .unset, .unset, .unset, .unset, .unset] [(.ref b22)]) := fun t k => pre25 t (st26.trans k)
  have zz28 : n0 ≤ T26.heap.size := Nat.le_trans zz24 Kq26.1
  have pre29 : Go p.tables e below S0 T26 (mkF m 63 #[vI p0, vI p1, vI p2, vI j23_s0_6, vI j47_s0_16, vR b22, .unset, .unset, .unset, .unset, .unset, .unset, .unset] [(.int j47_s0_16), (.ref b22)]) := fun t k => pre26 t (by
    refine XS.astore X26.here hx rfl (hb hby at_57) rfl rfl (l' := #[vI p0, vI p1, vI p2, vI j23_s0_6, vI j47_s0_16, vR b22, .unset, .unset, .unset, .unset, .unset, .unset, .unset]) rfl ?_
    show Steps p.tables e below (T26.setTop (mkF m 59 #[vI p0, vI p1, vI p2, vI j23_s0_6, vI j47_s0_16, vR b22, .unset, .unset, .unset, .unset, .unset, .unset, .unset] [])) _
    refine XS.aload X26.here hx rfl (hb hby at_59) rfl rfl ?_
    show Steps p.tables e below (T26.setTop (mkF m 61 #[vI p0, vI p1, vI p2, vI j23_s0_6, vI j47_s0_16, vR b22, .unset, .unset, .unset, .unset, .unset, .unset, .unset] [(.ref b22)])) _
    refine XS.iload X26.here hx rfl (hb hby at_61) rfl ?_
    show Steps p.tables e below (T26.setTop (mkF m 63 #[vI p0, vI p1, vI p2, vI j23_s0_6, vI j47_s0_16, vR b22, .unset, .unset, .unset, .unset, .unset, .unset, .unset] [(.int j47_s0_16), (.ref b22)])) _
    exact k)
  obtain ⟨cq30, kq30, qa30, qb30, qc30⟩ := isOf hZ rfl nf26_0
  obtain ⟨_, _, ⟨T30, L30, k30, n30⟩, -, X30, ⟨Lc30, hQ30, l30, y30, z30⟩, st30⟩ := X26.virtualBack hx (y := (⟨"com/example/tariff_riders/tariffriders/TermLength", "termStartOf", "(I)I"⟩ : MethodName)) (z := (⟨"com/example/tariff_riders/tariffriders/TermLength", "termStartOf", "(I)I"⟩ : MethodName)) hown (mvT hZ (hw _ (List.mem_of_getElem? (i := 16) rfl))) (mvT hZ (hw _ (List.mem_of_getElem? (i := 17) rfl))) (notFace_of_selects (args := #[]) (mvT hZ (hw _ (List.mem_of_getElem? (i := 19) rfl)))) (mvT hZ (hw _ (List.mem_of_getElem? (i := 19) rfl))) (mvT hZ (hw _ (List.mem_of_getElem? (i := 18) rfl))) (by decide) (backOf (W := 0) (rm4 l Z A0 hw [] b22 j47_s0_16 j23_s0_6 T26.heap n0 zz28 nf26_1 nzn) hZ (hw _ (List.mem_of_getElem? (i := 20) rfl)) (hw _ (List.mem_of_getElem? (i := 7) rfl)) (by decide) (by decide)) qa30 qc30 (g := (mkF m 63 #[vI p0, vI p1, vI p2, vI j23_s0_6, vI j47_s0_16, vR b22, .unset, .unset, .unset, .unset, .unset, .unset, .unset] [(.int j47_s0_16), (.ref b22)])) rfl (by rw [hml]; rfl) (Steps.refl _) (argsL := [(.int j47_s0_16)]) (rest := []) (lenOf pd_2 rfl) rfl (by show 2 * 0 + _ ≤ _; exact Nat.le_of_eq rfl) (hb hby at_63) (fun _ _ => ⟨rfl, rfl, (by decide : 1 + 0 ≤ _), (by decide : 1 + 0 ≤ _)⟩)
  dsimp only [Pt.U, Pt.locs, Pt.cells, Pt.slots] at X30 l30 y30 z30 st30 hQ30
  subst l30 y30 z30
  obtain ⟨rfl, Nq30, eq30⟩ := hQ30
  have N30 := Fr.app N26 Nq30
  have pre30 : Go p.tables e below S0 T30 (mkF m 66 #[vI p0, vI p1, vI p2, vI j23_s0_6, vI j47_s0_16, vR b22, .unset, .unset, .unset, .unset, .unset, .unset, .unset] [(.int (own_start j23_s0_6 j47_s0_16))]) := fun t k => pre29 t (st30.trans k)
  obtain ⟨v31, hv31, pre31⟩ : ∃ z : Int32, z = (own_start j23_s0_6 j47_s0_16) ∧ Go p.tables e below S0 T30 (mkF m 68 #[vI p0, vI p1, vI p2, vI j23_s0_6, vI j47_s0_16, vR b22, vI z, .unset, .unset, .unset, .unset, .unset, .unset] []) := ⟨_, rfl, fun t k => pre30 t (by
    refine XS.istore X30.here hx rfl (hb hby at_66) rfl (l' := #[vI p0, vI p1, vI p2, vI j23_s0_6, vI j47_s0_16, vR b22, vI (own_start j23_s0_6 j47_s0_16), .unset, .unset, .unset, .unset, .unset, .unset]) rfl ?_
    show Steps p.tables e below (T30.setTop (mkF m 68 #[vI p0, vI p1, vI p2, vI j23_s0_6, vI j47_s0_16, vR b22, vI (own_start j23_s0_6 j47_s0_16), .unset, .unset, .unset, .unset, .unset, .unset] [])) _
    exact k)⟩
  have sp := own_spec l1 u1 hv31
  obtain ⟨v32, hv32, pre32⟩ : ∃ z : Int64, z = (v31.toInt64) ∧ Go p.tables e below S0 T30 (mkF m 73 #[vI p0, vI p1, vI p2, vI j23_s0_6, vI j47_s0_16, vR b22, vI v31, vJ z, .second, .unset, .unset, .unset, .unset] []) := ⟨_, rfl, fun t k => pre31 t (by
    refine XS.iload X30.here hx rfl (hb hby at_68) rfl ?_
    show Steps p.tables e below (T30.setTop (mkF m 70 #[vI p0, vI p1, vI p2, vI j23_s0_6, vI j47_s0_16, vR b22, vI v31, .unset, .unset, .unset, .unset, .unset, .unset] [(.int v31)])) _
    refine XS.i2l X30.here hx rfl (hb hby at_70) rfl ?_
    show Steps p.tables e below (T30.setTop (mkF m 71 #[vI p0, vI p1, vI p2, vI j23_s0_6, vI j47_s0_16, vR b22, vI v31, .unset, .unset, .unset, .unset, .unset, .unset] [(.long (v31.toInt64))])) _
    refine XS.lstore X30.here hx rfl (hb hby at_71) rfl (l' := #[vI p0, vI p1, vI p2, vI j23_s0_6, vI j47_s0_16, vR b22, vI v31, vJ (v31.toInt64), .second, .unset, .unset, .unset, .unset]) rfl ?_
    show Steps p.tables e below (T30.setTop (mkF m 73 #[vI p0, vI p1, vI p2, vI j23_s0_6, vI j47_s0_16, vR b22, vI v31, vJ (v31.toInt64), .second, .unset, .unset, .unset, .unset] [])) _
    exact k)⟩
  obtain ⟨v33, hv33, pre33⟩ : ∃ z : Int64, z = (j47_s0_16.toInt64) ∧ Go p.tables e below S0 T30 (mkF m 78 #[vI p0, vI p1, vI p2, vI j23_s0_6, vI j47_s0_16, vR b22, vI v31, vJ v32, .second, vJ z, .second, .unset, .unset] []) := ⟨_, rfl, fun t k => pre32 t (by
    refine XS.iload X30.here hx rfl (hb hby at_73) rfl ?_
    show Steps p.tables e below (T30.setTop (mkF m 75 #[vI p0, vI p1, vI p2, vI j23_s0_6, vI j47_s0_16, vR b22, vI v31, vJ v32, .second, .unset, .unset, .unset, .unset] [(.int j47_s0_16)])) _
    refine XS.i2l X30.here hx rfl (hb hby at_75) rfl ?_
    show Steps p.tables e below (T30.setTop (mkF m 76 #[vI p0, vI p1, vI p2, vI j23_s0_6, vI j47_s0_16, vR b22, vI v31, vJ v32, .second, .unset, .unset, .unset, .unset] [(.long (j47_s0_16.toInt64))])) _
    refine XS.lstore X30.here hx rfl (hb hby at_76) rfl (l' := #[vI p0, vI p1, vI p2, vI j23_s0_6, vI j47_s0_16, vR b22, vI v31, vJ v32, .second, vJ (j47_s0_16.toInt64), .second, .unset, .unset]) rfl ?_
    show Steps p.tables e below (T30.setTop (mkF m 78 #[vI p0, vI p1, vI p2, vI j23_s0_6, vI j47_s0_16, vR b22, vI v31, vJ v32, .second, vJ (j47_s0_16.toInt64), .second, .unset, .unset] [])) _
    exact k)⟩
  obtain ⟨v34, hv34, pre34⟩ : ∃ z : Int64, z = (j23_s0_6.toInt64) ∧ Go p.tables e below S0 T30 (mkF m 82 #[vI p0, vI p1, vI p2, vI j23_s0_6, vI j47_s0_16, vR b22, vI v31, vJ v32, .second, vJ v33, .second, vJ z, .second] []) := ⟨_, rfl, fun t k => pre33 t (by
    refine XS.iloadN X30.here hx rfl (hb hby at_78) rfl ?_
    show Steps p.tables e below (T30.setTop (mkF m 79 #[vI p0, vI p1, vI p2, vI j23_s0_6, vI j47_s0_16, vR b22, vI v31, vJ v32, .second, vJ v33, .second, .unset, .unset] [(.int j23_s0_6)])) _
    refine XS.i2l X30.here hx rfl (hb hby at_79) rfl ?_
    show Steps p.tables e below (T30.setTop (mkF m 80 #[vI p0, vI p1, vI p2, vI j23_s0_6, vI j47_s0_16, vR b22, vI v31, vJ v32, .second, vJ v33, .second, .unset, .unset] [(.long (j23_s0_6.toInt64))])) _
    refine XS.lstore X30.here hx rfl (hb hby at_80) rfl (l' := #[vI p0, vI p1, vI p2, vI j23_s0_6, vI j47_s0_16, vR b22, vI v31, vJ v32, .second, vJ v33, .second, vJ (j23_s0_6.toInt64), .second]) rfl ?_
    show Steps p.tables e below (T30.setTop (mkF m 82 #[vI p0, vI p1, vI p2, vI j23_s0_6, vI j47_s0_16, vR b22, vI v31, vJ v32, .second, vJ v33, .second, vJ (j23_s0_6.toInt64), .second] [])) _
    exact k)⟩
  obtain ⟨d1, d2, d3, d4, d5⟩ := own_longs sp u1 l1 hv32 hv33 hv34
  have pre35 : Go p.tables e below S0 T30 (mkF m 86 #[vI p0, vI p1, vI p2, vI j23_s0_6, vI j47_s0_16, vR b22, vI v31, vJ v32, .second, vJ v33, .second, vJ v34, .second] [(.int (lcmpW v32 (0 : Int64)))]) := fun t k => pre34 t (by
    refine XS.lload X30.here hx rfl (hb hby at_82) rfl ?_
    show Steps p.tables e below (T30.setTop (mkF m 84 #[vI p0, vI p1, vI p2, vI j23_s0_6, vI j47_s0_16, vR b22, vI v31, vJ v32, .second, vJ v33, .second, vJ v34, .second] [(.long v32)])) _
    refine XS.lconst X30.here hx rfl (hb hby at_84) ?_
    show Steps p.tables e below (T30.setTop (mkF m 85 #[vI p0, vI p1, vI p2, vI j23_s0_6, vI j47_s0_16, vR b22, vI v31, vJ v32, .second, vJ v33, .second, vJ v34, .second] [(.long (0 : Int64)), (.long v32)])) _
    refine XS.lcmp X30.here hx rfl (hb hby at_85) rfl ?_
    show Steps p.tables e below (T30.setTop (mkF m 86 #[vI p0, vI p1, vI p2, vI j23_s0_6, vI j47_s0_16, vR b22, vI v31, vJ v32, .second, vJ v33, .second, vJ v34, .second] [(.int (lcmpW v32 (0 : Int64)))])) _
    exact k)
  have cc36 : ¬ (v32 < (0 : Int64)) := d1
  have pre37 : Go p.tables e below S0 T30 (mkF m 95 #[vI p0, vI p1, vI p2, vI j23_s0_6, vI j47_s0_16, vR b22, vI v31, vJ v32, .second, vJ v33, .second, vJ v34, .second] [(.long v34), (.long v32)]) := fun t k => pre35 t (by
    refine XS.ifYes X30.here hx rfl (pc0 := 86) (pc' := 91) rfl (hb hby at_86) rfl ((if0 _ _).trans (flt (fun q => cc36 ((lw_lt _ _).mp q))).2.1) (by decide) (by decide) ?_
    show Steps p.tables e below (T30.setTop (mkF m 91 #[vI p0, vI p1, vI p2, vI j23_s0_6, vI j47_s0_16, vR b22, vI v31, vJ v32, .second, vJ v33, .second, vJ v34, .second] [])) _
    refine XS.lload X30.here hx rfl (hb hby at_91) rfl ?_
    show Steps p.tables e below (T30.setTop (mkF m 93 #[vI p0, vI p1, vI p2, vI j23_s0_6, vI j47_s0_16, vR b22, vI v31, vJ v32, .second, vJ v33, .second, vJ v34, .second] [(.long v32)])) _
    refine XS.lload X30.here hx rfl (hb hby at_93) rfl ?_
    show Steps p.tables e below (T30.setTop (mkF m 95 #[vI p0, vI p1, vI p2, vI j23_s0_6, vI j47_s0_16, vR b22, vI v31, vJ v32, .second, vJ v33, .second, vJ v34, .second] [(.long v34), (.long v32)])) _
    exact k)
  have nz38 : v34 ≠ 0 := d2
  have pre39 : Go p.tables e below S0 T30 (mkF m 98 #[vI p0, vI p1, vI p2, vI j23_s0_6, vI j47_s0_16, vR b22, vI v31, vJ v32, .second, vJ v33, .second, vJ v34, .second] [(.int (lcmpW (v32 % v34) (0 : Int64)))]) := fun t k => pre37 t (by
    refine lremM X30 hx rfl (hb hby at_95) rfl nz38 ?_
    show Steps p.tables e below (T30.setTop (mkF m 96 #[vI p0, vI p1, vI p2, vI j23_s0_6, vI j47_s0_16, vR b22, vI v31, vJ v32, .second, vJ v33, .second, vJ v34, .second] [(.long (v32 % v34))])) _
    refine XS.lconst X30.here hx rfl (hb hby at_96) ?_
    show Steps p.tables e below (T30.setTop (mkF m 97 #[vI p0, vI p1, vI p2, vI j23_s0_6, vI j47_s0_16, vR b22, vI v31, vJ v32, .second, vJ v33, .second, vJ v34, .second] [(.long (0 : Int64)), (.long (v32 % v34))])) _
    refine XS.lcmp X30.here hx rfl (hb hby at_97) rfl ?_
    show Steps p.tables e below (T30.setTop (mkF m 98 #[vI p0, vI p1, vI p2, vI j23_s0_6, vI j47_s0_16, vR b22, vI v31, vJ v32, .second, vJ v33, .second, vJ v34, .second] [(.int (lcmpW (v32 % v34) (0 : Int64)))])) _
    exact k)
  have cc40 : (v32 % v34) = (0 : Int64) := d3
  have pre41 : Go p.tables e below S0 T30 (mkF m 110 #[vI p0, vI p1, vI p2, vI j23_s0_6, vI j47_s0_16, vR b22, vI v31, vJ v32, .second, vJ v33, .second, vJ v34, .second] [(.int (lcmpW v32 (v33 - (1 : Int64))))]) := fun t k => pre39 t (by
    refine XS.ifYes X30.here hx rfl (pc0 := 98) (pc' := 103) rfl (hb hby at_98) rfl ((if0 _ _).trans (teq ((lw_eq _ _).mpr cc40)).1) (by decide) (by decide) ?_
    show Steps p.tables e below (T30.setTop (mkF m 103 #[vI p0, vI p1, vI p2, vI j23_s0_6, vI j47_s0_16, vR b22, vI v31, vJ v32, .second, vJ v33, .second, vJ v34, .second] [])) _
    refine XS.lload X30.here hx rfl (hb hby at_103) rfl ?_
    show Steps p.tables e below (T30.setTop (mkF m 105 #[vI p0, vI p1, vI p2, vI j23_s0_6, vI j47_s0_16, vR b22, vI v31, vJ v32, .second, vJ v33, .second, vJ v34, .second] [(.long v32)])) _
    refine XS.lload X30.here hx rfl (hb hby at_105) rfl ?_
    show Steps p.tables e below (T30.setTop (mkF m 107 #[vI p0, vI p1, vI p2, vI j23_s0_6, vI j47_s0_16, vR b22, vI v31, vJ v32, .second, vJ v33, .second, vJ v34, .second] [(.long v33), (.long v32)])) _
    refine XS.lconst X30.here hx rfl (hb hby at_107) ?_
    show Steps p.tables e below (T30.setTop (mkF m 108 #[vI p0, vI p1, vI p2, vI j23_s0_6, vI j47_s0_16, vR b22, vI v31, vJ v32, .second, vJ v33, .second, vJ v34, .second] [(.long (1 : Int64)), (.long v33), (.long v32)])) _
    refine XS.lsub X30.here hx rfl (hb hby at_108) rfl ?_
    show Steps p.tables e below (T30.setTop (mkF m 109 #[vI p0, vI p1, vI p2, vI j23_s0_6, vI j47_s0_16, vR b22, vI v31, vJ v32, .second, vJ v33, .second, vJ v34, .second] [(.long (v33 - (1 : Int64))), (.long v32)])) _
    refine XS.lcmp X30.here hx rfl (hb hby at_109) rfl ?_
    show Steps p.tables e below (T30.setTop (mkF m 110 #[vI p0, vI p1, vI p2, vI j23_s0_6, vI j47_s0_16, vR b22, vI v31, vJ v32, .second, vJ v33, .second, vJ v34, .second] [(.int (lcmpW v32 (v33 - (1 : Int64))))])) _
    exact k)
  have cc42 : ¬ ((v33 - (1 : Int64)) < v32) := d4
  have pre43 : Go p.tables e below S0 T30 (mkF m 123 #[vI p0, vI p1, vI p2, vI j23_s0_6, vI j47_s0_16, vR b22, vI v31, vJ v32, .second, vJ v33, .second, vJ v34, .second] [(.int (lcmpW (v33 - v32) v34))]) := fun t k => pre41 t (by
    refine XS.ifYes X30.here hx rfl (pc0 := 110) (pc' := 115) rfl (hb hby at_110) rfl ((if0 _ _).trans (flt (fun q => cc42 ((lw_gt _ _).mp q))).2.2.2) (by decide) (by decide) ?_
    show Steps p.tables e below (T30.setTop (mkF m 115 #[vI p0, vI p1, vI p2, vI j23_s0_6, vI j47_s0_16, vR b22, vI v31, vJ v32, .second, vJ v33, .second, vJ v34, .second] [])) _
    refine XS.lload X30.here hx rfl (hb hby at_115) rfl ?_
    show Steps p.tables e below (T30.setTop (mkF m 117 #[vI p0, vI p1, vI p2, vI j23_s0_6, vI j47_s0_16, vR b22, vI v31, vJ v32, .second, vJ v33, .second, vJ v34, .second] [(.long v33)])) _
    refine XS.lload X30.here hx rfl (hb hby at_117) rfl ?_
    show Steps p.tables e below (T30.setTop (mkF m 119 #[vI p0, vI p1, vI p2, vI j23_s0_6, vI j47_s0_16, vR b22, vI v31, vJ v32, .second, vJ v33, .second, vJ v34, .second] [(.long v32), (.long v33)])) _
    refine XS.lsub X30.here hx rfl (hb hby at_119) rfl ?_
    show Steps p.tables e below (T30.setTop (mkF m 120 #[vI p0, vI p1, vI p2, vI j23_s0_6, vI j47_s0_16, vR b22, vI v31, vJ v32, .second, vJ v33, .second, vJ v34, .second] [(.long (v33 - v32))])) _
    refine XS.lload X30.here hx rfl (hb hby at_120) rfl ?_
    show Steps p.tables e below (T30.setTop (mkF m 122 #[vI p0, vI p1, vI p2, vI j23_s0_6, vI j47_s0_16, vR b22, vI v31, vJ v32, .second, vJ v33, .second, vJ v34, .second] [(.long v34), (.long (v33 - v32))])) _
    refine XS.lcmp X30.here hx rfl (hb hby at_122) rfl ?_
    show Steps p.tables e below (T30.setTop (mkF m 123 #[vI p0, vI p1, vI p2, vI j23_s0_6, vI j47_s0_16, vR b22, vI v31, vJ v32, .second, vJ v33, .second, vJ v34, .second] [(.int (lcmpW (v33 - v32) v34))])) _
    exact k)
  have cc44 : ¬ (v34 < (v33 - v32)) := d5
  have pre45 : Go p.tables e below S0 T30 (mkF m 129 #[vI p0, vI p1, vI p2, vI j23_s0_6, vI j47_s0_16, vR b22, vI v31, vJ v32, .second, vJ v33, .second, vJ v34, .second] [(.int (1 : Int32))]) := fun t k => pre43 t (by
    refine XS.ifYes X30.here hx rfl (pc0 := 123) (pc' := 128) rfl (hb hby at_123) rfl ((if0 _ _).trans (flt (fun q => cc44 ((lw_gt _ _).mp q))).2.2.2) (by decide) (by decide) ?_
    show Steps p.tables e below (T30.setTop (mkF m 128 #[vI p0, vI p1, vI p2, vI j23_s0_6, vI j47_s0_16, vR b22, vI v31, vJ v32, .second, vJ v33, .second, vJ v34, .second] [])) _
    refine XS.iconst X30.here hx rfl (hb hby at_128) ?_
    show Steps p.tables e below (T30.setTop (mkF m 129 #[vI p0, vI p1, vI p2, vI j23_s0_6, vI j47_s0_16, vR b22, vI v31, vJ v32, .second, vJ v33, .second, vJ v34, .second] [(.int (1 : Int32))])) _
    exact k)
  obtain ⟨fs, hr, hrun, hended, hW, hsame⟩ := X30.leave (v := some (.int (1 : Int32))) (fun h => by rw [Bd.returns] at h; cases h)
  exact ⟨_, _, pre45.fin hS0 (retN X30 hx (t := .boolean) Bd.returns (by simp) (hb hby at_129) hr), hrun, hended, _, _, rfl, (by
    show Q0 Z p0 p1 p2 h0 n0 _ T30.heap _
    rw [eq30]
    exact ⟨rfl, N30⟩), ⟨_, rfl⟩, hW, hsame.mono (by decide) (by decide)⟩
set_option maxRecDepth 65536 in
set_option maxHeartbeats 40000000 in
theorem comes_1 {Post : Tables → Env → Array Value → State → Outcome → State → Prop} (hpost : ∀ tb e args s v u, (limb_1_1.after args s (.returned v) u = true ∧ limb_1_2.after args s (.returned v) u = true ∧ True) → FrameEnd s (.returned v) u (Jvm.fieldLocs frame_1_writes args s ++ Jvm.arrayLocs frame_1_arrays args s ++ Jvm.staticLocs frame_1_statics s) 16 128 → Post tb e args s (.returned v) u) :
    ArmFor flags0 classFile x code maxLocals ret World_1 tables_1 room_1 Calls_1 rest_1 Pre_1 Post := by
  intro l hfl _ _ p e ha hc hk s m args below hf hA hF happ hP
  obtain ⟨hcalls, hrest, hpre⟩ := hP
  obtain ⟨-, -, -, hnamed, -, -, -, hat⟩ := (Spec.applies_iff hf).mp happ
  obtain ⟨hg, hn⟩ := and_e (Cond.before_iff.mp (show (Jvm.Cond.and given_1 narrow_1).before args s = true from hpre))
  obtain ⟨g0, r0⟩ := and_e hg
  obtain ⟨g1, r1⟩ := and_e r0
  obtain ⟨g2, r2⟩ := and_e r1
  obtain ⟨w0, w1, w2, rfl⟩ : ∃ w0 w1 w2 : Value, args = #[w0, w1, w2] := by
    have hs : args.size = 3 := by simpa [Cond.value, given_1] using g0
    obtain ⟨L⟩ := args
    match L, hs with
    | [w0, w1, w2], _ => exact ⟨w0, w1, w2, rfl⟩
  have hw := fun d (hd : d ∈ tables_1) => atoms_spec (ws := Jvm.Cond.code x code maxLocals ret :: tables_1) hat d (List.mem_cons_of_mem _ hd)
  obtain ⟨i0, ei0⟩ := is_v g1
  obtain rfl : w0 = (.int i0) := Option.some.inj ei0
  obtain ⟨i1, ei1⟩ := is_v g2
  obtain rfl : w1 = (.int i1) := Option.some.inj ei1
  obtain ⟨i2, ei2⟩ := is_v r2
  obtain rfl : w2 = (.int i2) := Option.some.inj ei2
  obtain ⟨n, o, h1, h2, h3, _, L, rfl, ⟨rfl, N⟩, hq⟩ := rm0 l s _ hw tables_1 i0 i1 i2  s.heap s.heap.size (Nat.le_refl _) p e ha hc hk s m _ below hf ((Spec.applies_iff_loose hf).mp happ).1 ⟨rfl, State.Warmed39.refl s, rfl⟩ trivial
  refine ⟨n, _, h1, h2, h3, hpost _ _ _ _ _ _ ⟨Cond.after_iff.mpr rfl, Cond.after_iff.mpr (eq_i res_at (Term.int_eval (1)) rfl), trivial⟩ ⟨hq.1, hq.2.1, (hq.2.2.sift fun y hy => Or.inr (N y hy)).mono (by decide) (by decide)⟩⟩
theorem main_1_1 : Claimed_1_1 := comes_1 fun _ _ _ _ _ _ h hF => ⟨h.1, hF⟩
theorem main_1_2 : Claimed_1_2 := comes_1 fun _ _ _ _ _ _ h hF => ⟨h.2.1, hF⟩
end Jvm.Pilot.@@N@@
namespace Jvm.Pilot.@@N@@
open Jvm Jvm.ClassFile Sem Op Lib Jvm.Free Jvm.Stand Jvm.Pilot.@@N@@.Jvm.D
/-! MADE BY PROGRAM (witnessworld.py) out of the Statement's table words and the real class files: 10 classes; the members and pool entries that the words name. The judged class is class 1, her method 1. -/
namespace start1
open Jvm.ClassFile
def u (s : String) : CpInfo := .utf8 (stringToUtf16 s)
/-- a pool by its gaps: so many unusable entries, then the entry; so many at the end -/
def gap : Nat → List CpInfo → List CpInfo
  | 0, r => r
  | n + 1, r => .unusable :: gap n r
def poolList (es : List (Nat × CpInfo)) (last : Nat) : List CpInfo := es.foldr (fun e r => gap e.1 (e.2 :: r)) (gap last [])
def pool (es : List (Nat × CpInfo)) (last : Nat) : Array CpInfo := ⟨poolList es last⟩
def fileOf (pool : Array CpInfo) (this : Nat) (attrs : Array Attribute := #[]) (ms : Array MethodInfo := #[]) (fl : Nat := 33) (sup : Nat := 0) (ifs : Array Nat := #[]) (fds : Array FieldInfo := #[]) : ClassFile where
  minorVersion := 0
  majorVersion := 65
  constantPool := pool
  accessFlags := fl
  thisClass := this
  superClass := sup
  interfaces := ifs
  fields := fds
  methods := ms
  attributes := attrs
def plain (name : String) (sup : Option ClassId) : Class where
  name := name
  kind := .ordinary
  loader := none
  accessFlags := 33
  super := sup
  interfaces := #[]
  cf := none
  fields := #[]
  methods := #[]
  instanceTypes := #[]
  staticTypes := #[]
  resolved := #[]
  callSites := []
  init := .initialized
  statics := none
  mirror := none

def pool0 : Array CpInfo := pool [(5, u "<init>"), (0, u "()V"), (1, .class_ 10), (1, u "java/lang/Object")] 113

def k0c0 : Code := { maxStack := 0, maxLocals := 1, code := object_method_1_code, exceptionTable := #[], attributes := #[] }
def k0m0 : Method := { name := "<init>", desc := "()V", sig := { parameters := [], returnType := none }, accessFlags := 1, code := some k0c0 }
/-- java/lang/Object -/
def k0 : Class := { plain "java/lang/Object" none with
  accessFlags := 33
  interfaces := #[]
  cf := some (fileOf pool0 8 #[] #[{ accessFlags := 1, nameIndex := 5, descriptorIndex := 6, attributes := #[] }] 33 0 #[] #[])
  fields := #[]
  methods := #[k0m0]
  instanceTypes := #[]
  staticTypes := #[]
  resolved := Array.replicate 124 none
  statics := none }

def pool1 : Array CpInfo := pool [(2, .class_ 4), (1, u "java/lang/Object"), (0, u "<init>"), (0, u "()V"), (0, .integer 2147483647), (0, .methodref 9 10), (0, .class_ 11), (0, .nameAndType 12 13), (0, u "java/lang/Math"), (0, u "max"), (0, u "(II)I"), (0, .class_ 15), (0, u "com/example/tariff_riders/tariffriders/TermLength"), (0, .methodref 14 17), (0, .nameAndType 5 18), (0, u "(I)V"), (0, .methodref 14 20), (0, .nameAndType 21 22), (0, u "termStartOf"), (0, u "(I)I"), (0, .class_ 24), (0, u "com/example/tariff_riders/tariffriders/TermLengthTermStartOfPinLaw"), (2, u "law"), (0, u "(III)Z")] 3

def k1m0 : Method := { name := "<init>", desc := "()V", sig := { parameters := [], returnType := none }, accessFlags := 1, code := none }
def k1c1 : Code := { maxStack := 6, maxLocals := 13, code := code, exceptionTable := #[], attributes := #[] }
def k1m1 : Method := { name := "law", desc := "(III)Z", sig := { parameters := [.int, .int, .int], returnType := some .boolean }, accessFlags := 9, code := some k1c1 }
/-- com/example/tariff_riders/tariffriders/TermLengthTermStartOfPinLaw -/
def k1 : Class := { plain "com/example/tariff_riders/tariffriders/TermLengthTermStartOfPinLaw" (some 0) with
  accessFlags := 49
  interfaces := #[]
  cf := some (fileOf pool1 23 #[] #[{ accessFlags := 1, nameIndex := 5, descriptorIndex := 6, attributes := #[] }, { accessFlags := 9, nameIndex := 27, descriptorIndex := 28, attributes := #[] }] 49 2 #[] #[])
  fields := #[]
  methods := #[k1m0, k1m1]
  instanceTypes := #[]
  staticTypes := #[]
  resolved := Array.replicate 32 none
  statics := none }

def pool2 : Array CpInfo := pool [(1, .class_ 2), (0, u "java/lang/Math"), (1, .class_ 6), (1, u "java/lang/Object"), (0, u "<init>"), (0, u "()V"), (89, .class_ 100), (1, u "java/lang/Math$RandomNumberGeneratorHolder"), (71, u "negativeZeroFloatBits"), (0, u "J"), (2, u "negativeZeroDoubleBits"), (21, u "max"), (46, u "$assertionsDisabled"), (0, u "Z"), (88, u "(II)I"), (2, u "twoToTheDoubleScaleDown"), (0, u "D"), (4, u "twoToTheDoubleScaleUp"), (9, u "E"), (3, u "PI"), (2, u "TAU"), (2, u "DEGREES_TO_RADIANS"), (0, u "RADIANS_TO_DEGREES")] 94

def k2m0 : Method := { name := "<init>", desc := "()V", sig := { parameters := [], returnType := none }, accessFlags := 2, code := none }
def k2c1 : Code := { maxStack := 2, maxLocals := 2, code := jdk_29_method_65_code, exceptionTable := #[], attributes := #[] }
def k2m1 : Method := { name := "max", desc := "(II)I", sig := { parameters := [.int, .int], returnType := some .int }, accessFlags := 9, code := some k2c1 }
/-- java/lang/Math -/
def k2 : Class := { plain "java/lang/Math" (some 0) with
  accessFlags := 49
  interfaces := #[]
  cf := some (fileOf pool2 1 #[.nestMembers #[98]] #[{ accessFlags := 2, nameIndex := 7, descriptorIndex := 8, attributes := #[] }, { accessFlags := 9, nameIndex := 198, descriptorIndex := 335, attributes := #[] }] 49 4 #[] #[{ accessFlags := 25, nameIndex := 354, descriptorIndex := 339, attributes := #[] }, { accessFlags := 25, nameIndex := 358, descriptorIndex := 339, attributes := #[] }, { accessFlags := 25, nameIndex := 361, descriptorIndex := 339, attributes := #[] }, { accessFlags := 26, nameIndex := 364, descriptorIndex := 339, attributes := #[] }, { accessFlags := 26, nameIndex := 365, descriptorIndex := 339, attributes := #[] }, { accessFlags := 26, nameIndex := 172, descriptorIndex := 173, attributes := #[] }, { accessFlags := 26, nameIndex := 176, descriptorIndex := 173, attributes := #[] }, { accessFlags := 8, nameIndex := 344, descriptorIndex := 339, attributes := #[] }, { accessFlags := 8, nameIndex := 338, descriptorIndex := 339, attributes := #[] }, { accessFlags := 4120, nameIndex := 245, descriptorIndex := 246, attributes := #[] }])
  fields := #[{ name := "E", type := .double, accessFlags := 25, slot := 0, constantValue := 0 }, { name := "PI", type := .double, accessFlags := 25, slot := 1, constantValue := 0 }, { name := "TAU", type := .double, accessFlags := 25, slot := 2, constantValue := 0 }, { name := "DEGREES_TO_RADIANS", type := .double, accessFlags := 26, slot := 3, constantValue := 0 }, { name := "RADIANS_TO_DEGREES", type := .double, accessFlags := 26, slot := 4, constantValue := 0 }, { name := "negativeZeroFloatBits", type := .long, accessFlags := 26, slot := 5, constantValue := 0 }, { name := "negativeZeroDoubleBits", type := .long, accessFlags := 26, slot := 6, constantValue := 0 }, { name := "twoToTheDoubleScaleUp", type := .double, accessFlags := 8, slot := 7, constantValue := 0 }, { name := "twoToTheDoubleScaleDown", type := .double, accessFlags := 8, slot := 8, constantValue := 0 }, { name := "$assertionsDisabled", type := .boolean, accessFlags := 4120, slot := 9, constantValue := 0 }]
  methods := #[k2m0, k2m1]
  instanceTypes := #[]
  staticTypes := #[.double, .double, .double, .double, .double, .long, .long, .double, .double, .boolean]
  resolved := Array.replicate 460 none
  statics := none }

def pool3 : Array CpInfo := pool [(1, .methodref 2 3), (0, .class_ 4), (0, .nameAndType 5 6), (0, u "java/lang/Object"), (0, u "<init>"), (0, u "()V"), (0, .fieldref 8 9), (0, .class_ 10), (0, .nameAndType 11 12), (0, u "com/example/tariff_riders/tariffriders/TermLength"), (0, u "length"), (0, u "I"), (0, u "(I)V"), (6, u "termStartOf"), (0, u "(I)I")] 2

def k3c0 : Code := { maxStack := 2, maxLocals := 2, code := prog_39_method_1_code, exceptionTable := #[], attributes := #[] }
def k3m0 : Method := { name := "<init>", desc := "(I)V", sig := { parameters := [.int], returnType := none }, accessFlags := 0, code := some k3c0 }
def k3c1 : Code := { maxStack := 2, maxLocals := 2, code := prog_39_method_4_code, exceptionTable := #[], attributes := #[] }
def k3m1 : Method := { name := "termStartOf", desc := "(I)I", sig := { parameters := [.int], returnType := some .int }, accessFlags := 0, code := some k3c1 }
/-- com/example/tariff_riders/tariffriders/TermLength -/
def k3 : Class := { plain "com/example/tariff_riders/tariffriders/TermLength" (some 0) with
  accessFlags := 48
  interfaces := #[]
  cf := some (fileOf pool3 8 #[] #[{ accessFlags := 0, nameIndex := 5, descriptorIndex := 13, attributes := #[] }, { accessFlags := 0, nameIndex := 20, descriptorIndex := 21, attributes := #[] }] 48 2 #[] #[{ accessFlags := 18, nameIndex := 11, descriptorIndex := 12, attributes := #[] }])
  fields := #[{ name := "length", type := .int, accessFlags := 18, slot := 0, constantValue := 0 }]
  methods := #[k3m0, k3m1]
  instanceTypes := #[.int]
  staticTypes := #[]
  resolved := Array.replicate 24 none
  statics := none }

def pool4 : Array CpInfo := pool [(1, u "java/lang/Cloneable"), (0, .class_ 1), (0, u "java/lang/Object"), (0, .class_ 3)] 3

/-- java/lang/Cloneable -/
def k4 : Class := { plain "java/lang/Cloneable" (some 0) with
  accessFlags := 1537
  interfaces := #[]
  cf := some (fileOf pool4 2 #[] #[] 1537 4 #[] #[])
  fields := #[]
  methods := #[]
  instanceTypes := #[]
  staticTypes := #[]
  resolved := Array.replicate 8 none
  statics := none }

def pool5 : Array CpInfo := pool [(1, u "java/io/Serializable"), (0, .class_ 1), (0, u "java/lang/Object"), (0, .class_ 3)] 3

/-- java/io/Serializable -/
def k5 : Class := { plain "java/io/Serializable" (some 0) with
  accessFlags := 1537
  interfaces := #[]
  cf := some (fileOf pool5 2 #[] #[] 1537 4 #[] #[])
  fields := #[]
  methods := #[]
  instanceTypes := #[]
  staticTypes := #[]
  resolved := Array.replicate 8 none
  statics := none }

/-- the primitive byte -/
def k6 : Class := { plain "byte" none with kind := .primitive 'B', accessFlags := 0x411 }
/-- [B -/
def k7 : Class := { plain "[B" (some 0) with kind := .array 6 .byte, interfaces := #[4, 5], accessFlags := 1041 }

/-- the primitive int -/
def k8 : Class := { plain "int" none with kind := .primitive 'I', accessFlags := 0x411 }
/-- [I -/
def k9 : Class := { plain "[I" (some 0) with kind := .array 8 .int, interfaces := #[4, 5], accessFlags := 1041 }

def heap : Heap := #[]
def classes : Array Class := #[k0, k1, k2, k3, k4, k5, k6, k7, k8, k9]
def interned : List (Array UInt16 × Addr) := []
def slotsUsed : Nat := 0
def theMethod : MethodId := ⟨1, 1⟩
def args0 : Array Value := #[.int 5, .int 6, .int 7]
def aboutOver (below : List Frame) : State where
  vm := { classes := classes, interned := interned.toArray }
  heap := heap
  slotsUsed := slotsUsed
  threads := #[{ frames := .invoking theMethod args0 :: below }]
def below0 : List Frame := [.native { method := ⟨0, 0⟩, args := #[] }]
def about1 : State := aboutOver below0
def p0 : Program := .bare "" "" ""
def e0 : Env := launch0.env 0 0 0
theorem w_frames : about1.frames = Frame.invoking theMethod args0 :: below0 := rfl
set_option maxRecDepth 65536 in
theorem w_args : argsFit about1.vm theMethod args0 = true := by decide +kernel
set_option maxRecDepth 65536 in
theorem w_heap : heapFits about1 = true := by decide +kernel
set_option maxRecDepth 65536 in
theorem w_runnable : about1.curStatus? = some .runnable := by decide +kernel
set_option maxRecDepth 65536 in
theorem w_alone : about1.alone = true := by decide +kernel
set_option maxRecDepth 65536 in
theorem w_named : about1.methodNamed? x = some theMethod := by decide +kernel
set_option maxRecDepth 65536 in
theorem w_hears : about1.hears theMethod below0 = true := by decide +kernel
set_option maxRecDepth 65536 in
theorem w_ripe : about1.ripe theMethod args0 below0 = true := by decide +kernel
theorem w_running : about1.status = .running := rfl
set_option maxRecDepth 65536 in
theorem w_room : about1.hasRoom e0.platform room_1 = true :=
  launch0.hasRoom_least _ room_1 (by decide +kernel) (by decide +kernel) (by decide +kernel) (by decide +kernel) (by decide +kernel) (by decide +kernel)
theorem allAtoms_all (ts : List Jvm.Cond) (a : Array Jvm.Value) (st : Jvm.State) : (allAtoms ts).before a st = ts.all (fun c => c.before a st) := by
  induction ts with
  | nil => rfl
  | cons c t ih =>
    show (Jvm.Cond.and c (allAtoms t)).before a st = _
    rw [Jvm.Cond.before_and, ih, List.all_cons]
def words1 : List Jvm.Cond := Jvm.Cond.code x code maxLocals ret :: tables_1
/-- a 'code' word, met by the world's own term for the bytes: nothing is compared byte by byte -/
theorem code_word {y : MethodName} {bytes : ByteArray} {mx : Nat} {rt : Option FieldType} {a : Array Value} {s : State} {m : MethodId} {meth : Method} {c : Code} (h1 : s.methodNamed? y = some m) (h2 : s.vm.method? m = some meth) (h3 : meth.code = some c) (h4 : c.code = bytes)
    (h5 : (c.maxLocals == mx && c.exceptionTable.isEmpty && decide (c.maxStack ≤ mostOperands) && decide (meth.sig.returnType = rt) && !meth.locks && decide (parseMethodDescriptor y.desc = some meth.sig)) = true) : (Jvm.Cond.code y bytes mx rt).before a s = true := by
  simp only [Bool.and_eq_true, beq_iff_eq, Bool.not_eq_true', decide_eq_true_eq] at h5
  obtain ⟨⟨⟨⟨⟨g1, g2⟩, g3⟩, g4⟩, g5⟩, g6⟩ := h5
  simp [Cond.before, Cond.holds, Cond.value, h1, h2, h3, h4, g1, g2, g3, g4, g5, g6]
def isCode : Jvm.Cond → Bool
  | .code _ _ _ _ => true
  | _ => false
theorem all_split {L : List Jvm.Cond} {P : Jvm.Cond → Bool} (h1 : L.all (fun c => isCode c || P c) = true) (h2 : ∀ c ∈ L.filter isCode, P c = true) : L.all P = true := by
  refine List.all_eq_true.mpr fun c hc => ?_
  have h := List.all_eq_true.mp h1 c hc
  rcases Bool.eq_false_or_eq_true (isCode c) with hi | hi
  · exact h2 c (List.mem_filter.mpr ⟨hc, hi⟩)
  · simpa [hi] using h
set_option maxRecDepth 65536 in
theorem w_c0 : (Jvm.Cond.code x code maxLocals ret).before args0 about1 = true := code_word (m := ⟨1, 1⟩) (meth := k1m1) (c := k1c1) (by decide +kernel) rfl rfl rfl (by decide +kernel)
set_option maxRecDepth 65536 in
theorem w_c1 : (Jvm.Cond.code ({ cls := "java/lang/Math", name := "max", desc := "(II)I" } : Jvm.MethodName) jdk_29_method_65_code (2 : Nat) (Option.some Jvm.ClassFile.FieldType.int)).before args0 about1 = true := code_word (m := ⟨2, 1⟩) (meth := k2m1) (c := k2c1) (by decide +kernel) rfl rfl rfl (by decide +kernel)
set_option maxRecDepth 65536 in
theorem w_c2 : (Jvm.Cond.code ({ cls := "com/example/tariff_riders/tariffriders/TermLength", name := "<init>", desc := "(I)V" } : Jvm.MethodName) prog_39_method_1_code (2 : Nat) (Option.none : Option Jvm.ClassFile.FieldType)).before args0 about1 = true := code_word (m := ⟨3, 0⟩) (meth := k3m0) (c := k3c0) (by decide +kernel) rfl rfl rfl (by decide +kernel)
set_option maxRecDepth 65536 in
theorem w_c3 : (Jvm.Cond.code ({ cls := "java/lang/Object", name := "<init>", desc := "()V" } : Jvm.MethodName) object_method_1_code (1 : Nat) (Option.none : Option Jvm.ClassFile.FieldType)).before args0 about1 = true := code_word (m := ⟨0, 0⟩) (meth := k0m0) (c := k0c0) (by decide +kernel) rfl rfl rfl (by decide +kernel)
set_option maxRecDepth 65536 in
theorem w_c4 : (Jvm.Cond.code ({ cls := "com/example/tariff_riders/tariffriders/TermLength", name := "termStartOf", desc := "(I)I" } : Jvm.MethodName) prog_39_method_4_code (2 : Nat) (Option.some Jvm.ClassFile.FieldType.int)).before args0 about1 = true := code_word (m := ⟨3, 1⟩) (meth := k3m1) (c := k3c1) (by decide +kernel) rfl rfl rfl (by decide +kernel)
def codes1 : List Jvm.Cond := [Jvm.Cond.code x code maxLocals ret, Jvm.Cond.code ({ cls := "java/lang/Math", name := "max", desc := "(II)I" } : Jvm.MethodName) jdk_29_method_65_code (2 : Nat) (Option.some Jvm.ClassFile.FieldType.int), Jvm.Cond.code ({ cls := "com/example/tariff_riders/tariffriders/TermLength", name := "<init>", desc := "(I)V" } : Jvm.MethodName) prog_39_method_1_code (2 : Nat) (Option.none : Option Jvm.ClassFile.FieldType), Jvm.Cond.code ({ cls := "java/lang/Object", name := "<init>", desc := "()V" } : Jvm.MethodName) object_method_1_code (1 : Nat) (Option.none : Option Jvm.ClassFile.FieldType), Jvm.Cond.code ({ cls := "com/example/tariff_riders/tariffriders/TermLength", name := "termStartOf", desc := "(I)I" } : Jvm.MethodName) prog_39_method_4_code (2 : Nat) (Option.some Jvm.ClassFile.FieldType.int)]
set_option maxRecDepth 65536 in
theorem codes_eq : words1.filter isCode = codes1 := rfl
theorem w_codes : ∀ c ∈ words1.filter isCode, c.before args0 about1 = true := by
  rw [codes_eq]
  intro c hc
  simp only [codes1, List.mem_cons, List.not_mem_nil, or_false] at hc
  rcases hc with rfl | rfl | rfl | rfl | rfl
  · exact w_c0
  · exact w_c1
  · exact w_c2
  · exact w_c3
  · exact w_c4
set_option maxRecDepth 65536 in
theorem w_t1 : words1.all (fun c => isCode c || c.before args0 about1) = true := by decide +kernel
theorem w_tables : (allAtoms (Jvm.Cond.code x code maxLocals ret :: tables_1)).before args0 about1 = true := by
  rw [allAtoms_all]
  show words1.all (fun c => c.before args0 about1) = true
  refine all_split ?_ w_codes
  rw [w_t1]
set_option maxRecDepth 65536 in
theorem w_case : (Jvm.Cond.and given_1 narrow_1).before args0 about1 = true := by decide +kernel
theorem w_applies : (headSpec (Jvm.Cond.code x code maxLocals ret :: tables_1) room_1).applies x e0.platform about1 = true :=
  (Spec.applies_iff w_frames).mpr ⟨w_running, w_runnable, w_alone, w_named, w_hears, w_ripe, w_room, w_tables⟩
theorem atStart : AtStart classFile x code maxLocals ret World_1 tables_1 room_1 Calls_1 rest_1 Pre_1 launch0 p0 e0 about1 theMethod args0 below0 :=
  ⟨lists_1, trivial, launch0.admits_env _ _ _, launch0.least_env, fairChoices_fair.cas, fairChoices_fair.clock, w_frames, w_args, w_heap, w_applies, trivial, trivial, w_case⟩
end start1
theorem witness_1 : WitnessClaimed_1 := ⟨start1.p0, start1.e0, start1.about1, start1.theMethod, start1.args0, start1.below0, start1.atStart⟩
end Jvm.Pilot.@@N@@
