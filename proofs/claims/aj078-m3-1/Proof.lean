import JvmDerived
import JvmDerived.Pilot.@@N@@Statement
import JvmDerived.Pilot.@@N@@Code
set_option linter.unusedVariables false
set_option linter.unusedSimpArgs false
namespace Jvm.RoadKit
open Sem ClassFile Op Lib Jvm.Stand Jvm.Free Jvm.LawKit
abbrev vI (x : Int32) : Slot := .val (.int x)
abbrev vJ (x : Int64) : Slot := .val (.long x)
abbrev vR (a : Addr) : Slot := .val (.ref a)
/-- from S0 the run comes to T with g on top -/
def Go (tb : Tables) (e : Env) (below : List Frame) (S0 T : State) (g : JFrame) : Prop := ∀ t, Steps tb e below (T.setTop g) t → Steps tb e below S0 t
theorem Go.fin {tb : Tables} {e : Env} {below : List Frame} {S0 S T t : State} {g : JFrame} (h : Go tb e below S0 T g) (q : S0 = S) (k : Steps tb e below (T.setTop g) t) : Steps tb e below S t := q ▸ h t k
section New
variable {p : Program} {l : Launch} {e : Env} {R : Room} {s : State} {m : MethodId} {args : Array Value} {below : List Frame} {meth : Method} {c : Code} {T : State} {locs : List Loc} {cells slots : Nat}
theorem retJ (X : Stand p l e R s m args below meth c T locs cells slots) (hx : p.tables.exec = Jvm.exec) {pc : Nat} {Ls : Array Slot} {z : Int64} {rest : List Value} (hret : meth.sig.returnType = some .long) (hd : decode c.code pc = .ok (.lreturn, 1)) {fs : List Frame}
    (hl : ∀ (f : JFrame) (acts : List Action), f.method = m → f.locked = none → f.entered = [] → (doReturn e (T.setTop f) acts (some (.long z))).1 = T.setFrames fs) : Steps p.tables e below (T.setTop (mkF m pc Ls (.long z :: rest))) (T.setFrames fs) := by
  have hm' : T.vm.method? m = some meth := X.method'
  have hn : narrow .long (.long z) = .long z := rfl
  show Steps p.tables e below (T.setTop { method := m, pc := pc, locals := Ls, stack := _ :: rest, locked := none }) _
  jvm_step X.here [X.here.top, hx, hd, hm', hret, hn]
  first | (intro acts; rw [hl _ acts rfl rfl rfl]) | rw [hl _ _ rfl rfl rfl]
  exact Steps.refl _
end New
end Jvm.RoadKit
namespace Jvm.Pilot.@@N@@
open Jvm Jvm.ClassFile Sem Op Lib Jvm.Free Jvm.Stand Jvm.LawKit Jvm.RoadKit Bundle Jvm.Pilot.@@N@@.Jvm.D
theorem ef_1_0 (m : MethodId) (x0 : Addr) : entryFrame m #[(.ref x0)] 7 = mkF m 0 #[.val (.ref x0), .unset, .unset, .unset, .unset, .unset, .unset] [] := by first | (simp [entryFrame, mkF, argsToLocals, Value.category]; done) | rfl
theorem pn_0 : plainName "com/example/motiflow/motiflow/Tally" = true := by first | (simp [plainName, overriddenIn]; done) | decide +kernel
theorem d1_0 : decode prog_135_method_10_code 0 = .ok (.lconst 0, 1) := by decide +kernel
theorem d1_1 : decode prog_135_method_10_code 1 = .ok (.lstore_n 1, 1) := by decide +kernel
theorem d1_2 : decode prog_135_method_10_code 2 = .ok (.aload_n 0, 1) := by decide +kernel
theorem d1_3 : decode prog_135_method_10_code 3 = .ok (.astore_n 3, 1) := by decide +kernel
theorem d1_4 : decode prog_135_method_10_code 4 = .ok (.aload_n 3, 1) := by decide +kernel
theorem d1_5 : decode prog_135_method_10_code 5 = .ok (.arraylength, 1) := by decide +kernel
theorem d1_6 : decode prog_135_method_10_code 6 = .ok (.istore 4, 2) := by decide +kernel
theorem d1_8 : decode prog_135_method_10_code 8 = .ok (.iconst 0, 1) := by decide +kernel
theorem d1_9 : decode prog_135_method_10_code 9 = .ok (.istore 5, 2) := by decide +kernel
theorem d1_11 : decode prog_135_method_10_code 11 = .ok (.iload 5, 2) := by decide +kernel
theorem d1_13 : decode prog_135_method_10_code 13 = .ok (.iload 4, 2) := by decide +kernel
theorem d1_15 : decode prog_135_method_10_code 15 = .ok (.if_icmp .ge 21, 3) := by decide +kernel
theorem d1_36 : decode prog_135_method_10_code 36 = .ok (.lload_n 1, 1) := by decide +kernel
theorem d1_37 : decode prog_135_method_10_code 37 = .ok (.lreturn, 1) := by decide +kernel
def Q1_0 (Z : State) (a0 : Addr) (k0 : ClassId)  (h0 : Heap) (n0 : Nat) (v : Option Value) (h : Heap) (L : List Loc) : Prop := v = some (.long (0 : Int64)) ∧ Fr n0 L ∧ h = h0
set_option maxRecDepth 65536 in
set_option maxHeartbeats 40000000 in
theorem rm1_0 (l : Launch) (Z : State) (A0 : Array Value) (hw : ∀ d ∈ tables_1, d.before A0 Z = true) (ws : List Jvm.Cond) (a0 : Addr) (k0 : ClassId)  (h0 : Heap) (n0 : Nat) (Z0 : n0 ≤ h0.size) (V0 : Arv Z h0 a0 k0 .int (0 : Int32) [] (.int (0 : Int32))) :
    MetFree l (⟨"com/example/motiflow/motiflow/Tally", "explained", "([I)J"⟩ : MethodName) (head1 (Jvm.Cond.code (⟨"com/example/motiflow/motiflow/Tally", "explained", "([I)J"⟩ : MethodName) prog_135_method_10_code 7 (some .long) :: ws) ({ frames := 0, cells := 0, slots := 0, locals := 0 } : Room)) (fun a U => a = #[(.ref a0)] ∧ Z.Warmed39 U.vm ∧ U.heap = h0) (fun _ _ _ _ _ => True) (fun _ U o U' => ∃ v L, o = .returned v ∧ Q1_0 Z a0 k0 h0 n0 v U'.heap L ∧ FrameEnd U o U' L ({ frames := 0, cells := 0, slots := 0, locals := 0 } : Room).cells ({ frames := 0, cells := 0, slots := 0, locals := 0 } : Room).slots) := by
  refine MetFree.of_bodySF (plainFor_of_name pn_0) hisR ?_
  intro p e s m args below meth c s₁ Bd hml0 hP hK
  obtain ⟨rfl, hZ, hh⟩ := hP
  have hx := Bd.exec
  have hby := Bd.bytes
  have hml : c.maxLocals = 7 := hml0
  have hown : s.vm.findClass "com/example/motiflow/motiflow/Tally" = some m.cls := findClass_of_methodNamed Bd.named
  have hnm := (name_of_methodNamed Bd.named Bd.method).1
  have X0 : Stand p l e ({ frames := 0, cells := 0, slots := 0, locals := 0 } : Room) s m #[(.ref a0)] below meth c s₁ [] 0 0 := Stand.of_body Bd
  have e0 : s₁.heap = h0 := by rw [← hh, Bd.state]; rfl
  have N0 := Fr.nil n0
  obtain ⟨S0, hS0⟩ : ∃ z, z = s₁.setTop (entryFrame m #[(.ref a0)] 7) := ⟨_, rfl⟩
  have pre0 : Go p.tables e below S0 s₁ (mkF m 0 #[vR a0, .unset, .unset, .unset, .unset, .unset, .unset] []) := fun t k => by rw [hS0]; exact castTop (ef_1_0 m a0) k
  have pre1 : Go p.tables e below S0 s₁ (mkF m 5 #[vR a0, vJ (0 : Int64), .second, vR a0, .unset, .unset, .unset] [(.ref a0)]) := fun t k => pre0 t (by
    refine XS.lconst X0.here hx rfl (hb hby d1_0) ?_
    show Steps p.tables e below (s₁.setTop (mkF m 1 #[vR a0, .unset, .unset, .unset, .unset, .unset, .unset] [(.long (0 : Int64))])) _
    refine XS.lstoreN X0.here hx rfl (hb hby d1_1) rfl (l' := #[vR a0, vJ (0 : Int64), .second, .unset, .unset, .unset, .unset]) rfl ?_
    show Steps p.tables e below (s₁.setTop (mkF m 2 #[vR a0, vJ (0 : Int64), .second, .unset, .unset, .unset, .unset] [])) _
    refine XS.aloadN X0.here hx rfl (hb hby d1_2) rfl rfl ?_
    show Steps p.tables e below (s₁.setTop (mkF m 3 #[vR a0, vJ (0 : Int64), .second, .unset, .unset, .unset, .unset] [(.ref a0)])) _
    refine XS.astoreN X0.here hx rfl (hb hby d1_3) rfl rfl (l' := #[vR a0, vJ (0 : Int64), .second, vR a0, .unset, .unset, .unset]) rfl ?_
    show Steps p.tables e below (s₁.setTop (mkF m 4 #[vR a0, vJ (0 : Int64), .second, vR a0, .unset, .unset, .unset] [])) _
    refine XS.aloadN X0.here hx rfl (hb hby d1_4) rfl rfl ?_
    show Steps p.tables e below (s₁.setTop (mkF m 5 #[vR a0, vJ (0 : Int64), .second, vR a0, .unset, .unset, .unset] [(.ref a0)])) _
    exact k)
  obtain ⟨cl2, Ar2, q2, S2, M2, H2, G2⟩ := id V0
  have pre3 : Go p.tables e below S0 s₁ (mkF m 37 #[vR a0, vJ (0 : Int64), .second, vR a0, vI (0 : Int32), vI (0 : Int32), .unset] [(.long (0 : Int64))]) := fun t k => pre1 t (by
    refine X0.arraylength hx (by rw [e0]; exact Ar2.1) (State.isArrayOf_alike hZ.alike Ar2.2.1) (g := (mkF m 5 #[vR a0, vJ (0 : Int64), .second, vR a0, .unset, .unset, .unset] [(.ref a0)])) rfl rfl (hb hby d1_5) _ ?_
    rw [len_of S2 M2]
    show Steps p.tables e below (s₁.setTop (mkF m 6 #[vR a0, vJ (0 : Int64), .second, vR a0, .unset, .unset, .unset] [(.int (0 : Int32))])) _
    refine XS.istore X0.here hx rfl (hb hby d1_6) rfl (l' := #[vR a0, vJ (0 : Int64), .second, vR a0, vI (0 : Int32), .unset, .unset]) rfl ?_
    show Steps p.tables e below (s₁.setTop (mkF m 8 #[vR a0, vJ (0 : Int64), .second, vR a0, vI (0 : Int32), .unset, .unset] [])) _
    refine XS.iconst X0.here hx rfl (hb hby d1_8) ?_
    show Steps p.tables e below (s₁.setTop (mkF m 9 #[vR a0, vJ (0 : Int64), .second, vR a0, vI (0 : Int32), .unset, .unset] [(.int (0 : Int32))])) _
    refine XS.istore X0.here hx rfl (hb hby d1_9) rfl (l' := #[vR a0, vJ (0 : Int64), .second, vR a0, vI (0 : Int32), vI (0 : Int32), .unset]) rfl ?_
    show Steps p.tables e below (s₁.setTop (mkF m 11 #[vR a0, vJ (0 : Int64), .second, vR a0, vI (0 : Int32), vI (0 : Int32), .unset] [])) _
    refine XS.iload X0.here hx rfl (hb hby d1_11) rfl ?_
    show Steps p.tables e below (s₁.setTop (mkF m 13 #[vR a0, vJ (0 : Int64), .second, vR a0, vI (0 : Int32), vI (0 : Int32), .unset] [(.int (0 : Int32))])) _
    refine XS.iload X0.here hx rfl (hb hby d1_13) rfl ?_
    show Steps p.tables e below (s₁.setTop (mkF m 15 #[vR a0, vJ (0 : Int64), .second, vR a0, vI (0 : Int32), vI (0 : Int32), .unset] [(.int (0 : Int32)), (.int (0 : Int32))])) _
    refine XS.icmpYes X0.here hx rfl (pc0 := 15) (pc' := 36) rfl (hb hby d1_15) rfl (flt (by decide : ¬ ((0 : Int32) < (0 : Int32)))).2.1 (by decide) (by decide) ?_
    show Steps p.tables e below (s₁.setTop (mkF m 36 #[vR a0, vJ (0 : Int64), .second, vR a0, vI (0 : Int32), vI (0 : Int32), .unset] [])) _
    refine XS.lloadN X0.here hx rfl (hb hby d1_36) rfl ?_
    show Steps p.tables e below (s₁.setTop (mkF m 37 #[vR a0, vJ (0 : Int64), .second, vR a0, vI (0 : Int32), vI (0 : Int32), .unset] [(.long (0 : Int64))])) _
    exact k)
  obtain ⟨fs, hr, hrun, hended, hW, hsame⟩ := X0.leave (v := some (.long (0 : Int64))) (fun h => by rw [Bd.returns] at h; cases h)
  exact ⟨_, _, pre3.fin hS0 (retJ X0 hx Bd.returns (hb hby d1_37) hr), hrun, hended, _, _, rfl, (by
    show Q1_0 Z a0 k0 h0 n0 _ s₁.heap _
    rw [e0]
    exact ⟨rfl, N0, rfl⟩), ⟨_, rfl⟩, hW, hsame.mono (by decide) (by decide)⟩
theorem ef_1_1 (m : MethodId) (x0 : Addr) : entryFrame m #[(.ref x0)] 7 = mkF m 0 #[.val (.ref x0), .unset, .unset, .unset, .unset, .unset, .unset] [] := by first | (simp [entryFrame, mkF, argsToLocals, Value.category]; done) | rfl
theorem d1_18 : decode prog_135_method_10_code 18 = .ok (.aload_n 3, 1) := by decide +kernel
theorem d1_19 : decode prog_135_method_10_code 19 = .ok (.iload 5, 2) := by decide +kernel
theorem d1_21 : decode prog_135_method_10_code 21 = .ok (.iaload, 1) := by decide +kernel
theorem d1_22 : decode prog_135_method_10_code 22 = .ok (.istore 6, 2) := by decide +kernel
theorem d1_24 : decode prog_135_method_10_code 24 = .ok (.lload_n 1, 1) := by decide +kernel
theorem d1_25 : decode prog_135_method_10_code 25 = .ok (.iload 6, 2) := by decide +kernel
theorem d1_27 : decode prog_135_method_10_code 27 = .ok (.i2l, 1) := by decide +kernel
theorem d1_28 : decode prog_135_method_10_code 28 = .ok (.ladd, 1) := by decide +kernel
theorem d1_29 : decode prog_135_method_10_code 29 = .ok (.lstore_n 1, 1) := by decide +kernel
theorem d1_30 : decode prog_135_method_10_code 30 = .ok (.iinc 5 1, 3) := by decide +kernel
theorem d1_33 : decode prog_135_method_10_code 33 = .ok (.goto (-22), 3) := by decide +kernel
def Q1_1 (Z : State) (a0 : Addr) (k0 : ClassId) (x0 : Int32) (h0 : Heap) (n0 : Nat) (v : Option Value) (h : Heap) (L : List Loc) : Prop := v = some (.long ((0 : Int64) + (x0.toInt64))) ∧ Fr n0 L ∧ h = h0
set_option maxRecDepth 65536 in
set_option maxHeartbeats 40000000 in
theorem rm1_1 (l : Launch) (Z : State) (A0 : Array Value) (hw : ∀ d ∈ tables_1, d.before A0 Z = true) (ws : List Jvm.Cond) (a0 : Addr) (k0 : ClassId) (x0 : Int32) (h0 : Heap) (n0 : Nat) (Z0 : n0 ≤ h0.size) (V0 : Arv Z h0 a0 k0 .int (1 : Int32) [(.int x0)] (.int (0 : Int32))) :
    MetFree l (⟨"com/example/motiflow/motiflow/Tally", "explained", "([I)J"⟩ : MethodName) (head1 (Jvm.Cond.code (⟨"com/example/motiflow/motiflow/Tally", "explained", "([I)J"⟩ : MethodName) prog_135_method_10_code 7 (some .long) :: ws) ({ frames := 0, cells := 0, slots := 0, locals := 0 } : Room)) (fun a U => a = #[(.ref a0)] ∧ Z.Warmed39 U.vm ∧ U.heap = h0) (fun _ _ _ _ _ => True) (fun _ U o U' => ∃ v L, o = .returned v ∧ Q1_1 Z a0 k0 x0 h0 n0 v U'.heap L ∧ FrameEnd U o U' L ({ frames := 0, cells := 0, slots := 0, locals := 0 } : Room).cells ({ frames := 0, cells := 0, slots := 0, locals := 0 } : Room).slots) := by
  refine MetFree.of_bodySF (plainFor_of_name pn_0) hisR ?_
  intro p e s m args below meth c s₁ Bd hml0 hP hK
  obtain ⟨rfl, hZ, hh⟩ := hP
  have hx := Bd.exec
  have hby := Bd.bytes
  have hml : c.maxLocals = 7 := hml0
  have hown : s.vm.findClass "com/example/motiflow/motiflow/Tally" = some m.cls := findClass_of_methodNamed Bd.named
  have hnm := (name_of_methodNamed Bd.named Bd.method).1
  have X0 : Stand p l e ({ frames := 0, cells := 0, slots := 0, locals := 0 } : Room) s m #[(.ref a0)] below meth c s₁ [] 0 0 := Stand.of_body Bd
  have e0 : s₁.heap = h0 := by rw [← hh, Bd.state]; rfl
  have N0 := Fr.nil n0
  obtain ⟨S0, hS0⟩ : ∃ z, z = s₁.setTop (entryFrame m #[(.ref a0)] 7) := ⟨_, rfl⟩
  have pre0 : Go p.tables e below S0 s₁ (mkF m 0 #[vR a0, .unset, .unset, .unset, .unset, .unset, .unset] []) := fun t k => by rw [hS0]; exact castTop (ef_1_1 m a0) k
  have pre1 : Go p.tables e below S0 s₁ (mkF m 5 #[vR a0, vJ (0 : Int64), .second, vR a0, .unset, .unset, .unset] [(.ref a0)]) := fun t k => pre0 t (by
    refine XS.lconst X0.here hx rfl (hb hby d1_0) ?_
    show Steps p.tables e below (s₁.setTop (mkF m 1 #[vR a0, .unset, .unset, .unset, .unset, .unset, .unset] [(.long (0 : Int64))])) _
    refine XS.lstoreN X0.here hx rfl (hb hby d1_1) rfl (l' := #[vR a0, vJ (0 : Int64), .second, .unset, .unset, .unset, .unset]) rfl ?_
    show Steps p.tables e below (s₁.setTop (mkF m 2 #[vR a0, vJ (0 : Int64), .second, .unset, .unset, .unset, .unset] [])) _
    refine XS.aloadN X0.here hx rfl (hb hby d1_2) rfl rfl ?_
    show Steps p.tables e below (s₁.setTop (mkF m 3 #[vR a0, vJ (0 : Int64), .second, .unset, .unset, .unset, .unset] [(.ref a0)])) _
    refine XS.astoreN X0.here hx rfl (hb hby d1_3) rfl rfl (l' := #[vR a0, vJ (0 : Int64), .second, vR a0, .unset, .unset, .unset]) rfl ?_
    show Steps p.tables e below (s₁.setTop (mkF m 4 #[vR a0, vJ (0 : Int64), .second, vR a0, .unset, .unset, .unset] [])) _
    refine XS.aloadN X0.here hx rfl (hb hby d1_4) rfl rfl ?_
    show Steps p.tables e below (s₁.setTop (mkF m 5 #[vR a0, vJ (0 : Int64), .second, vR a0, .unset, .unset, .unset] [(.ref a0)])) _
    exact k)
  obtain ⟨cl2, Ar2, q2, S2, M2, H2, G2⟩ := id V0
  have pre3 : Go p.tables e below S0 s₁ (mkF m 21 #[vR a0, vJ (0 : Int64), .second, vR a0, vI (1 : Int32), vI (0 : Int32), .unset] [(.int (0 : Int32)), (.ref a0)]) := fun t k => pre1 t (by
    refine X0.arraylength hx (by rw [e0]; exact Ar2.1) (State.isArrayOf_alike hZ.alike Ar2.2.1) (g := (mkF m 5 #[vR a0, vJ (0 : Int64), .second, vR a0, .unset, .unset, .unset] [(.ref a0)])) rfl rfl (hb hby d1_5) _ ?_
    rw [len_of S2 M2]
    show Steps p.tables e below (s₁.setTop (mkF m 6 #[vR a0, vJ (0 : Int64), .second, vR a0, .unset, .unset, .unset] [(.int (1 : Int32))])) _
    refine XS.istore X0.here hx rfl (hb hby d1_6) rfl (l' := #[vR a0, vJ (0 : Int64), .second, vR a0, vI (1 : Int32), .unset, .unset]) rfl ?_
    show Steps p.tables e below (s₁.setTop (mkF m 8 #[vR a0, vJ (0 : Int64), .second, vR a0, vI (1 : Int32), .unset, .unset] [])) _
    refine XS.iconst X0.here hx rfl (hb hby d1_8) ?_
    show Steps p.tables e below (s₁.setTop (mkF m 9 #[vR a0, vJ (0 : Int64), .second, vR a0, vI (1 : Int32), .unset, .unset] [(.int (0 : Int32))])) _
    refine XS.istore X0.here hx rfl (hb hby d1_9) rfl (l' := #[vR a0, vJ (0 : Int64), .second, vR a0, vI (1 : Int32), vI (0 : Int32), .unset]) rfl ?_
    show Steps p.tables e below (s₁.setTop (mkF m 11 #[vR a0, vJ (0 : Int64), .second, vR a0, vI (1 : Int32), vI (0 : Int32), .unset] [])) _
    refine XS.iload X0.here hx rfl (hb hby d1_11) rfl ?_
    show Steps p.tables e below (s₁.setTop (mkF m 13 #[vR a0, vJ (0 : Int64), .second, vR a0, vI (1 : Int32), vI (0 : Int32), .unset] [(.int (0 : Int32))])) _
    refine XS.iload X0.here hx rfl (hb hby d1_13) rfl ?_
    show Steps p.tables e below (s₁.setTop (mkF m 15 #[vR a0, vJ (0 : Int64), .second, vR a0, vI (1 : Int32), vI (0 : Int32), .unset] [(.int (1 : Int32)), (.int (0 : Int32))])) _
    refine XS.icmpNo X0.here hx rfl (hb hby d1_15) rfl (tlt (by decide : (0 : Int32) < (1 : Int32))).2.1 ?_
    show Steps p.tables e below (s₁.setTop (mkF m 18 #[vR a0, vJ (0 : Int64), .second, vR a0, vI (1 : Int32), vI (0 : Int32), .unset] [])) _
    refine XS.aloadN X0.here hx rfl (hb hby d1_18) rfl rfl ?_
    show Steps p.tables e below (s₁.setTop (mkF m 19 #[vR a0, vJ (0 : Int64), .second, vR a0, vI (1 : Int32), vI (0 : Int32), .unset] [(.ref a0)])) _
    refine XS.iload X0.here hx rfl (hb hby d1_19) rfl ?_
    show Steps p.tables e below (s₁.setTop (mkF m 21 #[vR a0, vJ (0 : Int64), .second, vR a0, vI (1 : Int32), vI (0 : Int32), .unset] [(.int (0 : Int32)), (.ref a0)])) _
    exact k)
  obtain ⟨cl4, Ar4, q4, S4, M4, H4, G4⟩ := id V0
  have in4 : ¬ ((0 : Int32) < 0 ∨ cl4.slots.size ≤ ((0 : Int32)).toNatClampNeg) := inb_of S4 ⟨by decide, by decide⟩
  have at4 : cl4.slots[((0 : Int32)).toNatClampNeg]? = some (.int x0) := H4.at in4 rfl
  have pre5 : Go p.tables e below S0 s₁ (mkF m 37 #[vR a0, vJ ((0 : Int64) + (x0.toInt64)), .second, vR a0, vI (1 : Int32), vI (1 : Int32), vI x0] [(.long ((0 : Int64) + (x0.toInt64)))]) := fun t k => pre3 t (by
    refine X0.iaload hx (j := (0 : Int32)) (v := (.int x0)) (by rw [e0]; exact Ar4.1) (State.isArrayOf_alike hZ.alike Ar4.2.1) Ar4.2.2 in4 at4 (g := (mkF m 21 #[vR a0, vJ (0 : Int64), .second, vR a0, vI (1 : Int32), vI (0 : Int32), .unset] [(.int (0 : Int32)), (.ref a0)])) rfl rfl (hb hby d1_21) _ ?_
    show Steps p.tables e below (s₁.setTop (mkF m 22 #[vR a0, vJ (0 : Int64), .second, vR a0, vI (1 : Int32), vI (0 : Int32), .unset] [(.int x0)])) _
    refine XS.istore X0.here hx rfl (hb hby d1_22) rfl (l' := #[vR a0, vJ (0 : Int64), .second, vR a0, vI (1 : Int32), vI (0 : Int32), vI x0]) rfl ?_
    show Steps p.tables e below (s₁.setTop (mkF m 24 #[vR a0, vJ (0 : Int64), .second, vR a0, vI (1 : Int32), vI (0 : Int32), vI x0] [])) _
    refine XS.lloadN X0.here hx rfl (hb hby d1_24) rfl ?_
    show Steps p.tables e below (s₁.setTop (mkF m 25 #[vR a0, vJ (0 : Int64), .second, vR a0, vI (1 : Int32), vI (0 : Int32), vI x0] [(.long (0 : Int64))])) _
    refine XS.iload X0.here hx rfl (hb hby d1_25) rfl ?_
    show Steps p.tables e below (s₁.setTop (mkF m 27 #[vR a0, vJ (0 : Int64), .second, vR a0, vI (1 : Int32), vI (0 : Int32), vI x0] [(.int x0), (.long (0 : Int64))])) _
    refine XS.i2l X0.here hx rfl (hb hby d1_27) rfl ?_
    show Steps p.tables e below (s₁.setTop (mkF m 28 #[vR a0, vJ (0 : Int64), .second, vR a0, vI (1 : Int32), vI (0 : Int32), vI x0] [(.long (x0.toInt64)), (.long (0 : Int64))])) _
    refine XS.ladd X0.here hx rfl (hb hby d1_28) rfl ?_
    show Steps p.tables e below (s₁.setTop (mkF m 29 #[vR a0, vJ (0 : Int64), .second, vR a0, vI (1 : Int32), vI (0 : Int32), vI x0] [(.long ((0 : Int64) + (x0.toInt64)))])) _
    refine XS.lstoreN X0.here hx rfl (hb hby d1_29) rfl (l' := #[vR a0, vJ ((0 : Int64) + (x0.toInt64)), .second, vR a0, vI (1 : Int32), vI (0 : Int32), vI x0]) rfl ?_
    show Steps p.tables e below (s₁.setTop (mkF m 30 #[vR a0, vJ ((0 : Int64) + (x0.toInt64)), .second, vR a0, vI (1 : Int32), vI (0 : Int32), vI x0] [])) _
    refine XS.iinc X0.here hx rfl (hb hby d1_30) rfl (l' := #[vR a0, vJ ((0 : Int64) + (x0.toInt64)), .second, vR a0, vI (1 : Int32), vI (1 : Int32), vI x0]) rfl ?_
    show Steps p.tables e below (s₁.setTop (mkF m 33 #[vR a0, vJ ((0 : Int64) + (x0.toInt64)), .second, vR a0, vI (1 : Int32), vI (1 : Int32), vI x0] [])) _
    refine XS.goto X0.here hx rfl (pc0 := 33) (pc' := 11) rfl (hb hby d1_33) (by decide) (by decide) ?_
    show Steps p.tables e below (s₁.setTop (mkF m 11 #[vR a0, vJ ((0 : Int64) + (x0.toInt64)), .second, vR a0, vI (1 : Int32), vI (1 : Int32), vI x0] [])) _
    refine XS.iload X0.here hx rfl (hb hby d1_11) rfl ?_
    show Steps p.tables e below (s₁.setTop (mkF m 13 #[vR a0, vJ ((0 : Int64) + (x0.toInt64)), .second, vR a0, vI (1 : Int32), vI (1 : Int32), vI x0] [(.int (1 : Int32))])) _
    refine XS.iload X0.here hx rfl (hb hby d1_13) rfl ?_
    show Steps p.tables e below (s₁.setTop (mkF m 15 #[vR a0, vJ ((0 : Int64) + (x0.toInt64)), .second, vR a0, vI (1 : Int32), vI (1 : Int32), vI x0] [(.int (1 : Int32)), (.int (1 : Int32))])) _
    refine XS.icmpYes X0.here hx rfl (pc0 := 15) (pc' := 36) rfl (hb hby d1_15) rfl (flt (by decide : ¬ ((1 : Int32) < (1 : Int32)))).2.1 (by decide) (by decide) ?_
    show Steps p.tables e below (s₁.setTop (mkF m 36 #[vR a0, vJ ((0 : Int64) + (x0.toInt64)), .second, vR a0, vI (1 : Int32), vI (1 : Int32), vI x0] [])) _
    refine XS.lloadN X0.here hx rfl (hb hby d1_36) rfl ?_
    show Steps p.tables e below (s₁.setTop (mkF m 37 #[vR a0, vJ ((0 : Int64) + (x0.toInt64)), .second, vR a0, vI (1 : Int32), vI (1 : Int32), vI x0] [(.long ((0 : Int64) + (x0.toInt64)))])) _
    exact k)
  obtain ⟨fs, hr, hrun, hended, hW, hsame⟩ := X0.leave (v := some (.long ((0 : Int64) + (x0.toInt64)))) (fun h => by rw [Bd.returns] at h; cases h)
  exact ⟨_, _, pre5.fin hS0 (retJ X0 hx Bd.returns (hb hby d1_37) hr), hrun, hended, _, _, rfl, (by
    show Q1_1 Z a0 k0 x0 h0 n0 _ s₁.heap _
    rw [e0]
    exact ⟨rfl, N0, rfl⟩), ⟨_, rfl⟩, hW, hsame.mono (by decide) (by decide)⟩
theorem ef_1_2 (m : MethodId) (x0 : Addr) : entryFrame m #[(.ref x0)] 7 = mkF m 0 #[.val (.ref x0), .unset, .unset, .unset, .unset, .unset, .unset] [] := by first | (simp [entryFrame, mkF, argsToLocals, Value.category]; done) | rfl
def Q1_2 (Z : State) (a0 : Addr) (k0 : ClassId) (x0 : Int32) (x1 : Int32) (h0 : Heap) (n0 : Nat) (v : Option Value) (h : Heap) (L : List Loc) : Prop := v = some (.long (((0 : Int64) + (x0.toInt64)) + (x1.toInt64))) ∧ Fr n0 L ∧ h = h0
set_option maxRecDepth 65536 in
set_option maxHeartbeats 40000000 in
theorem rm1_2 (l : Launch) (Z : State) (A0 : Array Value) (hw : ∀ d ∈ tables_1, d.before A0 Z = true) (ws : List Jvm.Cond) (a0 : Addr) (k0 : ClassId) (x0 : Int32) (x1 : Int32) (h0 : Heap) (n0 : Nat) (Z0 : n0 ≤ h0.size) (V0 : Arv Z h0 a0 k0 .int (2 : Int32) [(.int x0), (.int x1)] (.int (0 : Int32))) :
    MetFree l (⟨"com/example/motiflow/motiflow/Tally", "explained", "([I)J"⟩ : MethodName) (head1 (Jvm.Cond.code (⟨"com/example/motiflow/motiflow/Tally", "explained", "([I)J"⟩ : MethodName) prog_135_method_10_code 7 (some .long) :: ws) ({ frames := 0, cells := 0, slots := 0, locals := 0 } : Room)) (fun a U => a = #[(.ref a0)] ∧ Z.Warmed39 U.vm ∧ U.heap = h0) (fun _ _ _ _ _ => True) (fun _ U o U' => ∃ v L, o = .returned v ∧ Q1_2 Z a0 k0 x0 x1 h0 n0 v U'.heap L ∧ FrameEnd U o U' L ({ frames := 0, cells := 0, slots := 0, locals := 0 } : Room).cells ({ frames := 0, cells := 0, slots := 0, locals := 0 } : Room).slots) := by
  refine MetFree.of_bodySF (plainFor_of_name pn_0) hisR ?_
  intro p e s m args below meth c s₁ Bd hml0 hP hK
  obtain ⟨rfl, hZ, hh⟩ := hP
  have hx := Bd.exec
  have hby := Bd.bytes
  have hml : c.maxLocals = 7 := hml0
  have hown : s.vm.findClass "com/example/motiflow/motiflow/Tally" = some m.cls := findClass_of_methodNamed Bd.named
  have hnm := (name_of_methodNamed Bd.named Bd.method).1
  have X0 : Stand p l e ({ frames := 0, cells := 0, slots := 0, locals := 0 } : Room) s m #[(.ref a0)] below meth c s₁ [] 0 0 := Stand.of_body Bd
  have e0 : s₁.heap = h0 := by rw [← hh, Bd.state]; rfl
  have N0 := Fr.nil n0
  obtain ⟨S0, hS0⟩ : ∃ z, z = s₁.setTop (entryFrame m #[(.ref a0)] 7) := ⟨_, rfl⟩
  have pre0 : Go p.tables e below S0 s₁ (mkF m 0 #[vR a0, .unset, .unset, .unset, .unset, .unset, .unset] []) := fun t k => by rw [hS0]; exact castTop (ef_1_2 m a0) k
  have pre1 : Go p.tables e below S0 s₁ (mkF m 5 #[vR a0, vJ (0 : Int64), .second, vR a0, .unset, .unset, .unset] [(.ref a0)]) := fun t k => pre0 t (by
    refine XS.lconst X0.here hx rfl (hb hby d1_0) ?_
    show Steps p.tables e below (s₁.setTop (mkF m 1 #[vR a0, .unset, .unset, .unset, .unset, .unset, .unset] [(.long (0 : Int64))])) _
    refine XS.lstoreN X0.here hx rfl (hb hby d1_1) rfl (l' := #[vR a0, vJ (0 : Int64), .second, .unset, .unset, .unset, .unset]) rfl ?_
    show Steps p.tables e below (s₁.setTop (mkF m 2 #[vR a0, vJ (0 : Int64), .second, .unset, .unset, .unset, .unset] [])) _
    refine XS.aloadN X0.here hx rfl (hb hby d1_2) rfl rfl ?_
    show Steps p.tables e below (s₁.setTop (mkF m 3 #[vR a0, vJ (0 : Int64), .second, .unset, .unset, .unset, .unset] [(.ref a0)])) _
    refine XS.astoreN X0.here hx rfl (hb hby d1_3) rfl rfl (l' := #[vR a0, vJ (0 : Int64), .second, vR a0, .unset, .unset, .unset]) rfl ?_
    show Steps p.tables e below (s₁.setTop (mkF m 4 #[vR a0, vJ (0 : Int64), .second, vR a0, .unset, .unset, .unset] [])) _
    refine XS.aloadN X0.here hx rfl (hb hby d1_4) rfl rfl ?_
    show Steps p.tables e below (s₁.setTop (mkF m 5 #[vR a0, vJ (0 : Int64), .second, vR a0, .unset, .unset, .unset] [(.ref a0)])) _
    exact k)
  obtain ⟨cl2, Ar2, q2, S2, M2, H2, G2⟩ := id V0
  have pre3 : Go p.tables e below S0 s₁ (mkF m 21 #[vR a0, vJ (0 : Int64), .second, vR a0, vI (2 : Int32), vI (0 : Int32), .unset] [(.int (0 : Int32)), (.ref a0)]) := fun t k => pre1 t (by
    refine X0.arraylength hx (by rw [e0]; exact Ar2.1) (State.isArrayOf_alike hZ.alike Ar2.2.1) (g := (mkF m 5 #[vR a0, vJ (0 : Int64), .second, vR a0, .unset, .unset, .unset] [(.ref a0)])) rfl rfl (hb hby d1_5) _ ?_
    rw [len_of S2 M2]
    show Steps p.tables e below (s₁.setTop (mkF m 6 #[vR a0, vJ (0 : Int64), .second, vR a0, .unset, .unset, .unset] [(.int (2 : Int32))])) _
    refine XS.istore X0.here hx rfl (hb hby d1_6) rfl (l' := #[vR a0, vJ (0 : Int64), .second, vR a0, vI (2 : Int32), .unset, .unset]) rfl ?_
    show Steps p.tables e below (s₁.setTop (mkF m 8 #[vR a0, vJ (0 : Int64), .second, vR a0, vI (2 : Int32), .unset, .unset] [])) _
    refine XS.iconst X0.here hx rfl (hb hby d1_8) ?_
    show Steps p.tables e below (s₁.setTop (mkF m 9 #[vR a0, vJ (0 : Int64), .second, vR a0, vI (2 : Int32), .unset, .unset] [(.int (0 : Int32))])) _
    refine XS.istore X0.here hx rfl (hb hby d1_9) rfl (l' := #[vR a0, vJ (0 : Int64), .second, vR a0, vI (2 : Int32), vI (0 : Int32), .unset]) rfl ?_
    show Steps p.tables e below (s₁.setTop (mkF m 11 #[vR a0, vJ (0 : Int64), .second, vR a0, vI (2 : Int32), vI (0 : Int32), .unset] [])) _
    refine XS.iload X0.here hx rfl (hb hby d1_11) rfl ?_
    show Steps p.tables e below (s₁.setTop (mkF m 13 #[vR a0, vJ (0 : Int64), .second, vR a0, vI (2 : Int32), vI (0 : Int32), .unset] [(.int (0 : Int32))])) _
    refine XS.iload X0.here hx rfl (hb hby d1_13) rfl ?_
    show Steps p.tables e below (s₁.setTop (mkF m 15 #[vR a0, vJ (0 : Int64), .second, vR a0, vI (2 : Int32), vI (0 : Int32), .unset] [(.int (2 : Int32)), (.int (0 : Int32))])) _
    refine XS.icmpNo X0.here hx rfl (hb hby d1_15) rfl (tlt (by decide : (0 : Int32) < (2 : Int32))).2.1 ?_
    show Steps p.tables e below (s₁.setTop (mkF m 18 #[vR a0, vJ (0 : Int64), .second, vR a0, vI (2 : Int32), vI (0 : Int32), .unset] [])) _
    refine XS.aloadN X0.here hx rfl (hb hby d1_18) rfl rfl ?_
    show Steps p.tables e below (s₁.setTop (mkF m 19 #[vR a0, vJ (0 : Int64), .second, vR a0, vI (2 : Int32), vI (0 : Int32), .unset] [(.ref a0)])) _
    refine XS.iload X0.here hx rfl (hb hby d1_19) rfl ?_
    show Steps p.tables e below (s₁.setTop (mkF m 21 #[vR a0, vJ (0 : Int64), .second, vR a0, vI (2 : Int32), vI (0 : Int32), .unset] [(.int (0 : Int32)), (.ref a0)])) _
    exact k)
  obtain ⟨cl4, Ar4, q4, S4, M4, H4, G4⟩ := id V0
  have in4 : ¬ ((0 : Int32) < 0 ∨ cl4.slots.size ≤ ((0 : Int32)).toNatClampNeg) := inb_of S4 ⟨by decide, by decide⟩
  have at4 : cl4.slots[((0 : Int32)).toNatClampNeg]? = some (.int x0) := H4.at in4 rfl
  have pre5 : Go p.tables e below S0 s₁ (mkF m 21 #[vR a0, vJ ((0 : Int64) + (x0.toInt64)), .second, vR a0, vI (2 : Int32), vI (1 : Int32), vI x0] [(.int (1 : Int32)), (.ref a0)]) := fun t k => pre3 t (by
    refine X0.iaload hx (j := (0 : Int32)) (v := (.int x0)) (by rw [e0]; exact Ar4.1) (State.isArrayOf_alike hZ.alike Ar4.2.1) Ar4.2.2 in4 at4 (g := (mkF m 21 #[vR a0, vJ (0 : Int64), .second, vR a0, vI (2 : Int32), vI (0 : Int32), .unset] [(.int (0 : Int32)), (.ref a0)])) rfl rfl (hb hby d1_21) _ ?_
    show Steps p.tables e below (s₁.setTop (mkF m 22 #[vR a0, vJ (0 : Int64), .second, vR a0, vI (2 : Int32), vI (0 : Int32), .unset] [(.int x0)])) _
    refine XS.istore X0.here hx rfl (hb hby d1_22) rfl (l' := #[vR a0, vJ (0 : Int64), .second, vR a0, vI (2 : Int32), vI (0 : Int32), vI x0]) rfl ?_
    show Steps p.tables e below (s₁.setTop (mkF m 24 #[vR a0, vJ (0 : Int64), .second, vR a0, vI (2 : Int32), vI (0 : Int32), vI x0] [])) _
    refine XS.lloadN X0.here hx rfl (hb hby d1_24) rfl ?_
    show Steps p.tables e below (s₁.setTop (mkF m 25 #[vR a0, vJ (0 : Int64), .second, vR a0, vI (2 : Int32), vI (0 : Int32), vI x0] [(.long (0 : Int64))])) _
    refine XS.iload X0.here hx rfl (hb hby d1_25) rfl ?_
    show Steps p.tables e below (s₁.setTop (mkF m 27 #[vR a0, vJ (0 : Int64), .second, vR a0, vI (2 : Int32), vI (0 : Int32), vI x0] [(.int x0), (.long (0 : Int64))])) _
    refine XS.i2l X0.here hx rfl (hb hby d1_27) rfl ?_
    show Steps p.tables e below (s₁.setTop (mkF m 28 #[vR a0, vJ (0 : Int64), .second, vR a0, vI (2 : Int32), vI (0 : Int32), vI x0] [(.long (x0.toInt64)), (.long (0 : Int64))])) _
    refine XS.ladd X0.here hx rfl (hb hby d1_28) rfl ?_
    show Steps p.tables e below (s₁.setTop (mkF m 29 #[vR a0, vJ (0 : Int64), .second, vR a0, vI (2 : Int32), vI (0 : Int32), vI x0] [(.long ((0 : Int64) + (x0.toInt64)))])) _
    refine XS.lstoreN X0.here hx rfl (hb hby d1_29) rfl (l' := #[vR a0, vJ ((0 : Int64) + (x0.toInt64)), .second, vR a0, vI (2 : Int32), vI (0 : Int32), vI x0]) rfl ?_
    show Steps p.tables e below (s₁.setTop (mkF m 30 #[vR a0, vJ ((0 : Int64) + (x0.toInt64)), .second, vR a0, vI (2 : Int32), vI (0 : Int32), vI x0] [])) _
    refine XS.iinc X0.here hx rfl (hb hby d1_30) rfl (l' := #[vR a0, vJ ((0 : Int64) + (x0.toInt64)), .second, vR a0, vI (2 : Int32), vI (1 : Int32), vI x0]) rfl ?_
    show Steps p.tables e below (s₁.setTop (mkF m 33 #[vR a0, vJ ((0 : Int64) + (x0.toInt64)), .second, vR a0, vI (2 : Int32), vI (1 : Int32), vI x0] [])) _
    refine XS.goto X0.here hx rfl (pc0 := 33) (pc' := 11) rfl (hb hby d1_33) (by decide) (by decide) ?_
    show Steps p.tables e below (s₁.setTop (mkF m 11 #[vR a0, vJ ((0 : Int64) + (x0.toInt64)), .second, vR a0, vI (2 : Int32), vI (1 : Int32), vI x0] [])) _
    refine XS.iload X0.here hx rfl (hb hby d1_11) rfl ?_
    show Steps p.tables e below (s₁.setTop (mkF m 13 #[vR a0, vJ ((0 : Int64) + (x0.toInt64)), .second, vR a0, vI (2 : Int32), vI (1 : Int32), vI x0] [(.int (1 : Int32))])) _
    refine XS.iload X0.here hx rfl (hb hby d1_13) rfl ?_
    show Steps p.tables e below (s₁.setTop (mkF m 15 #[vR a0, vJ ((0 : Int64) + (x0.toInt64)), .second, vR a0, vI (2 : Int32), vI (1 : Int32), vI x0] [(.int (2 : Int32)), (.int (1 : Int32))])) _
    refine XS.icmpNo X0.here hx rfl (hb hby d1_15) rfl (tlt (by decide : (1 : Int32) < (2 : Int32))).2.1 ?_
    show Steps p.tables e below (s₁.setTop (mkF m 18 #[vR a0, vJ ((0 : Int64) + (x0.toInt64)), .second, vR a0, vI (2 : Int32), vI (1 : Int32), vI x0] [])) _
    refine XS.aloadN X0.here hx rfl (hb hby d1_18) rfl rfl ?_
    show Steps p.tables e below (s₁.setTop (mkF m 19 #[vR a0, vJ ((0 : Int64) + (x0.toInt64)), .second, vR a0, vI (2 : Int32), vI (1 : Int32), vI x0] [(.ref a0)])) _
    refine XS.iload X0.here hx rfl (hb hby d1_19) rfl ?_
    show Steps p.tables e below (s₁.setTop (mkF m 21 #[vR a0, vJ ((0 : Int64) + (x0.toInt64)), .second, vR a0, vI (2 : Int32), vI (1 : Int32), vI x0] [(.int (1 : Int32)), (.ref a0)])) _
    exact k)
  obtain ⟨cl6, Ar6, q6, S6, M6, H6, G6⟩ := id V0
  have in6 : ¬ ((1 : Int32) < 0 ∨ cl6.slots.size ≤ ((1 : Int32)).toNatClampNeg) := inb_of S6 ⟨by decide, by decide⟩
  have at6 : cl6.slots[((1 : Int32)).toNatClampNeg]? = some (.int x1) := H6.at in6 rfl
  have pre7 : Go p.tables e below S0 s₁ (mkF m 37 #[vR a0, vJ (((0 : Int64) + (x0.toInt64)) + (x1.toInt64)), .second, vR a0, vI (2 : Int32), vI (2 : Int32), vI x1] [(.long (((0 : Int64) + (x0.toInt64)) + (x1.toInt64)))]) := fun t k => pre5 t (by
    refine X0.iaload hx (j := (1 : Int32)) (v := (.int x1)) (by rw [e0]; exact Ar6.1) (State.isArrayOf_alike hZ.alike Ar6.2.1) Ar6.2.2 in6 at6 (g := (mkF m 21 #[vR a0, vJ ((0 : Int64) + (x0.toInt64)), .second, vR a0, vI (2 : Int32), vI (1 : Int32), vI x0] [(.int (1 : Int32)), (.ref a0)])) rfl rfl (hb hby d1_21) _ ?_
    show Steps p.tables e below (s₁.setTop (mkF m 22 #[vR a0, vJ ((0 : Int64) + (x0.toInt64)), .second, vR a0, vI (2 : Int32), vI (1 : Int32), vI x0] [(.int x1)])) _
    refine XS.istore X0.here hx rfl (hb hby d1_22) rfl (l' := #[vR a0, vJ ((0 : Int64) + (x0.toInt64)), .second, vR a0, vI (2 : Int32), vI (1 : Int32), vI x1]) rfl ?_
    show Steps p.tables e below (s₁.setTop (mkF m 24 #[vR a0, vJ ((0 : Int64) + (x0.toInt64)), .second, vR a0, vI (2 : Int32), vI (1 : Int32), vI x1] [])) _
    refine XS.lloadN X0.here hx rfl (hb hby d1_24) rfl ?_
    show Steps p.tables e below (s₁.setTop (mkF m 25 #[vR a0, vJ ((0 : Int64) + (x0.toInt64)), .second, vR a0, vI (2 : Int32), vI (1 : Int32), vI x1] [(.long ((0 : Int64) + (x0.toInt64)))])) _
    refine XS.iload X0.here hx rfl (hb hby d1_25) rfl ?_
    show Steps p.tables e below (s₁.setTop (mkF m 27 #[vR a0, vJ ((0 : Int64) + (x0.toInt64)), .second, vR a0, vI (2 : Int32), vI (1 : Int32), vI x1] [(.int x1), (.long ((0 : Int64) + (x0.toInt64)))])) _
    refine XS.i2l X0.here hx rfl (hb hby d1_27) rfl ?_
    show Steps p.tables e below (s₁.setTop (mkF m 28 #[vR a0, vJ ((0 : Int64) + (x0.toInt64)), .second, vR a0, vI (2 : Int32), vI (1 : Int32), vI x1] [(.long (x1.toInt64)), (.long ((0 : Int64) + (x0.toInt64)))])) _
    refine XS.ladd X0.here hx rfl (hb hby d1_28) rfl ?_
    show Steps p.tables e below (s₁.setTop (mkF m 29 #[vR a0, vJ ((0 : Int64) + (x0.toInt64)), .second, vR a0, vI (2 : Int32), vI (1 : Int32), vI x1] [(.long (((0 : Int64) + (x0.toInt64)) + (x1.toInt64)))])) _
    refine XS.lstoreN X0.here hx rfl (hb hby d1_29) rfl (l' := #[vR a0, vJ (((0 : Int64) + (x0.toInt64)) + (x1.toInt64)), .second, vR a0, vI (2 : Int32), vI (1 : Int32), vI x1]) rfl ?_
    show Steps p.tables e below (s₁.setTop (mkF m 30 #[vR a0, vJ (((0 : Int64) + (x0.toInt64)) + (x1.toInt64)), .second, vR a0, vI (2 : Int32), vI (1 : Int32), vI x1] [])) _
    refine XS.iinc X0.here hx rfl (hb hby d1_30) rfl (l' := #[vR a0, vJ (((0 : Int64) + (x0.toInt64)) + (x1.toInt64)), .second, vR a0, vI (2 : Int32), vI (2 : Int32), vI x1]) rfl ?_
    show Steps p.tables e below (s₁.setTop (mkF m 33 #[vR a0, vJ (((0 : Int64) + (x0.toInt64)) + (x1.toInt64)), .second, vR a0, vI (2 : Int32), vI (2 : Int32), vI x1] [])) _
    refine XS.goto X0.here hx rfl (pc0 := 33) (pc' := 11) rfl (hb hby d1_33) (by decide) (by decide) ?_
    show Steps p.tables e below (s₁.setTop (mkF m 11 #[vR a0, vJ (((0 : Int64) + (x0.toInt64)) + (x1.toInt64)), .second, vR a0, vI (2 : Int32), vI (2 : Int32), vI x1] [])) _
    refine XS.iload X0.here hx rfl (hb hby d1_11) rfl ?_
    show Steps p.tables e below (s₁.setTop (mkF m 13 #[vR a0, vJ (((0 : Int64) + (x0.toInt64)) + (x1.toInt64)), .second, vR a0, vI (2 : Int32), vI (2 : Int32), vI x1] [(.int (2 : Int32))])) _
    refine XS.iload X0.here hx rfl (hb hby d1_13) rfl ?_
    show Steps p.tables e below (s₁.setTop (mkF m 15 #[vR a0, vJ (((0 : Int64) + (x0.toInt64)) + (x1.toInt64)), .second, vR a0, vI (2 : Int32), vI (2 : Int32), vI x1] [(.int (2 : Int32)), (.int (2 : Int32))])) _
    refine XS.icmpYes X0.here hx rfl (pc0 := 15) (pc' := 36) rfl (hb hby d1_15) rfl (flt (by decide : ¬ ((2 : Int32) < (2 : Int32)))).2.1 (by decide) (by decide) ?_
    show Steps p.tables e below (s₁.setTop (mkF m 36 #[vR a0, vJ (((0 : Int64) + (x0.toInt64)) + (x1.toInt64)), .second, vR a0, vI (2 : Int32), vI (2 : Int32), vI x1] [])) _
    refine XS.lloadN X0.here hx rfl (hb hby d1_36) rfl ?_
    show Steps p.tables e below (s₁.setTop (mkF m 37 #[vR a0, vJ (((0 : Int64) + (x0.toInt64)) + (x1.toInt64)), .second, vR a0, vI (2 : Int32), vI (2 : Int32), vI x1] [(.long (((0 : Int64) + (x0.toInt64)) + (x1.toInt64)))])) _
    exact k)
  obtain ⟨fs, hr, hrun, hended, hW, hsame⟩ := X0.leave (v := some (.long (((0 : Int64) + (x0.toInt64)) + (x1.toInt64)))) (fun h => by rw [Bd.returns] at h; cases h)
  exact ⟨_, _, pre7.fin hS0 (retJ X0 hx Bd.returns (hb hby d1_37) hr), hrun, hended, _, _, rfl, (by
    show Q1_2 Z a0 k0 x0 x1 h0 n0 _ s₁.heap _
    rw [e0]
    exact ⟨rfl, N0, rfl⟩), ⟨_, rfl⟩, hW, hsame.mono (by decide) (by decide)⟩
theorem ef_1_3 (m : MethodId) (x0 : Addr) : entryFrame m #[(.ref x0)] 7 = mkF m 0 #[.val (.ref x0), .unset, .unset, .unset, .unset, .unset, .unset] [] := by first | (simp [entryFrame, mkF, argsToLocals, Value.category]; done) | rfl
def Q1_3 (Z : State) (a0 : Addr) (k0 : ClassId) (x0 : Int32) (x1 : Int32) (x2 : Int32) (h0 : Heap) (n0 : Nat) (v : Option Value) (h : Heap) (L : List Loc) : Prop := v = some (.long ((((0 : Int64) + (x0.toInt64)) + (x1.toInt64)) + (x2.toInt64))) ∧ Fr n0 L ∧ h = h0
set_option maxRecDepth 65536 in
set_option maxHeartbeats 40000000 in
theorem rm1_3 (l : Launch) (Z : State) (A0 : Array Value) (hw : ∀ d ∈ tables_1, d.before A0 Z = true) (ws : List Jvm.Cond) (a0 : Addr) (k0 : ClassId) (x0 : Int32) (x1 : Int32) (x2 : Int32) (h0 : Heap) (n0 : Nat) (Z0 : n0 ≤ h0.size) (V0 : Arv Z h0 a0 k0 .int (3 : Int32) [(.int x0), (.int x1), (.int x2)] (.int (0 : Int32))) :
    MetFree l (⟨"com/example/motiflow/motiflow/Tally", "explained", "([I)J"⟩ : MethodName) (head1 (Jvm.Cond.code (⟨"com/example/motiflow/motiflow/Tally", "explained", "([I)J"⟩ : MethodName) prog_135_method_10_code 7 (some .long) :: ws) ({ frames := 0, cells := 0, slots := 0, locals := 0 } : Room)) (fun a U => a = #[(.ref a0)] ∧ Z.Warmed39 U.vm ∧ U.heap = h0) (fun _ _ _ _ _ => True) (fun _ U o U' => ∃ v L, o = .returned v ∧ Q1_3 Z a0 k0 x0 x1 x2 h0 n0 v U'.heap L ∧ FrameEnd U o U' L ({ frames := 0, cells := 0, slots := 0, locals := 0 } : Room).cells ({ frames := 0, cells := 0, slots := 0, locals := 0 } : Room).slots) := by
  refine MetFree.of_bodySF (plainFor_of_name pn_0) hisR ?_
  intro p e s m args below meth c s₁ Bd hml0 hP hK
  obtain ⟨rfl, hZ, hh⟩ := hP
  have hx := Bd.exec
  have hby := Bd.bytes
  have hml : c.maxLocals = 7 := hml0
  have hown : s.vm.findClass "com/example/motiflow/motiflow/Tally" = some m.cls := findClass_of_methodNamed Bd.named
  have hnm := (name_of_methodNamed Bd.named Bd.method).1
  have X0 : Stand p l e ({ frames := 0, cells := 0, slots := 0, locals := 0 } : Room) s m #[(.ref a0)] below meth c s₁ [] 0 0 := Stand.of_body Bd
  have e0 : s₁.heap = h0 := by rw [← hh, Bd.state]; rfl
  have N0 := Fr.nil n0
  obtain ⟨S0, hS0⟩ : ∃ z, z = s₁.setTop (entryFrame m #[(.ref a0)] 7) := ⟨_, rfl⟩
  have pre0 : Go p.tables e below S0 s₁ (mkF m 0 #[vR a0, .unset, .unset, .unset, .unset, .unset, .unset] []) := fun t k => by rw [hS0]; exact castTop (ef_1_3 m a0) k
  have pre1 : Go p.tables e below S0 s₁ (mkF m 5 #[vR a0, vJ (0 : Int64), .second, vR a0, .unset, .unset, .unset] [(.ref a0)]) := fun t k => pre0 t (by
    refine XS.lconst X0.here hx rfl (hb hby d1_0) ?_
    show Steps p.tables e below (s₁.setTop (mkF m 1 #[vR a0, .unset, .unset, .unset, .unset, .unset, .unset] [(.long (0 : Int64))])) _
    refine XS.lstoreN X0.here hx rfl (hb hby d1_1) rfl (l' := #[vR a0, vJ (0 : Int64), .second, .unset, .unset, .unset, .unset]) rfl ?_
    show Steps p.tables e below (s₁.setTop (mkF m 2 #[vR a0, vJ (0 : Int64), .second, .unset, .unset, .unset, .unset] [])) _
    refine XS.aloadN X0.here hx rfl (hb hby d1_2) rfl rfl ?_
    show Steps p.tables e below (s₁.setTop (mkF m 3 #[vR a0, vJ (0 : Int64), .second, .unset, .unset, .unset, .unset] [(.ref a0)])) _
    refine XS.astoreN X0.here hx rfl (hb hby d1_3) rfl rfl (l' := #[vR a0, vJ (0 : Int64), .second, vR a0, .unset, .unset, .unset]) rfl ?_
    show Steps p.tables e below (s₁.setTop (mkF m 4 #[vR a0, vJ (0 : Int64), .second, vR a0, .unset, .unset, .unset] [])) _
    refine XS.aloadN X0.here hx rfl (hb hby d1_4) rfl rfl ?_
    show Steps p.tables e below (s₁.setTop (mkF m 5 #[vR a0, vJ (0 : Int64), .second, vR a0, .unset, .unset, .unset] [(.ref a0)])) _
    exact k)
  obtain ⟨cl2, Ar2, q2, S2, M2, H2, G2⟩ := id V0
  have pre3 : Go p.tables e below S0 s₁ (mkF m 21 #[vR a0, vJ (0 : Int64), .second, vR a0, vI (3 : Int32), vI (0 : Int32), .unset] [(.int (0 : Int32)), (.ref a0)]) := fun t k => pre1 t (by
    refine X0.arraylength hx (by rw [e0]; exact Ar2.1) (State.isArrayOf_alike hZ.alike Ar2.2.1) (g := (mkF m 5 #[vR a0, vJ (0 : Int64), .second, vR a0, .unset, .unset, .unset] [(.ref a0)])) rfl rfl (hb hby d1_5) _ ?_
    rw [len_of S2 M2]
    show Steps p.tables e below (s₁.setTop (mkF m 6 #[vR a0, vJ (0 : Int64), .second, vR a0, .unset, .unset, .unset] [(.int (3 : Int32))])) _
    refine XS.istore X0.here hx rfl (hb hby d1_6) rfl (l' := #[vR a0, vJ (0 : Int64), .second, vR a0, vI (3 : Int32), .unset, .unset]) rfl ?_
    show Steps p.tables e below (s₁.setTop (mkF m 8 #[vR a0, vJ (0 : Int64), .second, vR a0, vI (3 : Int32), .unset, .unset] [])) _
    refine XS.iconst X0.here hx rfl (hb hby d1_8) ?_
    show Steps p.tables e below (s₁.setTop (mkF m 9 #[vR a0, vJ (0 : Int64), .second, vR a0, vI (3 : Int32), .unset, .unset] [(.int (0 : Int32))])) _
    refine XS.istore X0.here hx rfl (hb hby d1_9) rfl (l' := #[vR a0, vJ (0 : Int64), .second, vR a0, vI (3 : Int32), vI (0 : Int32), .unset]) rfl ?_
    show Steps p.tables e below (s₁.setTop (mkF m 11 #[vR a0, vJ (0 : Int64), .second, vR a0, vI (3 : Int32), vI (0 : Int32), .unset] [])) _
    refine XS.iload X0.here hx rfl (hb hby d1_11) rfl ?_
    show Steps p.tables e below (s₁.setTop (mkF m 13 #[vR a0, vJ (0 : Int64), .second, vR a0, vI (3 : Int32), vI (0 : Int32), .unset] [(.int (0 : Int32))])) _
    refine XS.iload X0.here hx rfl (hb hby d1_13) rfl ?_
    show Steps p.tables e below (s₁.setTop (mkF m 15 #[vR a0, vJ (0 : Int64), .second, vR a0, vI (3 : Int32), vI (0 : Int32), .unset] [(.int (3 : Int32)), (.int (0 : Int32))])) _
    refine XS.icmpNo X0.here hx rfl (hb hby d1_15) rfl (tlt (by decide : (0 : Int32) < (3 : Int32))).2.1 ?_
    show Steps p.tables e below (s₁.setTop (mkF m 18 #[vR a0, vJ (0 : Int64), .second, vR a0, vI (3 : Int32), vI (0 : Int32), .unset] [])) _
    refine XS.aloadN X0.here hx rfl (hb hby d1_18) rfl rfl ?_
    show Steps p.tables e below (s₁.setTop (mkF m 19 #[vR a0, vJ (0 : Int64), .second, vR a0, vI (3 : Int32), vI (0 : Int32), .unset] [(.ref a0)])) _
    refine XS.iload X0.here hx rfl (hb hby d1_19) rfl ?_
    show Steps p.tables e below (s₁.setTop (mkF m 21 #[vR a0, vJ (0 : Int64), .second, vR a0, vI (3 : Int32), vI (0 : Int32), .unset] [(.int (0 : Int32)), (.ref a0)])) _
    exact k)
  obtain ⟨cl4, Ar4, q4, S4, M4, H4, G4⟩ := id V0
  have in4 : ¬ ((0 : Int32) < 0 ∨ cl4.slots.size ≤ ((0 : Int32)).toNatClampNeg) := inb_of S4 ⟨by decide, by decide⟩
  have at4 : cl4.slots[((0 : Int32)).toNatClampNeg]? = some (.int x0) := H4.at in4 rfl
  have pre5 : Go p.tables e below S0 s₁ (mkF m 21 #[vR a0, vJ ((0 : Int64) + (x0.toInt64)), .second, vR a0, vI (3 : Int32), vI (1 : Int32), vI x0] [(.int (1 : Int32)), (.ref a0)]) := fun t k => pre3 t (by
    refine X0.iaload hx (j := (0 : Int32)) (v := (.int x0)) (by rw [e0]; exact Ar4.1) (State.isArrayOf_alike hZ.alike Ar4.2.1) Ar4.2.2 in4 at4 (g := (mkF m 21 #[vR a0, vJ (0 : Int64), .second, vR a0, vI (3 : Int32), vI (0 : Int32), .unset] [(.int (0 : Int32)), (.ref a0)])) rfl rfl (hb hby d1_21) _ ?_
    show Steps p.tables e below (s₁.setTop (mkF m 22 #[vR a0, vJ (0 : Int64), .second, vR a0, vI (3 : Int32), vI (0 : Int32), .unset] [(.int x0)])) _
    refine XS.istore X0.here hx rfl (hb hby d1_22) rfl (l' := #[vR a0, vJ (0 : Int64), .second, vR a0, vI (3 : Int32), vI (0 : Int32), vI x0]) rfl ?_
    show Steps p.tables e below (s₁.setTop (mkF m 24 #[vR a0, vJ (0 : Int64), .second, vR a0, vI (3 : Int32), vI (0 : Int32), vI x0] [])) _
    refine XS.lloadN X0.here hx rfl (hb hby d1_24) rfl ?_
    show Steps p.tables e below (s₁.setTop (mkF m 25 #[vR a0, vJ (0 : Int64), .second, vR a0, vI (3 : Int32), vI (0 : Int32), vI x0] [(.long (0 : Int64))])) _
    refine XS.iload X0.here hx rfl (hb hby d1_25) rfl ?_
    show Steps p.tables e below (s₁.setTop (mkF m 27 #[vR a0, vJ (0 : Int64), .second, vR a0, vI (3 : Int32), vI (0 : Int32), vI x0] [(.int x0), (.long (0 : Int64))])) _
    refine XS.i2l X0.here hx rfl (hb hby d1_27) rfl ?_
    show Steps p.tables e below (s₁.setTop (mkF m 28 #[vR a0, vJ (0 : Int64), .second, vR a0, vI (3 : Int32), vI (0 : Int32), vI x0] [(.long (x0.toInt64)), (.long (0 : Int64))])) _
    refine XS.ladd X0.here hx rfl (hb hby d1_28) rfl ?_
    show Steps p.tables e below (s₁.setTop (mkF m 29 #[vR a0, vJ (0 : Int64), .second, vR a0, vI (3 : Int32), vI (0 : Int32), vI x0] [(.long ((0 : Int64) + (x0.toInt64)))])) _
    refine XS.lstoreN X0.here hx rfl (hb hby d1_29) rfl (l' := #[vR a0, vJ ((0 : Int64) + (x0.toInt64)), .second, vR a0, vI (3 : Int32), vI (0 : Int32), vI x0]) rfl ?_
    show Steps p.tables e below (s₁.setTop (mkF m 30 #[vR a0, vJ ((0 : Int64) + (x0.toInt64)), .second, vR a0, vI (3 : Int32), vI (0 : Int32), vI x0] [])) _
    refine XS.iinc X0.here hx rfl (hb hby d1_30) rfl (l' := #[vR a0, vJ ((0 : Int64) + (x0.toInt64)), .second, vR a0, vI (3 : Int32), vI (1 : Int32), vI x0]) rfl ?_
    show Steps p.tables e below (s₁.setTop (mkF m 33 #[vR a0, vJ ((0 : Int64) + (x0.toInt64)), .second, vR a0, vI (3 : Int32), vI (1 : Int32), vI x0] [])) _
    refine XS.goto X0.here hx rfl (pc0 := 33) (pc' := 11) rfl (hb hby d1_33) (by decide) (by decide) ?_
    show Steps p.tables e below (s₁.setTop (mkF m 11 #[vR a0, vJ ((0 : Int64) + (x0.toInt64)), .second, vR a0, vI (3 : Int32), vI (1 : Int32), vI x0] [])) _
    refine XS.iload X0.here hx rfl (hb hby d1_11) rfl ?_
    show Steps p.tables e below (s₁.setTop (mkF m 13 #[vR a0, vJ ((0 : Int64) + (x0.toInt64)), .second, vR a0, vI (3 : Int32), vI (1 : Int32), vI x0] [(.int (1 : Int32))])) _
    refine XS.iload X0.here hx rfl (hb hby d1_13) rfl ?_
    show Steps p.tables e below (s₁.setTop (mkF m 15 #[vR a0, vJ ((0 : Int64) + (x0.toInt64)), .second, vR a0, vI (3 : Int32), vI (1 : Int32), vI x0] [(.int (3 : Int32)), (.int (1 : Int32))])) _
    refine XS.icmpNo X0.here hx rfl (hb hby d1_15) rfl (tlt (by decide : (1 : Int32) < (3 : Int32))).2.1 ?_
    show Steps p.tables e below (s₁.setTop (mkF m 18 #[vR a0, vJ ((0 : Int64) + (x0.toInt64)), .second, vR a0, vI (3 : Int32), vI (1 : Int32), vI x0] [])) _
    refine XS.aloadN X0.here hx rfl (hb hby d1_18) rfl rfl ?_
    show Steps p.tables e below (s₁.setTop (mkF m 19 #[vR a0, vJ ((0 : Int64) + (x0.toInt64)), .second, vR a0, vI (3 : Int32), vI (1 : Int32), vI x0] [(.ref a0)])) _
    refine XS.iload X0.here hx rfl (hb hby d1_19) rfl ?_
    show Steps p.tables e below (s₁.setTop (mkF m 21 #[vR a0, vJ ((0 : Int64) + (x0.toInt64)), .second, vR a0, vI (3 : Int32), vI (1 : Int32), vI x0] [(.int (1 : Int32)), (.ref a0)])) _
    exact k)
  obtain ⟨cl6, Ar6, q6, S6, M6, H6, G6⟩ := id V0
  have in6 : ¬ ((1 : Int32) < 0 ∨ cl6.slots.size ≤ ((1 : Int32)).toNatClampNeg) := inb_of S6 ⟨by decide, by decide⟩
  have at6 : cl6.slots[((1 : Int32)).toNatClampNeg]? = some (.int x1) := H6.at in6 rfl
  have pre7 : Go p.tables e below S0 s₁ (mkF m 21 #[vR a0, vJ (((0 : Int64) + (x0.toInt64)) + (x1.toInt64)), .second, vR a0, vI (3 : Int32), vI (2 : Int32), vI x1] [(.int (2 : Int32)), (.ref a0)]) := fun t k => pre5 t (by
    refine X0.iaload hx (j := (1 : Int32)) (v := (.int x1)) (by rw [e0]; exact Ar6.1) (State.isArrayOf_alike hZ.alike Ar6.2.1) Ar6.2.2 in6 at6 (g := (mkF m 21 #[vR a0, vJ ((0 : Int64) + (x0.toInt64)), .second, vR a0, vI (3 : Int32), vI (1 : Int32), vI x0] [(.int (1 : Int32)), (.ref a0)])) rfl rfl (hb hby d1_21) _ ?_
    show Steps p.tables e below (s₁.setTop (mkF m 22 #[vR a0, vJ ((0 : Int64) + (x0.toInt64)), .second, vR a0, vI (3 : Int32), vI (1 : Int32), vI x0] [(.int x1)])) _
    refine XS.istore X0.here hx rfl (hb hby d1_22) rfl (l' := #[vR a0, vJ ((0 : Int64) + (x0.toInt64)), .second, vR a0, vI (3 : Int32), vI (1 : Int32), vI x1]) rfl ?_
    show Steps p.tables e below (s₁.setTop (mkF m 24 #[vR a0, vJ ((0 : Int64) + (x0.toInt64)), .second, vR a0, vI (3 : Int32), vI (1 : Int32), vI x1] [])) _
    refine XS.lloadN X0.here hx rfl (hb hby d1_24) rfl ?_
    show Steps p.tables e below (s₁.setTop (mkF m 25 #[vR a0, vJ ((0 : Int64) + (x0.toInt64)), .second, vR a0, vI (3 : Int32), vI (1 : Int32), vI x1] [(.long ((0 : Int64) + (x0.toInt64)))])) _
    refine XS.iload X0.here hx rfl (hb hby d1_25) rfl ?_
    show Steps p.tables e below (s₁.setTop (mkF m 27 #[vR a0, vJ ((0 : Int64) + (x0.toInt64)), .second, vR a0, vI (3 : Int32), vI (1 : Int32), vI x1] [(.int x1), (.long ((0 : Int64) + (x0.toInt64)))])) _
    refine XS.i2l X0.here hx rfl (hb hby d1_27) rfl ?_
    show Steps p.tables e below (s₁.setTop (mkF m 28 #[vR a0, vJ ((0 : Int64) + (x0.toInt64)), .second, vR a0, vI (3 : Int32), vI (1 : Int32), vI x1] [(.long (x1.toInt64)), (.long ((0 : Int64) + (x0.toInt64)))])) _
    refine XS.ladd X0.here hx rfl (hb hby d1_28) rfl ?_
    show Steps p.tables e below (s₁.setTop (mkF m 29 #[vR a0, vJ ((0 : Int64) + (x0.toInt64)), .second, vR a0, vI (3 : Int32), vI (1 : Int32), vI x1] [(.long (((0 : Int64) + (x0.toInt64)) + (x1.toInt64)))])) _
    refine XS.lstoreN X0.here hx rfl (hb hby d1_29) rfl (l' := #[vR a0, vJ (((0 : Int64) + (x0.toInt64)) + (x1.toInt64)), .second, vR a0, vI (3 : Int32), vI (1 : Int32), vI x1]) rfl ?_
    show Steps p.tables e below (s₁.setTop (mkF m 30 #[vR a0, vJ (((0 : Int64) + (x0.toInt64)) + (x1.toInt64)), .second, vR a0, vI (3 : Int32), vI (1 : Int32), vI x1] [])) _
    refine XS.iinc X0.here hx rfl (hb hby d1_30) rfl (l' := #[vR a0, vJ (((0 : Int64) + (x0.toInt64)) + (x1.toInt64)), .second, vR a0, vI (3 : Int32), vI (2 : Int32), vI x1]) rfl ?_
    show Steps p.tables e below (s₁.setTop (mkF m 33 #[vR a0, vJ (((0 : Int64) + (x0.toInt64)) + (x1.toInt64)), .second, vR a0, vI (3 : Int32), vI (2 : Int32), vI x1] [])) _
    refine XS.goto X0.here hx rfl (pc0 := 33) (pc' := 11) rfl (hb hby d1_33) (by decide) (by decide) ?_
    show Steps p.tables e below (s₁.setTop (mkF m 11 #[vR a0, vJ (((0 : Int64) + (x0.toInt64)) + (x1.toInt64)), .second, vR a0, vI (3 : Int32), vI (2 : Int32), vI x1] [])) _
    refine XS.iload X0.here hx rfl (hb hby d1_11) rfl ?_
    show Steps p.tables e below (s₁.setTop (mkF m 13 #[vR a0, vJ (((0 : Int64) + (x0.toInt64)) + (x1.toInt64)), .second, vR a0, vI (3 : Int32), vI (2 : Int32), vI x1] [(.int (2 : Int32))])) _
    refine XS.iload X0.here hx rfl (hb hby d1_13) rfl ?_
    show Steps p.tables e below (s₁.setTop (mkF m 15 #[vR a0, vJ (((0 : Int64) + (x0.toInt64)) + (x1.toInt64)), .second, vR a0, vI (3 : Int32), vI (2 : Int32), vI x1] [(.int (3 : Int32)), (.int (2 : Int32))])) _
    refine XS.icmpNo X0.here hx rfl (hb hby d1_15) rfl (tlt (by decide : (2 : Int32) < (3 : Int32))).2.1 ?_
    show Steps p.tables e below (s₁.setTop (mkF m 18 #[vR a0, vJ (((0 : Int64) + (x0.toInt64)) + (x1.toInt64)), .second, vR a0, vI (3 : Int32), vI (2 : Int32), vI x1] [])) _
    refine XS.aloadN X0.here hx rfl (hb hby d1_18) rfl rfl ?_
    show Steps p.tables e below (s₁.setTop (mkF m 19 #[vR a0, vJ (((0 : Int64) + (x0.toInt64)) + (x1.toInt64)), .second, vR a0, vI (3 : Int32), vI (2 : Int32), vI x1] [(.ref a0)])) _
    refine XS.iload X0.here hx rfl (hb hby d1_19) rfl ?_
    show Steps p.tables e below (s₁.setTop (mkF m 21 #[vR a0, vJ (((0 : Int64) + (x0.toInt64)) + (x1.toInt64)), .second, vR a0, vI (3 : Int32), vI (2 : Int32), vI x1] [(.int (2 : Int32)), (.ref a0)])) _
    exact k)
  obtain ⟨cl8, Ar8, q8, S8, M8, H8, G8⟩ := id V0
  have in8 : ¬ ((2 : Int32) < 0 ∨ cl8.slots.size ≤ ((2 : Int32)).toNatClampNeg) := inb_of S8 ⟨by decide, by decide⟩
  have at8 : cl8.slots[((2 : Int32)).toNatClampNeg]? = some (.int x2) := H8.at in8 rfl
  have pre9 : Go p.tables e below S0 s₁ (mkF m 37 #[vR a0, vJ ((((0 : Int64) + (x0.toInt64)) + (x1.toInt64)) + (x2.toInt64)), .second, vR a0, vI (3 : Int32), vI (3 : Int32), vI x2] [(.long ((((0 : Int64) + (x0.toInt64)) + (x1.toInt64)) + (x2.toInt64)))]) := fun t k => pre7 t (by
    refine X0.iaload hx (j := (2 : Int32)) (v := (.int x2)) (by rw [e0]; exact Ar8.1) (State.isArrayOf_alike hZ.alike Ar8.2.1) Ar8.2.2 in8 at8 (g := (mkF m 21 #[vR a0, vJ (((0 : Int64) + (x0.toInt64)) + (x1.toInt64)), .second, vR a0, vI (3 : Int32), vI (2 : Int32), vI x1] [(.int (2 : Int32)), (.ref a0)])) rfl rfl (hb hby d1_21) _ ?_
    show Steps p.tables e below (s₁.setTop (mkF m 22 #[vR a0, vJ (((0 : Int64) + (x0.toInt64)) + (x1.toInt64)), .second, vR a0, vI (3 : Int32), vI (2 : Int32), vI x1] [(.int x2)])) _
    refine XS.istore X0.here hx rfl (hb hby d1_22) rfl (l' := #[vR a0, vJ (((0 : Int64) + (x0.toInt64)) + (x1.toInt64)), .second, vR a0, vI (3 : Int32), vI (2 : Int32), vI x2]) rfl ?_
    show Steps p.tables e below (s₁.setTop (mkF m 24 #[vR a0, vJ (((0 : Int64) + (x0.toInt64)) + (x1.toInt64)), .second, vR a0, vI (3 : Int32), vI (2 : Int32), vI x2] [])) _
    refine XS.lloadN X0.here hx rfl (hb hby d1_24) rfl ?_
    show Steps p.tables e below (s₁.setTop (mkF m 25 #[vR a0, vJ (((0 : Int64) + (x0.toInt64)) + (x1.toInt64)), .second, vR a0, vI (3 : Int32), vI (2 : Int32), vI x2] [(.long (((0 : Int64) + (x0.toInt64)) + (x1.toInt64)))])) _
    refine XS.iload X0.here hx rfl (hb hby d1_25) rfl ?_
    show Steps p.tables e below (s₁.setTop (mkF m 27 #[vR a0, vJ (((0 : Int64) + (x0.toInt64)) + (x1.toInt64)), .second, vR a0, vI (3 : Int32), vI (2 : Int32), vI x2] [(.int x2), (.long (((0 : Int64) + (x0.toInt64)) + (x1.toInt64)))])) _
    refine XS.i2l X0.here hx rfl (hb hby d1_27) rfl ?_
    show Steps p.tables e below (s₁.setTop (mkF m 28 #[vR a0, vJ (((0 : Int64) + (x0.toInt64)) + (x1.toInt64)), .second, vR a0, vI (3 : Int32), vI (2 : Int32), vI x2] [(.long (x2.toInt64)), (.long (((0 : Int64) + (x0.toInt64)) + (x1.toInt64)))])) _
    refine XS.ladd X0.here hx rfl (hb hby d1_28) rfl ?_
    show Steps p.tables e below (s₁.setTop (mkF m 29 #[vR a0, vJ (((0 : Int64) + (x0.toInt64)) + (x1.toInt64)), .second, vR a0, vI (3 : Int32), vI (2 : Int32), vI x2] [(.long ((((0 : Int64) + (x0.toInt64)) + (x1.toInt64)) + (x2.toInt64)))])) _
    refine XS.lstoreN X0.here hx rfl (hb hby d1_29) rfl (l' := #[vR a0, vJ ((((0 : Int64) + (x0.toInt64)) + (x1.toInt64)) + (x2.toInt64)), .second, vR a0, vI (3 : Int32), vI (2 : Int32), vI x2]) rfl ?_
    show Steps p.tables e below (s₁.setTop (mkF m 30 #[vR a0, vJ ((((0 : Int64) + (x0.toInt64)) + (x1.toInt64)) + (x2.toInt64)), .second, vR a0, vI (3 : Int32), vI (2 : Int32), vI x2] [])) _
    refine XS.iinc X0.here hx rfl (hb hby d1_30) rfl (l' := #[vR a0, vJ ((((0 : Int64) + (x0.toInt64)) + (x1.toInt64)) + (x2.toInt64)), .second, vR a0, vI (3 : Int32), vI (3 : Int32), vI x2]) rfl ?_
    show Steps p.tables e below (s₁.setTop (mkF m 33 #[vR a0, vJ ((((0 : Int64) + (x0.toInt64)) + (x1.toInt64)) + (x2.toInt64)), .second, vR a0, vI (3 : Int32), vI (3 : Int32), vI x2] [])) _
    refine XS.goto X0.here hx rfl (pc0 := 33) (pc' := 11) rfl (hb hby d1_33) (by decide) (by decide) ?_
    show Steps p.tables e below (s₁.setTop (mkF m 11 #[vR a0, vJ ((((0 : Int64) + (x0.toInt64)) + (x1.toInt64)) + (x2.toInt64)), .second, vR a0, vI (3 : Int32), vI (3 : Int32), vI x2] [])) _
    refine XS.iload X0.here hx rfl (hb hby d1_11) rfl ?_
    show Steps p.tables e below (s₁.setTop (mkF m 13 #[vR a0, vJ ((((0 : Int64) + (x0.toInt64)) + (x1.toInt64)) + (x2.toInt64)), .second, vR a0, vI (3 : Int32), vI (3 : Int32), vI x2] [(.int (3 : Int32))])) _
    refine XS.iload X0.here hx rfl (hb hby d1_13) rfl ?_
    show Steps p.tables e below (s₁.setTop (mkF m 15 #[vR a0, vJ ((((0 : Int64) + (x0.toInt64)) + (x1.toInt64)) + (x2.toInt64)), .second, vR a0, vI (3 : Int32), vI (3 : Int32), vI x2] [(.int (3 : Int32)), (.int (3 : Int32))])) _
    refine XS.icmpYes X0.here hx rfl (pc0 := 15) (pc' := 36) rfl (hb hby d1_15) rfl (flt (by decide : ¬ ((3 : Int32) < (3 : Int32)))).2.1 (by decide) (by decide) ?_
    show Steps p.tables e below (s₁.setTop (mkF m 36 #[vR a0, vJ ((((0 : Int64) + (x0.toInt64)) + (x1.toInt64)) + (x2.toInt64)), .second, vR a0, vI (3 : Int32), vI (3 : Int32), vI x2] [])) _
    refine XS.lloadN X0.here hx rfl (hb hby d1_36) rfl ?_
    show Steps p.tables e below (s₁.setTop (mkF m 37 #[vR a0, vJ ((((0 : Int64) + (x0.toInt64)) + (x1.toInt64)) + (x2.toInt64)), .second, vR a0, vI (3 : Int32), vI (3 : Int32), vI x2] [(.long ((((0 : Int64) + (x0.toInt64)) + (x1.toInt64)) + (x2.toInt64)))])) _
    exact k)
  obtain ⟨fs, hr, hrun, hended, hW, hsame⟩ := X0.leave (v := some (.long ((((0 : Int64) + (x0.toInt64)) + (x1.toInt64)) + (x2.toInt64)))) (fun h => by rw [Bd.returns] at h; cases h)
  exact ⟨_, _, pre9.fin hS0 (retJ X0 hx Bd.returns (hb hby d1_37) hr), hrun, hended, _, _, rfl, (by
    show Q1_3 Z a0 k0 x0 x1 x2 h0 n0 _ s₁.heap _
    rw [e0]
    exact ⟨rfl, N0, rfl⟩), ⟨_, rfl⟩, hW, hsame.mono (by decide) (by decide)⟩
theorem ef_1_4 (m : MethodId) (x0 : Addr) : entryFrame m #[(.ref x0)] 7 = mkF m 0 #[.val (.ref x0), .unset, .unset, .unset, .unset, .unset, .unset] [] := by first | (simp [entryFrame, mkF, argsToLocals, Value.category]; done) | rfl
def Q1_4 (Z : State) (a0 : Addr) (k0 : ClassId) (x0 : Int32) (x1 : Int32) (x2 : Int32) (x3 : Int32) (h0 : Heap) (n0 : Nat) (v : Option Value) (h : Heap) (L : List Loc) : Prop := v = some (.long (((((0 : Int64) + (x0.toInt64)) + (x1.toInt64)) + (x2.toInt64)) + (x3.toInt64))) ∧ Fr n0 L ∧ h = h0
set_option maxRecDepth 65536 in
set_option maxHeartbeats 40000000 in
theorem rm1_4 (l : Launch) (Z : State) (A0 : Array Value) (hw : ∀ d ∈ tables_1, d.before A0 Z = true) (ws : List Jvm.Cond) (a0 : Addr) (k0 : ClassId) (x0 : Int32) (x1 : Int32) (x2 : Int32) (x3 : Int32) (h0 : Heap) (n0 : Nat) (Z0 : n0 ≤ h0.size) (V0 : Arv Z h0 a0 k0 .int (4 : Int32) [(.int x0), (.int x1), (.int x2), (.int x3)] (.int (0 : Int32))) :
    MetFree l (⟨"com/example/motiflow/motiflow/Tally", "explained", "([I)J"⟩ : MethodName) (head1 (Jvm.Cond.code (⟨"com/example/motiflow/motiflow/Tally", "explained", "([I)J"⟩ : MethodName) prog_135_method_10_code 7 (some .long) :: ws) ({ frames := 0, cells := 0, slots := 0, locals := 0 } : Room)) (fun a U => a = #[(.ref a0)] ∧ Z.Warmed39 U.vm ∧ U.heap = h0) (fun _ _ _ _ _ => True) (fun _ U o U' => ∃ v L, o = .returned v ∧ Q1_4 Z a0 k0 x0 x1 x2 x3 h0 n0 v U'.heap L ∧ FrameEnd U o U' L ({ frames := 0, cells := 0, slots := 0, locals := 0 } : Room).cells ({ frames := 0, cells := 0, slots := 0, locals := 0 } : Room).slots) := by
  refine MetFree.of_bodySF (plainFor_of_name pn_0) hisR ?_
  intro p e s m args below meth c s₁ Bd hml0 hP hK
  obtain ⟨rfl, hZ, hh⟩ := hP
  have hx := Bd.exec
  have hby := Bd.bytes
  have hml : c.maxLocals = 7 := hml0
  have hown : s.vm.findClass "com/example/motiflow/motiflow/Tally" = some m.cls := findClass_of_methodNamed Bd.named
  have hnm := (name_of_methodNamed Bd.named Bd.method).1
  have X0 : Stand p l e ({ frames := 0, cells := 0, slots := 0, locals := 0 } : Room) s m #[(.ref a0)] below meth c s₁ [] 0 0 := Stand.of_body Bd
  have e0 : s₁.heap = h0 := by rw [← hh, Bd.state]; rfl
  have N0 := Fr.nil n0
  obtain ⟨S0, hS0⟩ : ∃ z, z = s₁.setTop (entryFrame m #[(.ref a0)] 7) := ⟨_, rfl⟩
  have pre0 : Go p.tables e below S0 s₁ (mkF m 0 #[vR a0, .unset, .unset, .unset, .unset, .unset, .unset] []) := fun t k => by rw [hS0]; exact castTop (ef_1_4 m a0) k
  have pre1 : Go p.tables e below S0 s₁ (mkF m 5 #[vR a0, vJ (0 : Int64), .second, vR a0, .unset, .unset, .unset] [(.ref a0)]) := fun t k => pre0 t (by
    refine XS.lconst X0.here hx rfl (hb hby d1_0) ?_
    show Steps p.tables e below (s₁.setTop (mkF m 1 #[vR a0, .unset, .unset, .unset, .unset, .unset, .unset] [(.long (0 : Int64))])) _
    refine XS.lstoreN X0.here hx rfl (hb hby d1_1) rfl (l' := #[vR a0, vJ (0 : Int64), .second, .unset, .unset, .unset, .unset]) rfl ?_
    show Steps p.tables e below (s₁.setTop (mkF m 2 #[vR a0, vJ (0 : Int64), .second, .unset, .unset, .unset, .unset] [])) _
    refine XS.aloadN X0.here hx rfl (hb hby d1_2) rfl rfl ?_
    show Steps p.tables e below (s₁.setTop (mkF m 3 #[vR a0, vJ (0 : Int64), .second, .unset, .unset, .unset, .unset] [(.ref a0)])) _
    refine XS.astoreN X0.here hx rfl (hb hby d1_3) rfl rfl (l' := #[vR a0, vJ (0 : Int64), .second, vR a0, .unset, .unset, .unset]) rfl ?_
    show Steps p.tables e below (s₁.setTop (mkF m 4 #[vR a0, vJ (0 : Int64), .second, vR a0, .unset, .unset, .unset] [])) _
    refine XS.aloadN X0.here hx rfl (hb hby d1_4) rfl rfl ?_
    show Steps p.tables e below (s₁.setTop (mkF m 5 #[vR a0, vJ (0 : Int64), .second, vR a0, .unset, .unset, .unset] [(.ref a0)])) _
    exact k)
  obtain ⟨cl2, Ar2, q2, S2, M2, H2, G2⟩ := id V0
  have pre3 : Go p.tables e below S0 s₁ (mkF m 21 #[vR a0, vJ (0 : Int64), .second, vR a0, vI (4 : Int32), vI (0 : Int32), .unset] [(.int (0 : Int32)), (.ref a0)]) := fun t k => pre1 t (by
    refine X0.arraylength hx (by rw [e0]; exact Ar2.1) (State.isArrayOf_alike hZ.alike Ar2.2.1) (g := (mkF m 5 #[vR a0, vJ (0 : Int64), .second, vR a0, .unset, .unset, .unset] [(.ref a0)])) rfl rfl (hb hby d1_5) _ ?_
    rw [len_of S2 M2]
    show Steps p.tables e below (s₁.setTop (mkF m 6 #[vR a0, vJ (0 : Int64), .second, vR a0, .unset, .unset, .unset] [(.int (4 : Int32))])) _
    refine XS.istore X0.here hx rfl (hb hby d1_6) rfl (l' := #[vR a0, vJ (0 : Int64), .second, vR a0, vI (4 : Int32), .unset, .unset]) rfl ?_
    show Steps p.tables e below (s₁.setTop (mkF m 8 #[vR a0, vJ (0 : Int64), .second, vR a0, vI (4 : Int32), .unset, .unset] [])) _
    refine XS.iconst X0.here hx rfl (hb hby d1_8) ?_
    show Steps p.tables e below (s₁.setTop (mkF m 9 #[vR a0, vJ (0 : Int64), .second, vR a0, vI (4 : Int32), .unset, .unset] [(.int (0 : Int32))])) _
    refine XS.istore X0.here hx rfl (hb hby d1_9) rfl (l' := #[vR a0, vJ (0 : Int64), .second, vR a0, vI (4 : Int32), vI (0 : Int32), .unset]) rfl ?_
    show Steps p.tables e below (s₁.setTop (mkF m 11 #[vR a0, vJ (0 : Int64), .second, vR a0, vI (4 : Int32), vI (0 : Int32), .unset] [])) _
    refine XS.iload X0.here hx rfl (hb hby d1_11) rfl ?_
    show Steps p.tables e below (s₁.setTop (mkF m 13 #[vR a0, vJ (0 : Int64), .second, vR a0, vI (4 : Int32), vI (0 : Int32), .unset] [(.int (0 : Int32))])) _
    refine XS.iload X0.here hx rfl (hb hby d1_13) rfl ?_
    show Steps p.tables e below (s₁.setTop (mkF m 15 #[vR a0, vJ (0 : Int64), .second, vR a0, vI (4 : Int32), vI (0 : Int32), .unset] [(.int (4 : Int32)), (.int (0 : Int32))])) _
    refine XS.icmpNo X0.here hx rfl (hb hby d1_15) rfl (tlt (by decide : (0 : Int32) < (4 : Int32))).2.1 ?_
    show Steps p.tables e below (s₁.setTop (mkF m 18 #[vR a0, vJ (0 : Int64), .second, vR a0, vI (4 : Int32), vI (0 : Int32), .unset] [])) _
    refine XS.aloadN X0.here hx rfl (hb hby d1_18) rfl rfl ?_
    show Steps p.tables e below (s₁.setTop (mkF m 19 #[vR a0, vJ (0 : Int64), .second, vR a0, vI (4 : Int32), vI (0 : Int32), .unset] [(.ref a0)])) _
    refine XS.iload X0.here hx rfl (hb hby d1_19) rfl ?_
    show Steps p.tables e below (s₁.setTop (mkF m 21 #[vR a0, vJ (0 : Int64), .second, vR a0, vI (4 : Int32), vI (0 : Int32), .unset] [(.int (0 : Int32)), (.ref a0)])) _
    exact k)
  obtain ⟨cl4, Ar4, q4, S4, M4, H4, G4⟩ := id V0
  have in4 : ¬ ((0 : Int32) < 0 ∨ cl4.slots.size ≤ ((0 : Int32)).toNatClampNeg) := inb_of S4 ⟨by decide, by decide⟩
  have at4 : cl4.slots[((0 : Int32)).toNatClampNeg]? = some (.int x0) := H4.at in4 rfl
  have pre5 : Go p.tables e below S0 s₁ (mkF m 21 #[vR a0, vJ ((0 : Int64) + (x0.toInt64)), .second, vR a0, vI (4 : Int32), vI (1 : Int32), vI x0] [(.int (1 : Int32)), (.ref a0)]) := fun t k => pre3 t (by
    refine X0.iaload hx (j := (0 : Int32)) (v := (.int x0)) (by rw [e0]; exact Ar4.1) (State.isArrayOf_alike hZ.alike Ar4.2.1) Ar4.2.2 in4 at4 (g := (mkF m 21 #[vR a0, vJ (0 : Int64), .second, vR a0, vI (4 : Int32), vI (0 : Int32), .unset] [(.int (0 : Int32)), (.ref a0)])) rfl rfl (hb hby d1_21) _ ?_
    show Steps p.tables e below (s₁.setTop (mkF m 22 #[vR a0, vJ (0 : Int64), .second, vR a0, vI (4 : Int32), vI (0 : Int32), .unset] [(.int x0)])) _
    refine XS.istore X0.here hx rfl (hb hby d1_22) rfl (l' := #[vR a0, vJ (0 : Int64), .second, vR a0, vI (4 : Int32), vI (0 : Int32), vI x0]) rfl ?_
    show Steps p.tables e below (s₁.setTop (mkF m 24 #[vR a0, vJ (0 : Int64), .second, vR a0, vI (4 : Int32), vI (0 : Int32), vI x0] [])) _
    refine XS.lloadN X0.here hx rfl (hb hby d1_24) rfl ?_
    show Steps p.tables e below (s₁.setTop (mkF m 25 #[vR a0, vJ (0 : Int64), .second, vR a0, vI (4 : Int32), vI (0 : Int32), vI x0] [(.long (0 : Int64))])) _
    refine XS.iload X0.here hx rfl (hb hby d1_25) rfl ?_
    show Steps p.tables e below (s₁.setTop (mkF m 27 #[vR a0, vJ (0 : Int64), .second, vR a0, vI (4 : Int32), vI (0 : Int32), vI x0] [(.int x0), (.long (0 : Int64))])) _
    refine XS.i2l X0.here hx rfl (hb hby d1_27) rfl ?_
    show Steps p.tables e below (s₁.setTop (mkF m 28 #[vR a0, vJ (0 : Int64), .second, vR a0, vI (4 : Int32), vI (0 : Int32), vI x0] [(.long (x0.toInt64)), (.long (0 : Int64))])) _
    refine XS.ladd X0.here hx rfl (hb hby d1_28) rfl ?_
    show Steps p.tables e below (s₁.setTop (mkF m 29 #[vR a0, vJ (0 : Int64), .second, vR a0, vI (4 : Int32), vI (0 : Int32), vI x0] [(.long ((0 : Int64) + (x0.toInt64)))])) _
    refine XS.lstoreN X0.here hx rfl (hb hby d1_29) rfl (l' := #[vR a0, vJ ((0 : Int64) + (x0.toInt64)), .second, vR a0, vI (4 : Int32), vI (0 : Int32), vI x0]) rfl ?_
    show Steps p.tables e below (s₁.setTop (mkF m 30 #[vR a0, vJ ((0 : Int64) + (x0.toInt64)), .second, vR a0, vI (4 : Int32), vI (0 : Int32), vI x0] [])) _
    refine XS.iinc X0.here hx rfl (hb hby d1_30) rfl (l' := #[vR a0, vJ ((0 : Int64) + (x0.toInt64)), .second, vR a0, vI (4 : Int32), vI (1 : Int32), vI x0]) rfl ?_
    show Steps p.tables e below (s₁.setTop (mkF m 33 #[vR a0, vJ ((0 : Int64) + (x0.toInt64)), .second, vR a0, vI (4 : Int32), vI (1 : Int32), vI x0] [])) _
    refine XS.goto X0.here hx rfl (pc0 := 33) (pc' := 11) rfl (hb hby d1_33) (by decide) (by decide) ?_
    show Steps p.tables e below (s₁.setTop (mkF m 11 #[vR a0, vJ ((0 : Int64) + (x0.toInt64)), .second, vR a0, vI (4 : Int32), vI (1 : Int32), vI x0] [])) _
    refine XS.iload X0.here hx rfl (hb hby d1_11) rfl ?_
    show Steps p.tables e below (s₁.setTop (mkF m 13 #[vR a0, vJ ((0 : Int64) + (x0.toInt64)), .second, vR a0, vI (4 : Int32), vI (1 : Int32), vI x0] [(.int (1 : Int32))])) _
    refine XS.iload X0.here hx rfl (hb hby d1_13) rfl ?_
    show Steps p.tables e below (s₁.setTop (mkF m 15 #[vR a0, vJ ((0 : Int64) + (x0.toInt64)), .second, vR a0, vI (4 : Int32), vI (1 : Int32), vI x0] [(.int (4 : Int32)), (.int (1 : Int32))])) _
    refine XS.icmpNo X0.here hx rfl (hb hby d1_15) rfl (tlt (by decide : (1 : Int32) < (4 : Int32))).2.1 ?_
    show Steps p.tables e below (s₁.setTop (mkF m 18 #[vR a0, vJ ((0 : Int64) + (x0.toInt64)), .second, vR a0, vI (4 : Int32), vI (1 : Int32), vI x0] [])) _
    refine XS.aloadN X0.here hx rfl (hb hby d1_18) rfl rfl ?_
    show Steps p.tables e below (s₁.setTop (mkF m 19 #[vR a0, vJ ((0 : Int64) + (x0.toInt64)), .second, vR a0, vI (4 : Int32), vI (1 : Int32), vI x0] [(.ref a0)])) _
    refine XS.iload X0.here hx rfl (hb hby d1_19) rfl ?_
    show Steps p.tables e below (s₁.setTop (mkF m 21 #[vR a0, vJ ((0 : Int64) + (x0.toInt64)), .second, vR a0, vI (4 : Int32), vI (1 : Int32), vI x0] [(.int (1 : Int32)), (.ref a0)])) _
    exact k)
  obtain ⟨cl6, Ar6, q6, S6, M6, H6, G6⟩ := id V0
  have in6 : ¬ ((1 : Int32) < 0 ∨ cl6.slots.size ≤ ((1 : Int32)).toNatClampNeg) := inb_of S6 ⟨by decide, by decide⟩
  have at6 : cl6.slots[((1 : Int32)).toNatClampNeg]? = some (.int x1) := H6.at in6 rfl
  have pre7 : Go p.tables e below S0 s₁ (mkF m 21 #[vR a0, vJ (((0 : Int64) + (x0.toInt64)) + (x1.toInt64)), .second, vR a0, vI (4 : Int32), vI (2 : Int32), vI x1] [(.int (2 : Int32)), (.ref a0)]) := fun t k => pre5 t (by
    refine X0.iaload hx (j := (1 : Int32)) (v := (.int x1)) (by rw [e0]; exact Ar6.1) (State.isArrayOf_alike hZ.alike Ar6.2.1) Ar6.2.2 in6 at6 (g := (mkF m 21 #[vR a0, vJ ((0 : Int64) + (x0.toInt64)), .second, vR a0, vI (4 : Int32), vI (1 : Int32), vI x0] [(.int (1 : Int32)), (.ref a0)])) rfl rfl (hb hby d1_21) _ ?_
    show Steps p.tables e below (s₁.setTop (mkF m 22 #[vR a0, vJ ((0 : Int64) + (x0.toInt64)), .second, vR a0, vI (4 : Int32), vI (1 : Int32), vI x0] [(.int x1)])) _
    refine XS.istore X0.here hx rfl (hb hby d1_22) rfl (l' := #[vR a0, vJ ((0 : Int64) + (x0.toInt64)), .second, vR a0, vI (4 : Int32), vI (1 : Int32), vI x1]) rfl ?_
    show Steps p.tables e below (s₁.setTop (mkF m 24 #[vR a0, vJ ((0 : Int64) + (x0.toInt64)), .second, vR a0, vI (4 : Int32), vI (1 : Int32), vI x1] [])) _
    refine XS.lloadN X0.here hx rfl (hb hby d1_24) rfl ?_
    show Steps p.tables e below (s₁.setTop (mkF m 25 #[vR a0, vJ ((0 : Int64) + (x0.toInt64)), .second, vR a0, vI (4 : Int32), vI (1 : Int32), vI x1] [(.long ((0 : Int64) + (x0.toInt64)))])) _
    refine XS.iload X0.here hx rfl (hb hby d1_25) rfl ?_
    show Steps p.tables e below (s₁.setTop (mkF m 27 #[vR a0, vJ ((0 : Int64) + (x0.toInt64)), .second, vR a0, vI (4 : Int32), vI (1 : Int32), vI x1] [(.int x1), (.long ((0 : Int64) + (x0.toInt64)))])) _
    refine XS.i2l X0.here hx rfl (hb hby d1_27) rfl ?_
    show Steps p.tables e below (s₁.setTop (mkF m 28 #[vR a0, vJ ((0 : Int64) + (x0.toInt64)), .second, vR a0, vI (4 : Int32), vI (1 : Int32), vI x1] [(.long (x1.toInt64)), (.long ((0 : Int64) + (x0.toInt64)))])) _
    refine XS.ladd X0.here hx rfl (hb hby d1_28) rfl ?_
    show Steps p.tables e below (s₁.setTop (mkF m 29 #[vR a0, vJ ((0 : Int64) + (x0.toInt64)), .second, vR a0, vI (4 : Int32), vI (1 : Int32), vI x1] [(.long (((0 : Int64) + (x0.toInt64)) + (x1.toInt64)))])) _
    refine XS.lstoreN X0.here hx rfl (hb hby d1_29) rfl (l' := #[vR a0, vJ (((0 : Int64) + (x0.toInt64)) + (x1.toInt64)), .second, vR a0, vI (4 : Int32), vI (1 : Int32), vI x1]) rfl ?_
    show Steps p.tables e below (s₁.setTop (mkF m 30 #[vR a0, vJ (((0 : Int64) + (x0.toInt64)) + (x1.toInt64)), .second, vR a0, vI (4 : Int32), vI (1 : Int32), vI x1] [])) _
    refine XS.iinc X0.here hx rfl (hb hby d1_30) rfl (l' := #[vR a0, vJ (((0 : Int64) + (x0.toInt64)) + (x1.toInt64)), .second, vR a0, vI (4 : Int32), vI (2 : Int32), vI x1]) rfl ?_
    show Steps p.tables e below (s₁.setTop (mkF m 33 #[vR a0, vJ (((0 : Int64) + (x0.toInt64)) + (x1.toInt64)), .second, vR a0, vI (4 : Int32), vI (2 : Int32), vI x1] [])) _
    refine XS.goto X0.here hx rfl (pc0 := 33) (pc' := 11) rfl (hb hby d1_33) (by decide) (by decide) ?_
    show Steps p.tables e below (s₁.setTop (mkF m 11 #[vR a0, vJ (((0 : Int64) + (x0.toInt64)) + (x1.toInt64)), .second, vR a0, vI (4 : Int32), vI (2 : Int32), vI x1] [])) _
    refine XS.iload X0.here hx rfl (hb hby d1_11) rfl ?_
    show Steps p.tables e below (s₁.setTop (mkF m 13 #[vR a0, vJ (((0 : Int64) + (x0.toInt64)) + (x1.toInt64)), .second, vR a0, vI (4 : Int32), vI (2 : Int32), vI x1] [(.int (2 : Int32))])) _
    refine XS.iload X0.here hx rfl (hb hby d1_13) rfl ?_
    show Steps p.tables e below (s₁.setTop (mkF m 15 #[vR a0, vJ (((0 : Int64) + (x0.toInt64)) + (x1.toInt64)), .second, vR a0, vI (4 : Int32), vI (2 : Int32), vI x1] [(.int (4 : Int32)), (.int (2 : Int32))])) _
    refine XS.icmpNo X0.here hx rfl (hb hby d1_15) rfl (tlt (by decide : (2 : Int32) < (4 : Int32))).2.1 ?_
    show Steps p.tables e below (s₁.setTop (mkF m 18 #[vR a0, vJ (((0 : Int64) + (x0.toInt64)) + (x1.toInt64)), .second, vR a0, vI (4 : Int32), vI (2 : Int32), vI x1] [])) _
    refine XS.aloadN X0.here hx rfl (hb hby d1_18) rfl rfl ?_
    show Steps p.tables e below (s₁.setTop (mkF m 19 #[vR a0, vJ (((0 : Int64) + (x0.toInt64)) + (x1.toInt64)), .second, vR a0, vI (4 : Int32), vI (2 : Int32), vI x1] [(.ref a0)])) _
    refine XS.iload X0.here hx rfl (hb hby d1_19) rfl ?_
    show Steps p.tables e below (s₁.setTop (mkF m 21 #[vR a0, vJ (((0 : Int64) + (x0.toInt64)) + (x1.toInt64)), .second, vR a0, vI (4 : Int32), vI (2 : Int32), vI x1] [(.int (2 : Int32)), (.ref a0)])) _
    exact k)
  obtain ⟨cl8, Ar8, q8, S8, M8, H8, G8⟩ := id V0
  have in8 : ¬ ((2 : Int32) < 0 ∨ cl8.slots.size ≤ ((2 : Int32)).toNatClampNeg) := inb_of S8 ⟨by decide, by decide⟩
  have at8 : cl8.slots[((2 : Int32)).toNatClampNeg]? = some (.int x2) := H8.at in8 rfl
  have pre9 : Go p.tables e below S0 s₁ (mkF m 21 #[vR a0, vJ ((((0 : Int64) + (x0.toInt64)) + (x1.toInt64)) + (x2.toInt64)), .second, vR a0, vI (4 : Int32), vI (3 : Int32), vI x2] [(.int (3 : Int32)), (.ref a0)]) := fun t k => pre7 t (by
    refine X0.iaload hx (j := (2 : Int32)) (v := (.int x2)) (by rw [e0]; exact Ar8.1) (State.isArrayOf_alike hZ.alike Ar8.2.1) Ar8.2.2 in8 at8 (g := (mkF m 21 #[vR a0, vJ (((0 : Int64) + (x0.toInt64)) + (x1.toInt64)), .second, vR a0, vI (4 : Int32), vI (2 : Int32), vI x1] [(.int (2 : Int32)), (.ref a0)])) rfl rfl (hb hby d1_21) _ ?_
    show Steps p.tables e below (s₁.setTop (mkF m 22 #[vR a0, vJ (((0 : Int64) + (x0.toInt64)) + (x1.toInt64)), .second, vR a0, vI (4 : Int32), vI (2 : Int32), vI x1] [(.int x2)])) _
    refine XS.istore X0.here hx rfl (hb hby d1_22) rfl (l' := #[vR a0, vJ (((0 : Int64) + (x0.toInt64)) + (x1.toInt64)), .second, vR a0, vI (4 : Int32), vI (2 : Int32), vI x2]) rfl ?_
    show Steps p.tables e below (s₁.setTop (mkF m 24 #[vR a0, vJ (((0 : Int64) + (x0.toInt64)) + (x1.toInt64)), .second, vR a0, vI (4 : Int32), vI (2 : Int32), vI x2] [])) _
    refine XS.lloadN X0.here hx rfl (hb hby d1_24) rfl ?_
    show Steps p.tables e below (s₁.setTop (mkF m 25 #[vR a0, vJ (((0 : Int64) + (x0.toInt64)) + (x1.toInt64)), .second, vR a0, vI (4 : Int32), vI (2 : Int32), vI x2] [(.long (((0 : Int64) + (x0.toInt64)) + (x1.toInt64)))])) _
    refine XS.iload X0.here hx rfl (hb hby d1_25) rfl ?_
    show Steps p.tables e below (s₁.setTop (mkF m 27 #[vR a0, vJ (((0 : Int64) + (x0.toInt64)) + (x1.toInt64)), .second, vR a0, vI (4 : Int32), vI (2 : Int32), vI x2] [(.int x2), (.long (((0 : Int64) + (x0.toInt64)) + (x1.toInt64)))])) _
    refine XS.i2l X0.here hx rfl (hb hby d1_27) rfl ?_
    show Steps p.tables e below (s₁.setTop (mkF m 28 #[vR a0, vJ (((0 : Int64) + (x0.toInt64)) + (x1.toInt64)), .second, vR a0, vI (4 : Int32), vI (2 : Int32), vI x2] [(.long (x2.toInt64)), (.long (((0 : Int64) + (x0.toInt64)) + (x1.toInt64)))])) _
    refine XS.ladd X0.here hx rfl (hb hby d1_28) rfl ?_
    show Steps p.tables e below (s₁.setTop (mkF m 29 #[vR a0, vJ (((0 : Int64) + (x0.toInt64)) + (x1.toInt64)), .second, vR a0, vI (4 : Int32), vI (2 : Int32), vI x2] [(.long ((((0 : Int64) + (x0.toInt64)) + (x1.toInt64)) + (x2.toInt64)))])) _
    refine XS.lstoreN X0.here hx rfl (hb hby d1_29) rfl (l' := #[vR a0, vJ ((((0 : Int64) + (x0.toInt64)) + (x1.toInt64)) + (x2.toInt64)), .second, vR a0, vI (4 : Int32), vI (2 : Int32), vI x2]) rfl ?_
    show Steps p.tables e below (s₁.setTop (mkF m 30 #[vR a0, vJ ((((0 : Int64) + (x0.toInt64)) + (x1.toInt64)) + (x2.toInt64)), .second, vR a0, vI (4 : Int32), vI (2 : Int32), vI x2] [])) _
    refine XS.iinc X0.here hx rfl (hb hby d1_30) rfl (l' := #[vR a0, vJ ((((0 : Int64) + (x0.toInt64)) + (x1.toInt64)) + (x2.toInt64)), .second, vR a0, vI (4 : Int32), vI (3 : Int32), vI x2]) rfl ?_
    show Steps p.tables e below (s₁.setTop (mkF m 33 #[vR a0, vJ ((((0 : Int64) + (x0.toInt64)) + (x1.toInt64)) + (x2.toInt64)), .second, vR a0, vI (4 : Int32), vI (3 : Int32), vI x2] [])) _
    refine XS.goto X0.here hx rfl (pc0 := 33) (pc' := 11) rfl (hb hby d1_33) (by decide) (by decide) ?_
    show Steps p.tables e below (s₁.setTop (mkF m 11 #[vR a0, vJ ((((0 : Int64) + (x0.toInt64)) + (x1.toInt64)) + (x2.toInt64)), .second, vR a0, vI (4 : Int32), vI (3 : Int32), vI x2] [])) _
    refine XS.iload X0.here hx rfl (hb hby d1_11) rfl ?_
    show Steps p.tables e below (s₁.setTop (mkF m 13 #[vR a0, vJ ((((0 : Int64) + (x0.toInt64)) + (x1.toInt64)) + (x2.toInt64)), .second, vR a0, vI (4 : Int32), vI (3 : Int32), vI x2] [(.int (3 : Int32))])) _
    refine XS.iload X0.here hx rfl (hb hby d1_13) rfl ?_
    show Steps p.tables e below (s₁.setTop (mkF m 15 #[vR a0, vJ ((((0 : Int64) + (x0.toInt64)) + (x1.toInt64)) + (x2.toInt64)), .second, vR a0, vI (4 : Int32), vI (3 : Int32), vI x2] [(.int (4 : Int32)), (.int (3 : Int32))])) _
    refine XS.icmpNo X0.here hx rfl (hb hby d1_15) rfl (tlt (by decide : (3 : Int32) < (4 : Int32))).2.1 ?_
    show Steps p.tables e below (s₁.setTop (mkF m 18 #[vR a0, vJ ((((0 : Int64) + (x0.toInt64)) + (x1.toInt64)) + (x2.toInt64)), .second, vR a0, vI (4 : Int32), vI (3 : Int32), vI x2] [])) _
    refine XS.aloadN X0.here hx rfl (hb hby d1_18) rfl rfl ?_
    show Steps p.tables e below (s₁.setTop (mkF m 19 #[vR a0, vJ ((((0 : Int64) + (x0.toInt64)) + (x1.toInt64)) + (x2.toInt64)), .second, vR a0, vI (4 : Int32), vI (3 : Int32), vI x2] [(.ref a0)])) _
    refine XS.iload X0.here hx rfl (hb hby d1_19) rfl ?_
    show Steps p.tables e below (s₁.setTop (mkF m 21 #[vR a0, vJ ((((0 : Int64) + (x0.toInt64)) + (x1.toInt64)) + (x2.toInt64)), .second, vR a0, vI (4 : Int32), vI (3 : Int32), vI x2] [(.int (3 : Int32)), (.ref a0)])) _
    exact k)
  obtain ⟨cl10, Ar10, q10, S10, M10, H10, G10⟩ := id V0
  have in10 : ¬ ((3 : Int32) < 0 ∨ cl10.slots.size ≤ ((3 : Int32)).toNatClampNeg) := inb_of S10 ⟨by decide, by decide⟩
  have at10 : cl10.slots[((3 : Int32)).toNatClampNeg]? = some (.int x3) := H10.at in10 rfl
  have pre11 : Go p.tables e below S0 s₁ (mkF m 37 #[vR a0, vJ (((((0 : Int64) + (x0.toInt64)) + (x1.toInt64)) + (x2.toInt64)) + (x3.toInt64)), .second, vR a0, vI (4 : Int32), vI (4 : Int32), vI x3] [(.long (((((0 : Int64) + (x0.toInt64)) + (x1.toInt64)) + (x2.toInt64)) + (x3.toInt64)))]) := fun t k => pre9 t (by
    refine X0.iaload hx (j := (3 : Int32)) (v := (.int x3)) (by rw [e0]; exact Ar10.1) (State.isArrayOf_alike hZ.alike Ar10.2.1) Ar10.2.2 in10 at10 (g := (mkF m 21 #[vR a0, vJ ((((0 : Int64) + (x0.toInt64)) + (x1.toInt64)) + (x2.toInt64)), .second, vR a0, vI (4 : Int32), vI (3 : Int32), vI x2] [(.int (3 : Int32)), (.ref a0)])) rfl rfl (hb hby d1_21) _ ?_
    show Steps p.tables e below (s₁.setTop (mkF m 22 #[vR a0, vJ ((((0 : Int64) + (x0.toInt64)) + (x1.toInt64)) + (x2.toInt64)), .second, vR a0, vI (4 : Int32), vI (3 : Int32), vI x2] [(.int x3)])) _
    refine XS.istore X0.here hx rfl (hb hby d1_22) rfl (l' := #[vR a0, vJ ((((0 : Int64) + (x0.toInt64)) + (x1.toInt64)) + (x2.toInt64)), .second, vR a0, vI (4 : Int32), vI (3 : Int32), vI x3]) rfl ?_
    show Steps p.tables e below (s₁.setTop (mkF m 24 #[vR a0, vJ ((((0 : Int64) + (x0.toInt64)) + (x1.toInt64)) + (x2.toInt64)), .second, vR a0, vI (4 : Int32), vI (3 : Int32), vI x3] [])) _
    refine XS.lloadN X0.here hx rfl (hb hby d1_24) rfl ?_
    show Steps p.tables e below (s₁.setTop (mkF m 25 #[vR a0, vJ ((((0 : Int64) + (x0.toInt64)) + (x1.toInt64)) + (x2.toInt64)), .second, vR a0, vI (4 : Int32), vI (3 : Int32), vI x3] [(.long ((((0 : Int64) + (x0.toInt64)) + (x1.toInt64)) + (x2.toInt64)))])) _
    refine XS.iload X0.here hx rfl (hb hby d1_25) rfl ?_
    show Steps p.tables e below (s₁.setTop (mkF m 27 #[vR a0, vJ ((((0 : Int64) + (x0.toInt64)) + (x1.toInt64)) + (x2.toInt64)), .second, vR a0, vI (4 : Int32), vI (3 : Int32), vI x3] [(.int x3), (.long ((((0 : Int64) + (x0.toInt64)) + (x1.toInt64)) + (x2.toInt64)))])) _
    refine XS.i2l X0.here hx rfl (hb hby d1_27) rfl ?_
    show Steps p.tables e below (s₁.setTop (mkF m 28 #[vR a0, vJ ((((0 : Int64) + (x0.toInt64)) + (x1.toInt64)) + (x2.toInt64)), .second, vR a0, vI (4 : Int32), vI (3 : Int32), vI x3] [(.long (x3.toInt64)), (.long ((((0 : Int64) + (x0.toInt64)) + (x1.toInt64)) + (x2.toInt64)))])) _
    refine XS.ladd X0.here hx rfl (hb hby d1_28) rfl ?_
    show Steps p.tables e below (s₁.setTop (mkF m 29 #[vR a0, vJ ((((0 : Int64) + (x0.toInt64)) + (x1.toInt64)) + (x2.toInt64)), .second, vR a0, vI (4 : Int32), vI (3 : Int32), vI x3] [(.long (((((0 : Int64) + (x0.toInt64)) + (x1.toInt64)) + (x2.toInt64)) + (x3.toInt64)))])) _
    refine XS.lstoreN X0.here hx rfl (hb hby d1_29) rfl (l' := #[vR a0, vJ (((((0 : Int64) + (x0.toInt64)) + (x1.toInt64)) + (x2.toInt64)) + (x3.toInt64)), .second, vR a0, vI (4 : Int32), vI (3 : Int32), vI x3]) rfl ?_
    show Steps p.tables e below (s₁.setTop (mkF m 30 #[vR a0, vJ (((((0 : Int64) + (x0.toInt64)) + (x1.toInt64)) + (x2.toInt64)) + (x3.toInt64)), .second, vR a0, vI (4 : Int32), vI (3 : Int32), vI x3] [])) _
    refine XS.iinc X0.here hx rfl (hb hby d1_30) rfl (l' := #[vR a0, vJ (((((0 : Int64) + (x0.toInt64)) + (x1.toInt64)) + (x2.toInt64)) + (x3.toInt64)), .second, vR a0, vI (4 : Int32), vI (4 : Int32), vI x3]) rfl ?_
    show Steps p.tables e below (s₁.setTop (mkF m 33 #[vR a0, vJ (((((0 : Int64) + (x0.toInt64)) + (x1.toInt64)) + (x2.toInt64)) + (x3.toInt64)), .second, vR a0, vI (4 : Int32), vI (4 : Int32), vI x3] [])) _
    refine XS.goto X0.here hx rfl (pc0 := 33) (pc' := 11) rfl (hb hby d1_33) (by decide) (by decide) ?_
    show Steps p.tables e below (s₁.setTop (mkF m 11 #[vR a0, vJ (((((0 : Int64) + (x0.toInt64)) + (x1.toInt64)) + (x2.toInt64)) + (x3.toInt64)), .second, vR a0, vI (4 : Int32), vI (4 : Int32), vI x3] [])) _
    refine XS.iload X0.here hx rfl (hb hby d1_11) rfl ?_
    show Steps p.tables e below (s₁.setTop (mkF m 13 #[vR a0, vJ (((((0 : Int64) + (x0.toInt64)) + (x1.toInt64)) + (x2.toInt64)) + (x3.toInt64)), .second, vR a0, vI (4 : Int32), vI (4 : Int32), vI x3] [(.int (4 : Int32))])) _
    refine XS.iload X0.here hx rfl (hb hby d1_13) rfl ?_
    show Steps p.tables e below (s₁.setTop (mkF m 15 #[vR a0, vJ (((((0 : Int64) + (x0.toInt64)) + (x1.toInt64)) + (x2.toInt64)) + (x3.toInt64)), .second, vR a0, vI (4 : Int32), vI (4 : Int32), vI x3] [(.int (4 : Int32)), (.int (4 : Int32))])) _
    refine XS.icmpYes X0.here hx rfl (pc0 := 15) (pc' := 36) rfl (hb hby d1_15) rfl (flt (by decide : ¬ ((4 : Int32) < (4 : Int32)))).2.1 (by decide) (by decide) ?_
    show Steps p.tables e below (s₁.setTop (mkF m 36 #[vR a0, vJ (((((0 : Int64) + (x0.toInt64)) + (x1.toInt64)) + (x2.toInt64)) + (x3.toInt64)), .second, vR a0, vI (4 : Int32), vI (4 : Int32), vI x3] [])) _
    refine XS.lloadN X0.here hx rfl (hb hby d1_36) rfl ?_
    show Steps p.tables e below (s₁.setTop (mkF m 37 #[vR a0, vJ (((((0 : Int64) + (x0.toInt64)) + (x1.toInt64)) + (x2.toInt64)) + (x3.toInt64)), .second, vR a0, vI (4 : Int32), vI (4 : Int32), vI x3] [(.long (((((0 : Int64) + (x0.toInt64)) + (x1.toInt64)) + (x2.toInt64)) + (x3.toInt64)))])) _
    exact k)
  obtain ⟨fs, hr, hrun, hended, hW, hsame⟩ := X0.leave (v := some (.long (((((0 : Int64) + (x0.toInt64)) + (x1.toInt64)) + (x2.toInt64)) + (x3.toInt64)))) (fun h => by rw [Bd.returns] at h; cases h)
  exact ⟨_, _, pre11.fin hS0 (retJ X0 hx Bd.returns (hb hby d1_37) hr), hrun, hended, _, _, rfl, (by
    show Q1_4 Z a0 k0 x0 x1 x2 x3 h0 n0 _ s₁.heap _
    rw [e0]
    exact ⟨rfl, N0, rfl⟩), ⟨_, rfl⟩, hW, hsame.mono (by decide) (by decide)⟩
theorem own_k {x i : Int32} (h : i = (x &&& (2147483647 : Int32)) % (5 : Int32)) : i = (0 : Int32) ∨ i = (1 : Int32) ∨ i = (2 : Int32) ∨ i = (3 : Int32) ∨ i = (4 : Int32) := by
  have h0 : 0 ≤ (x &&& (2147483647 : Int32)).toInt := by rw [c_mask x (2147483647 : Int32) 31 (by decide) (by decide)]; omega
  have h1 := (c_iremV (x &&& (2147483647 : Int32)) (5 : Int32)).1 h0 (by decide)
  rw [← h] at h1
  simp only [← Int32.toInt_inj, Int32.reduceToInt] at *
  omega
theorem ef_0 (m : MethodId) (x0 : Int32) (x1 : Int32) (x2 : Int32) (x3 : Int32) (x4 : Int32) : entryFrame m #[(.int x0), (.int x1), (.int x2), (.int x3), (.int x4)] maxLocals = mkF m 0 #[.val (.int x0), .val (.int x1), .val (.int x2), .val (.int x3), .val (.int x4), .unset, .unset, .unset, .unset, .unset, .unset, .unset] [] := by first | (simp [entryFrame, mkF, argsToLocals, Value.category, maxLocals]; done) | rfl
theorem pn_1 : plainName "com/example/motiflow/motiflow/TallyExplainedPinLaw" = true := by first | (simp [plainName, overriddenIn]; done) | decide +kernel
theorem pd_0 : parseMethodDescriptor "([I)J" = some ⟨[(.array .int)], some .long⟩ := by decide +kernel
def Q0 (Z : State) (p0 p1 p2 p3 p4 : Int32) (h0 : Heap) (n0 : Nat) (v : Option Value) (h : Heap) (L : List Loc) : Prop := v = some (.int 1) ∧ Fr n0 L
set_option maxRecDepth 65536 in
set_option maxHeartbeats 40000000 in
theorem rm0 (l : Launch) (Z : State) (A0 : Array Value) (hw : ∀ d ∈ tables_1, d.before A0 Z = true) (ws : List Jvm.Cond) (p0 : Int32) (p1 : Int32) (p2 : Int32) (p3 : Int32) (p4 : Int32)  (h0 : Heap) (n0 : Nat) (Z0 : n0 ≤ h0.size)  :
    MetFree l x (head1 (Jvm.Cond.code x code maxLocals ret :: ws) room_1) (fun a U => a = #[(.int p0), (.int p1), (.int p2), (.int p3), (.int p4)] ∧ Z.Warmed39 U.vm ∧ U.heap = h0) (fun _ _ _ _ _ => True) (fun _ U o U' => ∃ v L, o = .returned v ∧ Q0 Z p0 p1 p2 p3 p4 h0 n0 v U'.heap L ∧ FrameEnd U o U' L 1 4) := by
  refine MetFree.of_bodySF (plainFor_of_name pn_1) hisR ?_
  intro p e s m args below meth c s₁ Bd hml0 hP hK
  obtain ⟨rfl, hZ, hh⟩ := hP
  have hx := Bd.exec
  have hby := Bd.bytes
  have hml : c.maxLocals = 12 := hml0
  have hown : s.vm.findClass "com/example/motiflow/motiflow/TallyExplainedPinLaw" = some m.cls := findClass_of_methodNamed Bd.named
  have hnm := (name_of_methodNamed Bd.named Bd.method).1
  have X0 : Stand p l e room_1 s m #[(.int p0), (.int p1), (.int p2), (.int p3), (.int p4)] below meth c s₁ [] 0 0 := Stand.of_body Bd
  have e0 : s₁.heap = h0 := by rw [← hh, Bd.state]; rfl
  have N0 := Fr.nil n0
  obtain ⟨S0, hS0⟩ : ∃ z, z = s₁.setTop (entryFrame m #[(.int p0), (.int p1), (.int p2), (.int p3), (.int p4)] maxLocals) := ⟨_, rfl⟩
  have pre0 : Go p.tables e below S0 s₁ (mkF m 0 #[vI p0, vI p1, vI p2, vI p3, vI p4, .unset, .unset, .unset, .unset, .unset, .unset, .unset] []) := fun t k => by rw [hS0]; exact castTop (ef_0 m p0 p1 p2 p3 p4) k
  obtain ⟨v1, hv1, pre1⟩ : ∃ z : Int32, z = ((p0 &&& (2147483647 : Int32)) % (5 : Int32)) ∧ Go p.tables e below S0 s₁ (mkF m 8 #[vI p0, vI p1, vI p2, vI p3, vI p4, vI z, .unset, .unset, .unset, .unset, .unset, .unset] []) := ⟨_, rfl, fun t k => pre0 t (by
    refine XS.iloadN X0.here hx rfl (hb hby at_0) rfl ?_
    show Steps p.tables e below (s₁.setTop (mkF m 1 #[vI p0, vI p1, vI p2, vI p3, vI p4, .unset, .unset, .unset, .unset, .unset, .unset, .unset] [(.int p0)])) _
    refine X0.ldcInt hx hown (mvT hZ (hw _ (List.mem_of_getElem? (i := 0) rfl))) (g := (mkF m 1 #[vI p0, vI p1, vI p2, vI p3, vI p4, .unset, .unset, .unset, .unset, .unset, .unset, .unset] [(.int p0)])) rfl (hb hby at_1) _ ?_
    show Steps p.tables e below (s₁.setTop (mkF m 3 #[vI p0, vI p1, vI p2, vI p3, vI p4, .unset, .unset, .unset, .unset, .unset, .unset, .unset] [(.int (2147483647 : Int32)), (.int p0)])) _
    refine XS.iand X0.here hx rfl (hb hby at_3) rfl ?_
    show Steps p.tables e below (s₁.setTop (mkF m 4 #[vI p0, vI p1, vI p2, vI p3, vI p4, .unset, .unset, .unset, .unset, .unset, .unset, .unset] [(.int (p0 &&& (2147483647 : Int32)))])) _
    refine XS.iconst X0.here hx rfl (hb hby at_4) ?_
    show Steps p.tables e below (s₁.setTop (mkF m 5 #[vI p0, vI p1, vI p2, vI p3, vI p4, .unset, .unset, .unset, .unset, .unset, .unset, .unset] [(.int (5 : Int32)), (.int (p0 &&& (2147483647 : Int32)))])) _
    refine iremM X0 hx rfl (hb hby at_5) rfl (by decide) ?_
    show Steps p.tables e below (s₁.setTop (mkF m 6 #[vI p0, vI p1, vI p2, vI p3, vI p4, .unset, .unset, .unset, .unset, .unset, .unset, .unset] [(.int ((p0 &&& (2147483647 : Int32)) % (5 : Int32)))])) _
    refine XS.istore X0.here hx rfl (hb hby at_6) rfl (l' := #[vI p0, vI p1, vI p2, vI p3, vI p4, vI ((p0 &&& (2147483647 : Int32)) % (5 : Int32)), .unset, .unset, .unset, .unset, .unset, .unset]) rfl ?_
    show Steps p.tables e below (s₁.setTop (mkF m 8 #[vI p0, vI p1, vI p2, vI p3, vI p4, vI ((p0 &&& (2147483647 : Int32)) % (5 : Int32)), .unset, .unset, .unset, .unset, .unset, .unset] [])) _
    exact k)⟩
  rcases own_k hv1 with rfl | rfl | rfl | rfl | rfl
  · skip
    have pre2 : Go p.tables e below S0 s₁ (mkF m 10 #[vI p0, vI p1, vI p2, vI p3, vI p4, vI (0 : Int32), .unset, .unset, .unset, .unset, .unset, .unset] [(.int (0 : Int32))]) := fun t k => pre1 t (by
      refine XS.iload X0.here hx rfl (hb hby at_8) rfl ?_
      show Steps p.tables e below (s₁.setTop (mkF m 10 #[vI p0, vI p1, vI p2, vI p3, vI p4, vI (0 : Int32), .unset, .unset, .unset, .unset, .unset, .unset] [(.int (0 : Int32))])) _
      exact k)
    obtain ⟨T3, h3, k3, X3, e3, E3, A3, st3⟩ := newP X0 hx hZ (hw _ (List.mem_of_getElem? (i := 1) rfl)) e0 (g := (mkF m 10 #[vI p0, vI p1, vI p2, vI p3, vI p4, vI (0 : Int32), .unset, .unset, .unset, .unset, .unset, .unset] [(.int (0 : Int32))])) rfl (hb hby at_10) rfl (by decide) (cap := 0) (by decide) (by decide) (by decide) (by decide)
    obtain ⟨b3, g3⟩ : ∃ z, z = h0.size := ⟨_, rfl⟩
    rw [← g3] at A3 st3
    have pre3 : Go p.tables e below S0 T3 (mkF m 12 #[vI p0, vI p1, vI p2, vI p3, vI p4, vI (0 : Int32), .unset, .unset, .unset, .unset, .unset, .unset] [(.ref b3)]) := fun t k => pre2 t (st3 t k)
    have bo3 : n0 ≤ b3 := Nat.le_trans Z0 (Nat.le_of_eq g3.symm)
    have zz5 : n0 ≤ h3.size := Nat.le_trans Z0 E3.1
    have av3 : Arv Z h3 b3 k3 .int (0 : Int32) [] (.int (0 : Int32)) := Arv.new A3 (by decide)
    have pre6 : Go p.tables e below S0 T3 (mkF m 92 #[vI p0, vI p1, vI p2, vI p3, vI p4, vI (0 : Int32), vR b3, vJ (0 : Int64), .second, .unset, .unset, .unset] [(.ref b3)]) := fun t k => pre3 t (by
      refine XS.astore X3.here hx rfl (hb hby at_12) rfl rfl (l' := #[vI p0, vI p1, vI p2, vI p3, vI p4, vI (0 : Int32), vR b3, .unset, .unset, .unset, .unset, .unset]) rfl ?_
      show Steps p.tables e below (T3.setTop (mkF m 14 #[vI p0, vI p1, vI p2, vI p3, vI p4, vI (0 : Int32), vR b3, .unset, .unset, .unset, .unset, .unset] [])) _
      refine XS.lconst X3.here hx rfl (hb hby at_14) ?_
      show Steps p.tables e below (T3.setTop (mkF m 15 #[vI p0, vI p1, vI p2, vI p3, vI p4, vI (0 : Int32), vR b3, .unset, .unset, .unset, .unset, .unset] [(.long (0 : Int64))])) _
      refine XS.lstore X3.here hx rfl (hb hby at_15) rfl (l' := #[vI p0, vI p1, vI p2, vI p3, vI p4, vI (0 : Int32), vR b3, vJ (0 : Int64), .second, .unset, .unset, .unset]) rfl ?_
      show Steps p.tables e below (T3.setTop (mkF m 17 #[vI p0, vI p1, vI p2, vI p3, vI p4, vI (0 : Int32), vR b3, vJ (0 : Int64), .second, .unset, .unset, .unset] [])) _
      refine XS.iload X3.here hx rfl (hb hby at_17) rfl ?_
      show Steps p.tables e below (T3.setTop (mkF m 19 #[vI p0, vI p1, vI p2, vI p3, vI p4, vI (0 : Int32), vR b3, vJ (0 : Int64), .second, .unset, .unset, .unset] [(.int (0 : Int32))])) _
      refine XS.ifYes X3.here hx rfl (pc0 := 19) (pc' := 34) rfl (hb hby at_19) rfl ((if0 _ _).trans (flt (by decide : ¬ ((0 : Int32) < (0 : Int32)))).2.2.2) (by decide) (by decide) ?_
      show Steps p.tables e below (T3.setTop (mkF m 34 #[vI p0, vI p1, vI p2, vI p3, vI p4, vI (0 : Int32), vR b3, vJ (0 : Int64), .second, .unset, .unset, .unset] [])) _
      refine XS.iload X3.here hx rfl (hb hby at_34) rfl ?_
      show Steps p.tables e below (T3.setTop (mkF m 36 #[vI p0, vI p1, vI p2, vI p3, vI p4, vI (0 : Int32), vR b3, vJ (0 : Int64), .second, .unset, .unset, .unset] [(.int (0 : Int32))])) _
      refine XS.iconst X3.here hx rfl (hb hby at_36) ?_
      show Steps p.tables e below (T3.setTop (mkF m 37 #[vI p0, vI p1, vI p2, vI p3, vI p4, vI (0 : Int32), vR b3, vJ (0 : Int64), .second, .unset, .unset, .unset] [(.int (1 : Int32)), (.int (0 : Int32))])) _
      refine XS.icmpYes X3.here hx rfl (pc0 := 37) (pc' := 52) rfl (hb hby at_37) rfl (flt (by decide : ¬ ((1 : Int32) < (0 : Int32)))).2.2.2 (by decide) (by decide) ?_
      show Steps p.tables e below (T3.setTop (mkF m 52 #[vI p0, vI p1, vI p2, vI p3, vI p4, vI (0 : Int32), vR b3, vJ (0 : Int64), .second, .unset, .unset, .unset] [])) _
      refine XS.iload X3.here hx rfl (hb hby at_52) rfl ?_
      show Steps p.tables e below (T3.setTop (mkF m 54 #[vI p0, vI p1, vI p2, vI p3, vI p4, vI (0 : Int32), vR b3, vJ (0 : Int64), .second, .unset, .unset, .unset] [(.int (0 : Int32))])) _
      refine XS.iconst X3.here hx rfl (hb hby at_54) ?_
      show Steps p.tables e below (T3.setTop (mkF m 55 #[vI p0, vI p1, vI p2, vI p3, vI p4, vI (0 : Int32), vR b3, vJ (0 : Int64), .second, .unset, .unset, .unset] [(.int (2 : Int32)), (.int (0 : Int32))])) _
      refine XS.icmpYes X3.here hx rfl (pc0 := 55) (pc' := 70) rfl (hb hby at_55) rfl (flt (by decide : ¬ ((2 : Int32) < (0 : Int32)))).2.2.2 (by decide) (by decide) ?_
      show Steps p.tables e below (T3.setTop (mkF m 70 #[vI p0, vI p1, vI p2, vI p3, vI p4, vI (0 : Int32), vR b3, vJ (0 : Int64), .second, .unset, .unset, .unset] [])) _
      refine XS.iload X3.here hx rfl (hb hby at_70) rfl ?_
      show Steps p.tables e below (T3.setTop (mkF m 72 #[vI p0, vI p1, vI p2, vI p3, vI p4, vI (0 : Int32), vR b3, vJ (0 : Int64), .second, .unset, .unset, .unset] [(.int (0 : Int32))])) _
      refine XS.iconst X3.here hx rfl (hb hby at_72) ?_
      show Steps p.tables e below (T3.setTop (mkF m 73 #[vI p0, vI p1, vI p2, vI p3, vI p4, vI (0 : Int32), vR b3, vJ (0 : Int64), .second, .unset, .unset, .unset] [(.int (3 : Int32)), (.int (0 : Int32))])) _
      refine XS.icmpYes X3.here hx rfl (pc0 := 73) (pc' := 90) rfl (hb hby at_73) rfl (flt (by decide : ¬ ((3 : Int32) < (0 : Int32)))).2.2.2 (by decide) (by decide) ?_
      show Steps p.tables e below (T3.setTop (mkF m 90 #[vI p0, vI p1, vI p2, vI p3, vI p4, vI (0 : Int32), vR b3, vJ (0 : Int64), .second, .unset, .unset, .unset] [])) _
      refine XS.aload X3.here hx rfl (hb hby at_90) rfl rfl ?_
      show Steps p.tables e below (T3.setTop (mkF m 92 #[vI p0, vI p1, vI p2, vI p3, vI p4, vI (0 : Int32), vR b3, vJ (0 : Int64), .second, .unset, .unset, .unset] [(.ref b3)])) _
      exact k)
    obtain ⟨_, _, ⟨T7, L7, k7, n7⟩, -, X7, ⟨Lc7, hQ7, l7, y7, z7⟩, st7⟩ := Jvm.LawKit.callS X3 hx (y := (⟨"com/example/motiflow/motiflow/Tally", "explained", "([I)J"⟩ : MethodName)) hown (mvT hZ (hw _ (List.mem_of_getElem? (i := 2) rfl))) (mvT hZ (hw _ (List.mem_of_getElem? (i := 3) rfl))) (mvT hZ (hw _ (List.mem_of_getElem? (i := 4) rfl))) (mvT hZ (hw _ (List.mem_of_getElem? (i := 5) rfl))) (by decide) (backOf (W := 0) (rm1_0 l Z A0 hw [] b3 k3 h3 n0 zz5 av3) hZ (hw _ (List.mem_of_getElem? (i := 5) rfl)) (hw _ (List.mem_of_getElem? (i := 4) rfl)) (by decide) (by decide)) (g := (mkF m 92 #[vI p0, vI p1, vI p2, vI p3, vI p4, vI (0 : Int32), vR b3, vJ (0 : Int64), .second, .unset, .unset, .unset] [(.ref b3)])) rfl (by rw [hml]; rfl) (argsL := [(.ref b3)]) (rest := []) (lenOf pd_0 rfl) rfl (by show 2 * 0 + _ ≤ _; exact Nat.le_of_eq rfl) (hb hby at_92) (fun _ _ => ⟨rfl, e3, (by decide : 1 + 0 ≤ _), (by decide : 0 + 0 ≤ _)⟩)
    dsimp only [Pt.U, Pt.locs, Pt.cells, Pt.slots] at X7 l7 y7 z7 st7 hQ7
    subst l7 y7 z7
    obtain ⟨rfl, Nq7, eq7⟩ := hQ7
    have N7 := Fr.app N0 Nq7
    have pre7 : Go p.tables e below S0 T7 (mkF m 95 #[vI p0, vI p1, vI p2, vI p3, vI p4, vI (0 : Int32), vR b3, vJ (0 : Int64), .second, .unset, .unset, .unset] [(.long (0 : Int64))]) := fun t k => pre6 t (st7 t k)
    have pre8 : Go p.tables e below S0 T7 (mkF m 186 #[vI p0, vI p1, vI p2, vI p3, vI p4, vI (0 : Int32), vR b3, vJ (0 : Int64), .second, vJ (0 : Int64), .second, vI (1 : Int32)] [(.int (1 : Int32))]) := fun t k => pre7 t (by
      refine XS.lstore X7.here hx rfl (hb hby at_95) rfl (l' := #[vI p0, vI p1, vI p2, vI p3, vI p4, vI (0 : Int32), vR b3, vJ (0 : Int64), .second, vJ (0 : Int64), .second, .unset]) rfl ?_
      show Steps p.tables e below (T7.setTop (mkF m 97 #[vI p0, vI p1, vI p2, vI p3, vI p4, vI (0 : Int32), vR b3, vJ (0 : Int64), .second, vJ (0 : Int64), .second, .unset] [])) _
      refine XS.iconst X7.here hx rfl (hb hby at_97) ?_
      show Steps p.tables e below (T7.setTop (mkF m 98 #[vI p0, vI p1, vI p2, vI p3, vI p4, vI (0 : Int32), vR b3, vJ (0 : Int64), .second, vJ (0 : Int64), .second, .unset] [(.int (1 : Int32))])) _
      refine XS.istore X7.here hx rfl (hb hby at_98) rfl (l' := #[vI p0, vI p1, vI p2, vI p3, vI p4, vI (0 : Int32), vR b3, vJ (0 : Int64), .second, vJ (0 : Int64), .second, vI (1 : Int32)]) rfl ?_
      show Steps p.tables e below (T7.setTop (mkF m 100 #[vI p0, vI p1, vI p2, vI p3, vI p4, vI (0 : Int32), vR b3, vJ (0 : Int64), .second, vJ (0 : Int64), .second, vI (1 : Int32)] [])) _
      refine XS.iload X7.here hx rfl (hb hby at_100) rfl ?_
      show Steps p.tables e below (T7.setTop (mkF m 102 #[vI p0, vI p1, vI p2, vI p3, vI p4, vI (0 : Int32), vR b3, vJ (0 : Int64), .second, vJ (0 : Int64), .second, vI (1 : Int32)] [(.int (0 : Int32))])) _
      refine XS.ifYes X7.here hx rfl (pc0 := 102) (pc' := 116) rfl (hb hby at_102) rfl ((if0 _ _).trans (flt (by decide : ¬ ((0 : Int32) < (0 : Int32)))).2.2.2) (by decide) (by decide) ?_
      show Steps p.tables e below (T7.setTop (mkF m 116 #[vI p0, vI p1, vI p2, vI p3, vI p4, vI (0 : Int32), vR b3, vJ (0 : Int64), .second, vJ (0 : Int64), .second, vI (1 : Int32)] [])) _
      refine XS.iload X7.here hx rfl (hb hby at_116) rfl ?_
      show Steps p.tables e below (T7.setTop (mkF m 118 #[vI p0, vI p1, vI p2, vI p3, vI p4, vI (0 : Int32), vR b3, vJ (0 : Int64), .second, vJ (0 : Int64), .second, vI (1 : Int32)] [(.int (0 : Int32))])) _
      refine XS.iconst X7.here hx rfl (hb hby at_118) ?_
      show Steps p.tables e below (T7.setTop (mkF m 119 #[vI p0, vI p1, vI p2, vI p3, vI p4, vI (0 : Int32), vR b3, vJ (0 : Int64), .second, vJ (0 : Int64), .second, vI (1 : Int32)] [(.int (1 : Int32)), (.int (0 : Int32))])) _
      refine XS.icmpYes X7.here hx rfl (pc0 := 119) (pc' := 133) rfl (hb hby at_119) rfl (flt (by decide : ¬ ((1 : Int32) < (0 : Int32)))).2.2.2 (by decide) (by decide) ?_
      show Steps p.tables e below (T7.setTop (mkF m 133 #[vI p0, vI p1, vI p2, vI p3, vI p4, vI (0 : Int32), vR b3, vJ (0 : Int64), .second, vJ (0 : Int64), .second, vI (1 : Int32)] [])) _
      refine XS.iload X7.here hx rfl (hb hby at_133) rfl ?_
      show Steps p.tables e below (T7.setTop (mkF m 135 #[vI p0, vI p1, vI p2, vI p3, vI p4, vI (0 : Int32), vR b3, vJ (0 : Int64), .second, vJ (0 : Int64), .second, vI (1 : Int32)] [(.int (0 : Int32))])) _
      refine XS.iconst X7.here hx rfl (hb hby at_135) ?_
      show Steps p.tables e below (T7.setTop (mkF m 136 #[vI p0, vI p1, vI p2, vI p3, vI p4, vI (0 : Int32), vR b3, vJ (0 : Int64), .second, vJ (0 : Int64), .second, vI (1 : Int32)] [(.int (2 : Int32)), (.int (0 : Int32))])) _
      refine XS.icmpYes X7.here hx rfl (pc0 := 136) (pc' := 150) rfl (hb hby at_136) rfl (flt (by decide : ¬ ((2 : Int32) < (0 : Int32)))).2.2.2 (by decide) (by decide) ?_
      show Steps p.tables e below (T7.setTop (mkF m 150 #[vI p0, vI p1, vI p2, vI p3, vI p4, vI (0 : Int32), vR b3, vJ (0 : Int64), .second, vJ (0 : Int64), .second, vI (1 : Int32)] [])) _
      refine XS.iload X7.here hx rfl (hb hby at_150) rfl ?_
      show Steps p.tables e below (T7.setTop (mkF m 152 #[vI p0, vI p1, vI p2, vI p3, vI p4, vI (0 : Int32), vR b3, vJ (0 : Int64), .second, vJ (0 : Int64), .second, vI (1 : Int32)] [(.int (0 : Int32))])) _
      refine XS.iconst X7.here hx rfl (hb hby at_152) ?_
      show Steps p.tables e below (T7.setTop (mkF m 153 #[vI p0, vI p1, vI p2, vI p3, vI p4, vI (0 : Int32), vR b3, vJ (0 : Int64), .second, vJ (0 : Int64), .second, vI (1 : Int32)] [(.int (3 : Int32)), (.int (0 : Int32))])) _
      refine XS.icmpYes X7.here hx rfl (pc0 := 153) (pc' := 168) rfl (hb hby at_153) rfl (flt (by decide : ¬ ((3 : Int32) < (0 : Int32)))).2.2.2 (by decide) (by decide) ?_
      show Steps p.tables e below (T7.setTop (mkF m 168 #[vI p0, vI p1, vI p2, vI p3, vI p4, vI (0 : Int32), vR b3, vJ (0 : Int64), .second, vJ (0 : Int64), .second, vI (1 : Int32)] [])) _
      refine XS.lload X7.here hx rfl (hb hby at_168) rfl ?_
      show Steps p.tables e below (T7.setTop (mkF m 170 #[vI p0, vI p1, vI p2, vI p3, vI p4, vI (0 : Int32), vR b3, vJ (0 : Int64), .second, vJ (0 : Int64), .second, vI (1 : Int32)] [(.long (0 : Int64))])) _
      refine XS.lload X7.here hx rfl (hb hby at_170) rfl ?_
      show Steps p.tables e below (T7.setTop (mkF m 172 #[vI p0, vI p1, vI p2, vI p3, vI p4, vI (0 : Int32), vR b3, vJ (0 : Int64), .second, vJ (0 : Int64), .second, vI (1 : Int32)] [(.long (0 : Int64)), (.long (0 : Int64))])) _
      refine XS.lcmp X7.here hx rfl (hb hby at_172) rfl ?_
      show Steps p.tables e below (T7.setTop (mkF m 173 #[vI p0, vI p1, vI p2, vI p3, vI p4, vI (0 : Int32), vR b3, vJ (0 : Int64), .second, vJ (0 : Int64), .second, vI (1 : Int32)] [(.int (lcmpW (0 : Int64) (0 : Int64)))])) _
      refine XS.ifNo X7.here hx rfl (hb hby at_173) rfl ((if0 _ _).trans (teq ((lw_eq _ _).mpr (rfl : (0 : Int64) = (0 : Int64)))).2) ?_
      show Steps p.tables e below (T7.setTop (mkF m 176 #[vI p0, vI p1, vI p2, vI p3, vI p4, vI (0 : Int32), vR b3, vJ (0 : Int64), .second, vJ (0 : Int64), .second, vI (1 : Int32)] [])) _
      refine XS.iload X7.here hx rfl (hb hby at_176) rfl ?_
      show Steps p.tables e below (T7.setTop (mkF m 178 #[vI p0, vI p1, vI p2, vI p3, vI p4, vI (0 : Int32), vR b3, vJ (0 : Int64), .second, vJ (0 : Int64), .second, vI (1 : Int32)] [(.int (1 : Int32))])) _
      refine XS.ifNo X7.here hx rfl (hb hby at_178) rfl ((if0 _ _).trans (feq (by decide : ¬ ((1 : Int32) = (0 : Int32)))).1) ?_
      show Steps p.tables e below (T7.setTop (mkF m 181 #[vI p0, vI p1, vI p2, vI p3, vI p4, vI (0 : Int32), vR b3, vJ (0 : Int64), .second, vJ (0 : Int64), .second, vI (1 : Int32)] [])) _
      refine XS.iconst X7.here hx rfl (hb hby at_181) ?_
      show Steps p.tables e below (T7.setTop (mkF m 182 #[vI p0, vI p1, vI p2, vI p3, vI p4, vI (0 : Int32), vR b3, vJ (0 : Int64), .second, vJ (0 : Int64), .second, vI (1 : Int32)] [(.int (1 : Int32))])) _
      refine XS.goto X7.here hx rfl (pc0 := 182) (pc' := 186) rfl (hb hby at_182) (by decide) (by decide) ?_
      show Steps p.tables e below (T7.setTop (mkF m 186 #[vI p0, vI p1, vI p2, vI p3, vI p4, vI (0 : Int32), vR b3, vJ (0 : Int64), .second, vJ (0 : Int64), .second, vI (1 : Int32)] [(.int (1 : Int32))])) _
      exact k)
    obtain ⟨fs, hr, hrun, hended, hW, hsame⟩ := X7.leave (v := some (.int (1 : Int32))) (fun h => by rw [Bd.returns] at h; cases h)
    exact ⟨_, _, pre8.fin hS0 (retN X7 hx (t := .boolean) Bd.returns (by simp) (hb hby at_186) hr), hrun, hended, _, _, rfl, (by
      show Q0 Z p0 p1 p2 p3 p4 h0 n0 _ T7.heap _
      rw [eq7]
      exact ⟨rfl, N7⟩), ⟨_, rfl⟩, hW, hsame.mono (by decide) (by decide)⟩
  · skip
    have pre9 : Go p.tables e below S0 s₁ (mkF m 10 #[vI p0, vI p1, vI p2, vI p3, vI p4, vI (1 : Int32), .unset, .unset, .unset, .unset, .unset, .unset] [(.int (1 : Int32))]) := fun t k => pre1 t (by
      refine XS.iload X0.here hx rfl (hb hby at_8) rfl ?_
      show Steps p.tables e below (s₁.setTop (mkF m 10 #[vI p0, vI p1, vI p2, vI p3, vI p4, vI (1 : Int32), .unset, .unset, .unset, .unset, .unset, .unset] [(.int (1 : Int32))])) _
      exact k)
    obtain ⟨T10, h10, k10, X10, e10, E10, A10, st10⟩ := newP X0 hx hZ (hw _ (List.mem_of_getElem? (i := 1) rfl)) e0 (g := (mkF m 10 #[vI p0, vI p1, vI p2, vI p3, vI p4, vI (1 : Int32), .unset, .unset, .unset, .unset, .unset, .unset] [(.int (1 : Int32))])) rfl (hb hby at_10) rfl (by decide) (cap := 1) (by decide) (by decide) (by decide) (by decide)
    obtain ⟨b10, g10⟩ : ∃ z, z = h0.size := ⟨_, rfl⟩
    rw [← g10] at A10 st10
    have pre10 : Go p.tables e below S0 T10 (mkF m 12 #[vI p0, vI p1, vI p2, vI p3, vI p4, vI (1 : Int32), .unset, .unset, .unset, .unset, .unset, .unset] [(.ref b10)]) := fun t k => pre9 t (st10 t k)
    have bo10 : n0 ≤ b10 := Nat.le_trans Z0 (Nat.le_of_eq g10.symm)
    have zz12 : n0 ≤ h10.size := Nat.le_trans Z0 E10.1
    have av10 : Arv Z h10 b10 k10 .int (1 : Int32) [(.int (0 : Int32))] (.int (0 : Int32)) := (Arv.new A10 (by decide)).pad (pad_rep [] (.int (0 : Int32)) 1)
    have pre13 : Go p.tables e below S0 T10 (mkF m 26 #[vI p0, vI p1, vI p2, vI p3, vI p4, vI (1 : Int32), vR b10, vJ (0 : Int64), .second, .unset, .unset, .unset] [(.int p1), (.int (0 : Int32)), (.ref b10)]) := fun t k => pre10 t (by
      refine XS.astore X10.here hx rfl (hb hby at_12) rfl rfl (l' := #[vI p0, vI p1, vI p2, vI p3, vI p4, vI (1 : Int32), vR b10, .unset, .unset, .unset, .unset, .unset]) rfl ?_
      show Steps p.tables e below (T10.setTop (mkF m 14 #[vI p0, vI p1, vI p2, vI p3, vI p4, vI (1 : Int32), vR b10, .unset, .unset, .unset, .unset, .unset] [])) _
      refine XS.lconst X10.here hx rfl (hb hby at_14) ?_
      show Steps p.tables e below (T10.setTop (mkF m 15 #[vI p0, vI p1, vI p2, vI p3, vI p4, vI (1 : Int32), vR b10, .unset, .unset, .unset, .unset, .unset] [(.long (0 : Int64))])) _
      refine XS.lstore X10.here hx rfl (hb hby at_15) rfl (l' := #[vI p0, vI p1, vI p2, vI p3, vI p4, vI (1 : Int32), vR b10, vJ (0 : Int64), .second, .unset, .unset, .unset]) rfl ?_
      show Steps p.tables e below (T10.setTop (mkF m 17 #[vI p0, vI p1, vI p2, vI p3, vI p4, vI (1 : Int32), vR b10, vJ (0 : Int64), .second, .unset, .unset, .unset] [])) _
      refine XS.iload X10.here hx rfl (hb hby at_17) rfl ?_
      show Steps p.tables e below (T10.setTop (mkF m 19 #[vI p0, vI p1, vI p2, vI p3, vI p4, vI (1 : Int32), vR b10, vJ (0 : Int64), .second, .unset, .unset, .unset] [(.int (1 : Int32))])) _
      refine XS.ifNo X10.here hx rfl (hb hby at_19) rfl ((if0 _ _).trans (tlt (by decide : (0 : Int32) < (1 : Int32))).2.2.2) ?_
      show Steps p.tables e below (T10.setTop (mkF m 22 #[vI p0, vI p1, vI p2, vI p3, vI p4, vI (1 : Int32), vR b10, vJ (0 : Int64), .second, .unset, .unset, .unset] [])) _
      refine XS.aload X10.here hx rfl (hb hby at_22) rfl rfl ?_
      show Steps p.tables e below (T10.setTop (mkF m 24 #[vI p0, vI p1, vI p2, vI p3, vI p4, vI (1 : Int32), vR b10, vJ (0 : Int64), .second, .unset, .unset, .unset] [(.ref b10)])) _
      refine XS.iconst X10.here hx rfl (hb hby at_24) ?_
      show Steps p.tables e below (T10.setTop (mkF m 25 #[vI p0, vI p1, vI p2, vI p3, vI p4, vI (1 : Int32), vR b10, vJ (0 : Int64), .second, .unset, .unset, .unset] [(.int (0 : Int32)), (.ref b10)])) _
      refine XS.iloadN X10.here hx rfl (hb hby at_25) rfl ?_
      show Steps p.tables e below (T10.setTop (mkF m 26 #[vI p0, vI p1, vI p2, vI p3, vI p4, vI (1 : Int32), vR b10, vJ (0 : Int64), .second, .unset, .unset, .unset] [(.int p1), (.int (0 : Int32)), (.ref b10)])) _
      exact k)
    obtain ⟨cl14, Ar14, q14, S14, M14, H14, G14⟩ := id av10
    have in14 : ¬ ((0 : Int32) < 0 ∨ cl14.slots.size ≤ ((0 : Int32)).toNatClampNeg) := inb_of S14 ⟨by decide, by decide⟩
    obtain ⟨T14, h14, X14, e14, W14, st14⟩ := stI X10 hx hZ e10 Ar14 (j := (0 : Int32)) in14 (g := (mkF m 26 #[vI p0, vI p1, vI p2, vI p3, vI p4, vI (1 : Int32), vR b10, vJ (0 : Int64), .second, .unset, .unset, .unset] [(.int p1), (.int (0 : Int32)), (.ref b10)])) rfl rfl (hb hby at_26)
    have pre14 : Go p.tables e below S0 T14 (mkF m 27 #[vI p0, vI p1, vI p2, vI p3, vI p4, vI (1 : Int32), vR b10, vJ (0 : Int64), .second, .unset, .unset, .unset] []) := fun t k => pre13 t (st14 t k)
    have N14 := Fr.snoc X14 N0 bo10
    have av14 : Arv Z h14 b10 k10 .int (1 : Int32) [(.int p1)] (.int (0 : Int32)) := Arv.set Ar14 q14 S14 M14 H14 G14 rfl W14 0 rfl (Nat.le_of_ble_eq_true rfl)
    have zz16 : n0 ≤ h14.size := Nat.le_trans zz12 (Keep.of_wr W14).1
    have pre17 : Go p.tables e below S0 T14 (mkF m 92 #[vI p0, vI p1, vI p2, vI p3, vI p4, vI (1 : Int32), vR b10, vJ ((0 : Int64) + (p1.toInt64)), .second, .unset, .unset, .unset] [(.ref b10)]) := fun t k => pre14 t (by
      refine XS.lload X14.here hx rfl (hb hby at_27) rfl ?_
      show Steps p.tables e below (T14.setTop (mkF m 29 #[vI p0, vI p1, vI p2, vI p3, vI p4, vI (1 : Int32), vR b10, vJ (0 : Int64), .second, .unset, .unset, .unset] [(.long (0 : Int64))])) _
      refine XS.iloadN X14.here hx rfl (hb hby at_29) rfl ?_
      show Steps p.tables e below (T14.setTop (mkF m 30 #[vI p0, vI p1, vI p2, vI p3, vI p4, vI (1 : Int32), vR b10, vJ (0 : Int64), .second, .unset, .unset, .unset] [(.int p1), (.long (0 : Int64))])) _
      refine XS.i2l X14.here hx rfl (hb hby at_30) rfl ?_
      show Steps p.tables e below (T14.setTop (mkF m 31 #[vI p0, vI p1, vI p2, vI p3, vI p4, vI (1 : Int32), vR b10, vJ (0 : Int64), .second, .unset, .unset, .unset] [(.long (p1.toInt64)), (.long (0 : Int64))])) _
      refine XS.ladd X14.here hx rfl (hb hby at_31) rfl ?_
      show Steps p.tables e below (T14.setTop (mkF m 32 #[vI p0, vI p1, vI p2, vI p3, vI p4, vI (1 : Int32), vR b10, vJ (0 : Int64), .second, .unset, .unset, .unset] [(.long ((0 : Int64) + (p1.toInt64)))])) _
      refine XS.lstore X14.here hx rfl (hb hby at_32) rfl (l' := #[vI p0, vI p1, vI p2, vI p3, vI p4, vI (1 : Int32), vR b10, vJ ((0 : Int64) + (p1.toInt64)), .second, .unset, .unset, .unset]) rfl ?_
      show Steps p.tables e below (T14.setTop (mkF m 34 #[vI p0, vI p1, vI p2, vI p3, vI p4, vI (1 : Int32), vR b10, vJ ((0 : Int64) + (p1.toInt64)), .second, .unset, .unset, .unset] [])) _
      refine XS.iload X14.here hx rfl (hb hby at_34) rfl ?_
      show Steps p.tables e below (T14.setTop (mkF m 36 #[vI p0, vI p1, vI p2, vI p3, vI p4, vI (1 : Int32), vR b10, vJ ((0 : Int64) + (p1.toInt64)), .second, .unset, .unset, .unset] [(.int (1 : Int32))])) _
      refine XS.iconst X14.here hx rfl (hb hby at_36) ?_
      show Steps p.tables e below (T14.setTop (mkF m 37 #[vI p0, vI p1, vI p2, vI p3, vI p4, vI (1 : Int32), vR b10, vJ ((0 : Int64) + (p1.toInt64)), .second, .unset, .unset, .unset] [(.int (1 : Int32)), (.int (1 : Int32))])) _
      refine XS.icmpYes X14.here hx rfl (pc0 := 37) (pc' := 52) rfl (hb hby at_37) rfl (flt (by decide : ¬ ((1 : Int32) < (1 : Int32)))).2.2.2 (by decide) (by decide) ?_
      show Steps p.tables e below (T14.setTop (mkF m 52 #[vI p0, vI p1, vI p2, vI p3, vI p4, vI (1 : Int32), vR b10, vJ ((0 : Int64) + (p1.toInt64)), .second, .unset, .unset, .unset] [])) _
      refine XS.iload X14.here hx rfl (hb hby at_52) rfl ?_
      show Steps p.tables e below (T14.setTop (mkF m 54 #[vI p0, vI p1, vI p2, vI p3, vI p4, vI (1 : Int32), vR b10, vJ ((0 : Int64) + (p1.toInt64)), .second, .unset, .unset, .unset] [(.int (1 : Int32))])) _
      refine XS.iconst X14.here hx rfl (hb hby at_54) ?_
      show Steps p.tables e below (T14.setTop (mkF m 55 #[vI p0, vI p1, vI p2, vI p3, vI p4, vI (1 : Int32), vR b10, vJ ((0 : Int64) + (p1.toInt64)), .second, .unset, .unset, .unset] [(.int (2 : Int32)), (.int (1 : Int32))])) _
      refine XS.icmpYes X14.here hx rfl (pc0 := 55) (pc' := 70) rfl (hb hby at_55) rfl (flt (by decide : ¬ ((2 : Int32) < (1 : Int32)))).2.2.2 (by decide) (by decide) ?_
      show Steps p.tables e below (T14.setTop (mkF m 70 #[vI p0, vI p1, vI p2, vI p3, vI p4, vI (1 : Int32), vR b10, vJ ((0 : Int64) + (p1.toInt64)), .second, .unset, .unset, .unset] [])) _
      refine XS.iload X14.here hx rfl (hb hby at_70) rfl ?_
      show Steps p.tables e below (T14.setTop (mkF m 72 #[vI p0, vI p1, vI p2, vI p3, vI p4, vI (1 : Int32), vR b10, vJ ((0 : Int64) + (p1.toInt64)), .second, .unset, .unset, .unset] [(.int (1 : Int32))])) _
      refine XS.iconst X14.here hx rfl (hb hby at_72) ?_
      show Steps p.tables e below (T14.setTop (mkF m 73 #[vI p0, vI p1, vI p2, vI p3, vI p4, vI (1 : Int32), vR b10, vJ ((0 : Int64) + (p1.toInt64)), .second, .unset, .unset, .unset] [(.int (3 : Int32)), (.int (1 : Int32))])) _
      refine XS.icmpYes X14.here hx rfl (pc0 := 73) (pc' := 90) rfl (hb hby at_73) rfl (flt (by decide : ¬ ((3 : Int32) < (1 : Int32)))).2.2.2 (by decide) (by decide) ?_
      show Steps p.tables e below (T14.setTop (mkF m 90 #[vI p0, vI p1, vI p2, vI p3, vI p4, vI (1 : Int32), vR b10, vJ ((0 : Int64) + (p1.toInt64)), .second, .unset, .unset, .unset] [])) _
      refine XS.aload X14.here hx rfl (hb hby at_90) rfl rfl ?_
      show Steps p.tables e below (T14.setTop (mkF m 92 #[vI p0, vI p1, vI p2, vI p3, vI p4, vI (1 : Int32), vR b10, vJ ((0 : Int64) + (p1.toInt64)), .second, .unset, .unset, .unset] [(.ref b10)])) _
      exact k)
    obtain ⟨_, _, ⟨T18, L18, k18, n18⟩, -, X18, ⟨Lc18, hQ18, l18, y18, z18⟩, st18⟩ := Jvm.LawKit.callS X14 hx (y := (⟨"com/example/motiflow/motiflow/Tally", "explained", "([I)J"⟩ : MethodName)) hown (mvT hZ (hw _ (List.mem_of_getElem? (i := 2) rfl))) (mvT hZ (hw _ (List.mem_of_getElem? (i := 3) rfl))) (mvT hZ (hw _ (List.mem_of_getElem? (i := 4) rfl))) (mvT hZ (hw _ (List.mem_of_getElem? (i := 5) rfl))) (by decide) (backOf (W := 0) (rm1_1 l Z A0 hw [] b10 k10 p1 h14 n0 zz16 av14) hZ (hw _ (List.mem_of_getElem? (i := 5) rfl)) (hw _ (List.mem_of_getElem? (i := 4) rfl)) (by decide) (by decide)) (g := (mkF m 92 #[vI p0, vI p1, vI p2, vI p3, vI p4, vI (1 : Int32), vR b10, vJ ((0 : Int64) + (p1.toInt64)), .second, .unset, .unset, .unset] [(.ref b10)])) rfl (by rw [hml]; rfl) (argsL := [(.ref b10)]) (rest := []) (lenOf pd_0 rfl) rfl (by show 2 * 0 + _ ≤ _; exact Nat.le_of_eq rfl) (hb hby at_92) (fun _ _ => ⟨rfl, e14, (by decide : 1 + 0 ≤ _), (by decide : 1 + 0 ≤ _)⟩)
    dsimp only [Pt.U, Pt.locs, Pt.cells, Pt.slots] at X18 l18 y18 z18 st18 hQ18
    subst l18 y18 z18
    obtain ⟨rfl, Nq18, eq18⟩ := hQ18
    have N18 := Fr.app N14 Nq18
    have pre18 : Go p.tables e below S0 T18 (mkF m 95 #[vI p0, vI p1, vI p2, vI p3, vI p4, vI (1 : Int32), vR b10, vJ ((0 : Int64) + (p1.toInt64)), .second, .unset, .unset, .unset] [(.long ((0 : Int64) + (p1.toInt64)))]) := fun t k => pre17 t (st18 t k)
    have pre19 : Go p.tables e below S0 T18 (mkF m 108 #[vI p0, vI p1, vI p2, vI p3, vI p4, vI (1 : Int32), vR b10, vJ ((0 : Int64) + (p1.toInt64)), .second, vJ ((0 : Int64) + (p1.toInt64)), .second, vI (1 : Int32)] [(.int (0 : Int32)), (.ref b10)]) := fun t k => pre18 t (by
      refine XS.lstore X18.here hx rfl (hb hby at_95) rfl (l' := #[vI p0, vI p1, vI p2, vI p3, vI p4, vI (1 : Int32), vR b10, vJ ((0 : Int64) + (p1.toInt64)), .second, vJ ((0 : Int64) + (p1.toInt64)), .second, .unset]) rfl ?_
      show Steps p.tables e below (T18.setTop (mkF m 97 #[vI p0, vI p1, vI p2, vI p3, vI p4, vI (1 : Int32), vR b10, vJ ((0 : Int64) + (p1.toInt64)), .second, vJ ((0 : Int64) + (p1.toInt64)), .second, .unset] [])) _
      refine XS.iconst X18.here hx rfl (hb hby at_97) ?_
      show Steps p.tables e below (T18.setTop (mkF m 98 #[vI p0, vI p1, vI p2, vI p3, vI p4, vI (1 : Int32), vR b10, vJ ((0 : Int64) + (p1.toInt64)), .second, vJ ((0 : Int64) + (p1.toInt64)), .second, .unset] [(.int (1 : Int32))])) _
      refine XS.istore X18.here hx rfl (hb hby at_98) rfl (l' := #[vI p0, vI p1, vI p2, vI p3, vI p4, vI (1 : Int32), vR b10, vJ ((0 : Int64) + (p1.toInt64)), .second, vJ ((0 : Int64) + (p1.toInt64)), .second, vI (1 : Int32)]) rfl ?_
      show Steps p.tables e below (T18.setTop (mkF m 100 #[vI p0, vI p1, vI p2, vI p3, vI p4, vI (1 : Int32), vR b10, vJ ((0 : Int64) + (p1.toInt64)), .second, vJ ((0 : Int64) + (p1.toInt64)), .second, vI (1 : Int32)] [])) _
      refine XS.iload X18.here hx rfl (hb hby at_100) rfl ?_
      show Steps p.tables e below (T18.setTop (mkF m 102 #[vI p0, vI p1, vI p2, vI p3, vI p4, vI (1 : Int32), vR b10, vJ ((0 : Int64) + (p1.toInt64)), .second, vJ ((0 : Int64) + (p1.toInt64)), .second, vI (1 : Int32)] [(.int (1 : Int32))])) _
      refine XS.ifNo X18.here hx rfl (hb hby at_102) rfl ((if0 _ _).trans (tlt (by decide : (0 : Int32) < (1 : Int32))).2.2.2) ?_
      show Steps p.tables e below (T18.setTop (mkF m 105 #[vI p0, vI p1, vI p2, vI p3, vI p4, vI (1 : Int32), vR b10, vJ ((0 : Int64) + (p1.toInt64)), .second, vJ ((0 : Int64) + (p1.toInt64)), .second, vI (1 : Int32)] [])) _
      refine XS.aload X18.here hx rfl (hb hby at_105) rfl rfl ?_
      show Steps p.tables e below (T18.setTop (mkF m 107 #[vI p0, vI p1, vI p2, vI p3, vI p4, vI (1 : Int32), vR b10, vJ ((0 : Int64) + (p1.toInt64)), .second, vJ ((0 : Int64) + (p1.toInt64)), .second, vI (1 : Int32)] [(.ref b10)])) _
      refine XS.iconst X18.here hx rfl (hb hby at_107) ?_
      show Steps p.tables e below (T18.setTop (mkF m 108 #[vI p0, vI p1, vI p2, vI p3, vI p4, vI (1 : Int32), vR b10, vJ ((0 : Int64) + (p1.toInt64)), .second, vJ ((0 : Int64) + (p1.toInt64)), .second, vI (1 : Int32)] [(.int (0 : Int32)), (.ref b10)])) _
      exact k)
    obtain ⟨cl20, Ar20, q20, S20, M20, H20, G20⟩ := id av14
    have in20 : ¬ ((0 : Int32) < 0 ∨ cl20.slots.size ≤ ((0 : Int32)).toNatClampNeg) := inb_of S20 ⟨by decide, by decide⟩
    have at20 : cl20.slots[((0 : Int32)).toNatClampNeg]? = some (.int p1) := H20.at in20 rfl
    have pre21 : Go p.tables e below S0 T18 (mkF m 186 #[vI p0, vI p1, vI p2, vI p3, vI p4, vI (1 : Int32), vR b10, vJ ((0 : Int64) + (p1.toInt64)), .second, vJ ((0 : Int64) + (p1.toInt64)), .second, vI (1 : Int32)] [(.int (1 : Int32))]) := fun t k => pre19 t (by
      refine X18.iaload hx (j := (0 : Int32)) (v := (.int p1)) (by rw [eq18]; exact Ar20.1) (State.isArrayOf_alike hZ.alike Ar20.2.1) Ar20.2.2 in20 at20 (g := (mkF m 108 #[vI p0, vI p1, vI p2, vI p3, vI p4, vI (1 : Int32), vR b10, vJ ((0 : Int64) + (p1.toInt64)), .second, vJ ((0 : Int64) + (p1.toInt64)), .second, vI (1 : Int32)] [(.int (0 : Int32)), (.ref b10)])) rfl rfl (hb hby at_108) _ ?_
      show Steps p.tables e below (T18.setTop (mkF m 109 #[vI p0, vI p1, vI p2, vI p3, vI p4, vI (1 : Int32), vR b10, vJ ((0 : Int64) + (p1.toInt64)), .second, vJ ((0 : Int64) + (p1.toInt64)), .second, vI (1 : Int32)] [(.int p1)])) _
      refine XS.iloadN X18.here hx rfl (hb hby at_109) rfl ?_
      show Steps p.tables e below (T18.setTop (mkF m 110 #[vI p0, vI p1, vI p2, vI p3, vI p4, vI (1 : Int32), vR b10, vJ ((0 : Int64) + (p1.toInt64)), .second, vJ ((0 : Int64) + (p1.toInt64)), .second, vI (1 : Int32)] [(.int p1), (.int p1)])) _
      refine XS.icmpYes X18.here hx rfl (pc0 := 110) (pc' := 116) rfl (hb hby at_110) rfl (teq (rfl : p1 = p1)).1 (by decide) (by decide) ?_
      show Steps p.tables e below (T18.setTop (mkF m 116 #[vI p0, vI p1, vI p2, vI p3, vI p4, vI (1 : Int32), vR b10, vJ ((0 : Int64) + (p1.toInt64)), .second, vJ ((0 : Int64) + (p1.toInt64)), .second, vI (1 : Int32)] [])) _
      refine XS.iload X18.here hx rfl (hb hby at_116) rfl ?_
      show Steps p.tables e below (T18.setTop (mkF m 118 #[vI p0, vI p1, vI p2, vI p3, vI p4, vI (1 : Int32), vR b10, vJ ((0 : Int64) + (p1.toInt64)), .second, vJ ((0 : Int64) + (p1.toInt64)), .second, vI (1 : Int32)] [(.int (1 : Int32))])) _
      refine XS.iconst X18.here hx rfl (hb hby at_118) ?_
      show Steps p.tables e below (T18.setTop (mkF m 119 #[vI p0, vI p1, vI p2, vI p3, vI p4, vI (1 : Int32), vR b10, vJ ((0 : Int64) + (p1.toInt64)), .second, vJ ((0 : Int64) + (p1.toInt64)), .second, vI (1 : Int32)] [(.int (1 : Int32)), (.int (1 : Int32))])) _
      refine XS.icmpYes X18.here hx rfl (pc0 := 119) (pc' := 133) rfl (hb hby at_119) rfl (flt (by decide : ¬ ((1 : Int32) < (1 : Int32)))).2.2.2 (by decide) (by decide) ?_
      show Steps p.tables e below (T18.setTop (mkF m 133 #[vI p0, vI p1, vI p2, vI p3, vI p4, vI (1 : Int32), vR b10, vJ ((0 : Int64) + (p1.toInt64)), .second, vJ ((0 : Int64) + (p1.toInt64)), .second, vI (1 : Int32)] [])) _
      refine XS.iload X18.here hx rfl (hb hby at_133) rfl ?_
      show Steps p.tables e below (T18.setTop (mkF m 135 #[vI p0, vI p1, vI p2, vI p3, vI p4, vI (1 : Int32), vR b10, vJ ((0 : Int64) + (p1.toInt64)), .second, vJ ((0 : Int64) + (p1.toInt64)), .second, vI (1 : Int32)] [(.int (1 : Int32))])) _
      refine XS.iconst X18.here hx rfl (hb hby at_135) ?_
      show Steps p.tables e below (T18.setTop (mkF m 136 #[vI p0, vI p1, vI p2, vI p3, vI p4, vI (1 : Int32), vR b10, vJ ((0 : Int64) + (p1.toInt64)), .second, vJ ((0 : Int64) + (p1.toInt64)), .second, vI (1 : Int32)] [(.int (2 : Int32)), (.int (1 : Int32))])) _
      refine XS.icmpYes X18.here hx rfl (pc0 := 136) (pc' := 150) rfl (hb hby at_136) rfl (flt (by decide : ¬ ((2 : Int32) < (1 : Int32)))).2.2.2 (by decide) (by decide) ?_
      show Steps p.tables e below (T18.setTop (mkF m 150 #[vI p0, vI p1, vI p2, vI p3, vI p4, vI (1 : Int32), vR b10, vJ ((0 : Int64) + (p1.toInt64)), .second, vJ ((0 : Int64) + (p1.toInt64)), .second, vI (1 : Int32)] [])) _
      refine XS.iload X18.here hx rfl (hb hby at_150) rfl ?_
      show Steps p.tables e below (T18.setTop (mkF m 152 #[vI p0, vI p1, vI p2, vI p3, vI p4, vI (1 : Int32), vR b10, vJ ((0 : Int64) + (p1.toInt64)), .second, vJ ((0 : Int64) + (p1.toInt64)), .second, vI (1 : Int32)] [(.int (1 : Int32))])) _
      refine XS.iconst X18.here hx rfl (hb hby at_152) ?_
      show Steps p.tables e below (T18.setTop (mkF m 153 #[vI p0, vI p1, vI p2, vI p3, vI p4, vI (1 : Int32), vR b10, vJ ((0 : Int64) + (p1.toInt64)), .second, vJ ((0 : Int64) + (p1.toInt64)), .second, vI (1 : Int32)] [(.int (3 : Int32)), (.int (1 : Int32))])) _
      refine XS.icmpYes X18.here hx rfl (pc0 := 153) (pc' := 168) rfl (hb hby at_153) rfl (flt (by decide : ¬ ((3 : Int32) < (1 : Int32)))).2.2.2 (by decide) (by decide) ?_
      show Steps p.tables e below (T18.setTop (mkF m 168 #[vI p0, vI p1, vI p2, vI p3, vI p4, vI (1 : Int32), vR b10, vJ ((0 : Int64) + (p1.toInt64)), .second, vJ ((0 : Int64) + (p1.toInt64)), .second, vI (1 : Int32)] [])) _
      refine XS.lload X18.here hx rfl (hb hby at_168) rfl ?_
      show Steps p.tables e below (T18.setTop (mkF m 170 #[vI p0, vI p1, vI p2, vI p3, vI p4, vI (1 : Int32), vR b10, vJ ((0 : Int64) + (p1.toInt64)), .second, vJ ((0 : Int64) + (p1.toInt64)), .second, vI (1 : Int32)] [(.long ((0 : Int64) + (p1.toInt64)))])) _
      refine XS.lload X18.here hx rfl (hb hby at_170) rfl ?_
      show Steps p.tables e below (T18.setTop (mkF m 172 #[vI p0, vI p1, vI p2, vI p3, vI p4, vI (1 : Int32), vR b10, vJ ((0 : Int64) + (p1.toInt64)), .second, vJ ((0 : Int64) + (p1.toInt64)), .second, vI (1 : Int32)] [(.long ((0 : Int64) + (p1.toInt64))), (.long ((0 : Int64) + (p1.toInt64)))])) _
      refine XS.lcmp X18.here hx rfl (hb hby at_172) rfl ?_
      show Steps p.tables e below (T18.setTop (mkF m 173 #[vI p0, vI p1, vI p2, vI p3, vI p4, vI (1 : Int32), vR b10, vJ ((0 : Int64) + (p1.toInt64)), .second, vJ ((0 : Int64) + (p1.toInt64)), .second, vI (1 : Int32)] [(.int (lcmpW ((0 : Int64) + (p1.toInt64)) ((0 : Int64) + (p1.toInt64))))])) _
      refine XS.ifNo X18.here hx rfl (hb hby at_173) rfl ((if0 _ _).trans (teq ((lw_eq _ _).mpr (rfl : ((0 : Int64) + (p1.toInt64)) = ((0 : Int64) + (p1.toInt64))))).2) ?_
      show Steps p.tables e below (T18.setTop (mkF m 176 #[vI p0, vI p1, vI p2, vI p3, vI p4, vI (1 : Int32), vR b10, vJ ((0 : Int64) + (p1.toInt64)), .second, vJ ((0 : Int64) + (p1.toInt64)), .second, vI (1 : Int32)] [])) _
      refine XS.iload X18.here hx rfl (hb hby at_176) rfl ?_
      show Steps p.tables e below (T18.setTop (mkF m 178 #[vI p0, vI p1, vI p2, vI p3, vI p4, vI (1 : Int32), vR b10, vJ ((0 : Int64) + (p1.toInt64)), .second, vJ ((0 : Int64) + (p1.toInt64)), .second, vI (1 : Int32)] [(.int (1 : Int32))])) _
      refine XS.ifNo X18.here hx rfl (hb hby at_178) rfl ((if0 _ _).trans (feq (by decide : ¬ ((1 : Int32) = (0 : Int32)))).1) ?_
      show Steps p.tables e below (T18.setTop (mkF m 181 #[vI p0, vI p1, vI p2, vI p3, vI p4, vI (1 : Int32), vR b10, vJ ((0 : Int64) + (p1.toInt64)), .second, vJ ((0 : Int64) + (p1.toInt64)), .second, vI (1 : Int32)] [])) _
      refine XS.iconst X18.here hx rfl (hb hby at_181) ?_
      show Steps p.tables e below (T18.setTop (mkF m 182 #[vI p0, vI p1, vI p2, vI p3, vI p4, vI (1 : Int32), vR b10, vJ ((0 : Int64) + (p1.toInt64)), .second, vJ ((0 : Int64) + (p1.toInt64)), .second, vI (1 : Int32)] [(.int (1 : Int32))])) _
      refine XS.goto X18.here hx rfl (pc0 := 182) (pc' := 186) rfl (hb hby at_182) (by decide) (by decide) ?_
      show Steps p.tables e below (T18.setTop (mkF m 186 #[vI p0, vI p1, vI p2, vI p3, vI p4, vI (1 : Int32), vR b10, vJ ((0 : Int64) + (p1.toInt64)), .second, vJ ((0 : Int64) + (p1.toInt64)), .second, vI (1 : Int32)] [(.int (1 : Int32))])) _
      exact k)
    obtain ⟨fs, hr, hrun, hended, hW, hsame⟩ := X18.leave (v := some (.int (1 : Int32))) (fun h => by rw [Bd.returns] at h; cases h)
    exact ⟨_, _, pre21.fin hS0 (retN X18 hx (t := .boolean) Bd.returns (by simp) (hb hby at_186) hr), hrun, hended, _, _, rfl, (by
      show Q0 Z p0 p1 p2 p3 p4 h0 n0 _ T18.heap _
      rw [eq18]
      exact ⟨rfl, N18⟩), ⟨_, rfl⟩, hW, hsame.mono (by decide) (by decide)⟩
  · skip
    have pre22 : Go p.tables e below S0 s₁ (mkF m 10 #[vI p0, vI p1, vI p2, vI p3, vI p4, vI (2 : Int32), .unset, .unset, .unset, .unset, .unset, .unset] [(.int (2 : Int32))]) := fun t k => pre1 t (by
      refine XS.iload X0.here hx rfl (hb hby at_8) rfl ?_
      show Steps p.tables e below (s₁.setTop (mkF m 10 #[vI p0, vI p1, vI p2, vI p3, vI p4, vI (2 : Int32), .unset, .unset, .unset, .unset, .unset, .unset] [(.int (2 : Int32))])) _
      exact k)
    obtain ⟨T23, h23, k23, X23, e23, E23, A23, st23⟩ := newP X0 hx hZ (hw _ (List.mem_of_getElem? (i := 1) rfl)) e0 (g := (mkF m 10 #[vI p0, vI p1, vI p2, vI p3, vI p4, vI (2 : Int32), .unset, .unset, .unset, .unset, .unset, .unset] [(.int (2 : Int32))])) rfl (hb hby at_10) rfl (by decide) (cap := 2) (by decide) (by decide) (by decide) (by decide)
    obtain ⟨b23, g23⟩ : ∃ z, z = h0.size := ⟨_, rfl⟩
    rw [← g23] at A23 st23
    have pre23 : Go p.tables e below S0 T23 (mkF m 12 #[vI p0, vI p1, vI p2, vI p3, vI p4, vI (2 : Int32), .unset, .unset, .unset, .unset, .unset, .unset] [(.ref b23)]) := fun t k => pre22 t (st23 t k)
    have bo23 : n0 ≤ b23 := Nat.le_trans Z0 (Nat.le_of_eq g23.symm)
    have zz25 : n0 ≤ h23.size := Nat.le_trans Z0 E23.1
    have av23 : Arv Z h23 b23 k23 .int (2 : Int32) [(.int (0 : Int32)), (.int (0 : Int32))] (.int (0 : Int32)) := (Arv.new A23 (by decide)).pad (pad_rep [] (.int (0 : Int32)) 2)
    have pre26 : Go p.tables e below S0 T23 (mkF m 26 #[vI p0, vI p1, vI p2, vI p3, vI p4, vI (2 : Int32), vR b23, vJ (0 : Int64), .second, .unset, .unset, .unset] [(.int p1), (.int (0 : Int32)), (.ref b23)]) := fun t k => pre23 t (by
      refine XS.astore X23.here hx rfl (hb hby at_12) rfl rfl (l' := #[vI p0, vI p1, vI p2, vI p3, vI p4, vI (2 : Int32), vR b23, .unset, .unset, .unset, .unset, .unset]) rfl ?_
      show Steps p.tables e below (T23.setTop (mkF m 14 #[vI p0, vI p1, vI p2, vI p3, vI p4, vI (2 : Int32), vR b23, .unset, .unset, .unset, .unset, .unset] [])) _
      refine XS.lconst X23.here hx rfl (hb hby at_14) ?_
      show Steps p.tables e below (T23.setTop (mkF m 15 #[vI p0, vI p1, vI p2, vI p3, vI p4, vI (2 : Int32), vR b23, .unset, .unset, .unset, .unset, .unset] [(.long (0 : Int64))])) _
      refine XS.lstore X23.here hx rfl (hb hby at_15) rfl (l' := #[vI p0, vI p1, vI p2, vI p3, vI p4, vI (2 : Int32), vR b23, vJ (0 : Int64), .second, .unset, .unset, .unset]) rfl ?_
      show Steps p.tables e below (T23.setTop (mkF m 17 #[vI p0, vI p1, vI p2, vI p3, vI p4, vI (2 : Int32), vR b23, vJ (0 : Int64), .second, .unset, .unset, .unset] [])) _
      refine XS.iload X23.here hx rfl (hb hby at_17) rfl ?_
      show Steps p.tables e below (T23.setTop (mkF m 19 #[vI p0, vI p1, vI p2, vI p3, vI p4, vI (2 : Int32), vR b23, vJ (0 : Int64), .second, .unset, .unset, .unset] [(.int (2 : Int32))])) _
      refine XS.ifNo X23.here hx rfl (hb hby at_19) rfl ((if0 _ _).trans (tlt (by decide : (0 : Int32) < (2 : Int32))).2.2.2) ?_
      show Steps p.tables e below (T23.setTop (mkF m 22 #[vI p0, vI p1, vI p2, vI p3, vI p4, vI (2 : Int32), vR b23, vJ (0 : Int64), .second, .unset, .unset, .unset] [])) _
      refine XS.aload X23.here hx rfl (hb hby at_22) rfl rfl ?_
      show Steps p.tables e below (T23.setTop (mkF m 24 #[vI p0, vI p1, vI p2, vI p3, vI p4, vI (2 : Int32), vR b23, vJ (0 : Int64), .second, .unset, .unset, .unset] [(.ref b23)])) _
      refine XS.iconst X23.here hx rfl (hb hby at_24) ?_
      show Steps p.tables e below (T23.setTop (mkF m 25 #[vI p0, vI p1, vI p2, vI p3, vI p4, vI (2 : Int32), vR b23, vJ (0 : Int64), .second, .unset, .unset, .unset] [(.int (0 : Int32)), (.ref b23)])) _
      refine XS.iloadN X23.here hx rfl (hb hby at_25) rfl ?_
      show Steps p.tables e below (T23.setTop (mkF m 26 #[vI p0, vI p1, vI p2, vI p3, vI p4, vI (2 : Int32), vR b23, vJ (0 : Int64), .second, .unset, .unset, .unset] [(.int p1), (.int (0 : Int32)), (.ref b23)])) _
      exact k)
    obtain ⟨cl27, Ar27, q27, S27, M27, H27, G27⟩ := id av23
    have in27 : ¬ ((0 : Int32) < 0 ∨ cl27.slots.size ≤ ((0 : Int32)).toNatClampNeg) := inb_of S27 ⟨by decide, by decide⟩
    obtain ⟨T27, h27, X27, e27, W27, st27⟩ := stI X23 hx hZ e23 Ar27 (j := (0 : Int32)) in27 (g := (mkF m 26 #[vI p0, vI p1, vI p2, vI p3, vI p4, vI (2 : Int32), vR b23, vJ (0 : Int64), .second, .unset, .unset, .unset] [(.int p1), (.int (0 : Int32)), (.ref b23)])) rfl rfl (hb hby at_26)
    have pre27 : Go p.tables e below S0 T27 (mkF m 27 #[vI p0, vI p1, vI p2, vI p3, vI p4, vI (2 : Int32), vR b23, vJ (0 : Int64), .second, .unset, .unset, .unset] []) := fun t k => pre26 t (st27 t k)
    have N27 := Fr.snoc X27 N0 bo23
    have av27 : Arv Z h27 b23 k23 .int (2 : Int32) [(.int p1), (.int (0 : Int32))] (.int (0 : Int32)) := Arv.set Ar27 q27 S27 M27 H27 G27 rfl W27 0 rfl (Nat.le_of_ble_eq_true rfl)
    have zz29 : n0 ≤ h27.size := Nat.le_trans zz25 (Keep.of_wr W27).1
    have pre30 : Go p.tables e below S0 T27 (mkF m 44 #[vI p0, vI p1, vI p2, vI p3, vI p4, vI (2 : Int32), vR b23, vJ ((0 : Int64) + (p1.toInt64)), .second, .unset, .unset, .unset] [(.int p2), (.int (1 : Int32)), (.ref b23)]) := fun t k => pre27 t (by
      refine XS.lload X27.here hx rfl (hb hby at_27) rfl ?_
      show Steps p.tables e below (T27.setTop (mkF m 29 #[vI p0, vI p1, vI p2, vI p3, vI p4, vI (2 : Int32), vR b23, vJ (0 : Int64), .second, .unset, .unset, .unset] [(.long (0 : Int64))])) _
      refine XS.iloadN X27.here hx rfl (hb hby at_29) rfl ?_
      show Steps p.tables e below (T27.setTop (mkF m 30 #[vI p0, vI p1, vI p2, vI p3, vI p4, vI (2 : Int32), vR b23, vJ (0 : Int64), .second, .unset, .unset, .unset] [(.int p1), (.long (0 : Int64))])) _
      refine XS.i2l X27.here hx rfl (hb hby at_30) rfl ?_
      show Steps p.tables e below (T27.setTop (mkF m 31 #[vI p0, vI p1, vI p2, vI p3, vI p4, vI (2 : Int32), vR b23, vJ (0 : Int64), .second, .unset, .unset, .unset] [(.long (p1.toInt64)), (.long (0 : Int64))])) _
      refine XS.ladd X27.here hx rfl (hb hby at_31) rfl ?_
      show Steps p.tables e below (T27.setTop (mkF m 32 #[vI p0, vI p1, vI p2, vI p3, vI p4, vI (2 : Int32), vR b23, vJ (0 : Int64), .second, .unset, .unset, .unset] [(.long ((0 : Int64) + (p1.toInt64)))])) _
      refine XS.lstore X27.here hx rfl (hb hby at_32) rfl (l' := #[vI p0, vI p1, vI p2, vI p3, vI p4, vI (2 : Int32), vR b23, vJ ((0 : Int64) + (p1.toInt64)), .second, .unset, .unset, .unset]) rfl ?_
      show Steps p.tables e below (T27.setTop (mkF m 34 #[vI p0, vI p1, vI p2, vI p3, vI p4, vI (2 : Int32), vR b23, vJ ((0 : Int64) + (p1.toInt64)), .second, .unset, .unset, .unset] [])) _
      refine XS.iload X27.here hx rfl (hb hby at_34) rfl ?_
      show Steps p.tables e below (T27.setTop (mkF m 36 #[vI p0, vI p1, vI p2, vI p3, vI p4, vI (2 : Int32), vR b23, vJ ((0 : Int64) + (p1.toInt64)), .second, .unset, .unset, .unset] [(.int (2 : Int32))])) _
      refine XS.iconst X27.here hx rfl (hb hby at_36) ?_
      show Steps p.tables e below (T27.setTop (mkF m 37 #[vI p0, vI p1, vI p2, vI p3, vI p4, vI (2 : Int32), vR b23, vJ ((0 : Int64) + (p1.toInt64)), .second, .unset, .unset, .unset] [(.int (1 : Int32)), (.int (2 : Int32))])) _
      refine XS.icmpNo X27.here hx rfl (hb hby at_37) rfl (tlt (by decide : (1 : Int32) < (2 : Int32))).2.2.2 ?_
      show Steps p.tables e below (T27.setTop (mkF m 40 #[vI p0, vI p1, vI p2, vI p3, vI p4, vI (2 : Int32), vR b23, vJ ((0 : Int64) + (p1.toInt64)), .second, .unset, .unset, .unset] [])) _
      refine XS.aload X27.here hx rfl (hb hby at_40) rfl rfl ?_
      show Steps p.tables e below (T27.setTop (mkF m 42 #[vI p0, vI p1, vI p2, vI p3, vI p4, vI (2 : Int32), vR b23, vJ ((0 : Int64) + (p1.toInt64)), .second, .unset, .unset, .unset] [(.ref b23)])) _
      refine XS.iconst X27.here hx rfl (hb hby at_42) ?_
      show Steps p.tables e below (T27.setTop (mkF m 43 #[vI p0, vI p1, vI p2, vI p3, vI p4, vI (2 : Int32), vR b23, vJ ((0 : Int64) + (p1.toInt64)), .second, .unset, .unset, .unset] [(.int (1 : Int32)), (.ref b23)])) _
      refine XS.iloadN X27.here hx rfl (hb hby at_43) rfl ?_
      show Steps p.tables e below (T27.setTop (mkF m 44 #[vI p0, vI p1, vI p2, vI p3, vI p4, vI (2 : Int32), vR b23, vJ ((0 : Int64) + (p1.toInt64)), .second, .unset, .unset, .unset] [(.int p2), (.int (1 : Int32)), (.ref b23)])) _
      exact k)
    obtain ⟨cl31, Ar31, q31, S31, M31, H31, G31⟩ := id av27
    have in31 : ¬ ((1 : Int32) < 0 ∨ cl31.slots.size ≤ ((1 : Int32)).toNatClampNeg) := inb_of S31 ⟨by decide, by decide⟩
    obtain ⟨T31, h31, X31, e31, W31, st31⟩ := stI X27 hx hZ e27 Ar31 (j := (1 : Int32)) in31 (g := (mkF m 44 #[vI p0, vI p1, vI p2, vI p3, vI p4, vI (2 : Int32), vR b23, vJ ((0 : Int64) + (p1.toInt64)), .second, .unset, .unset, .unset] [(.int p2), (.int (1 : Int32)), (.ref b23)])) rfl rfl (hb hby at_44)
    have pre31 : Go p.tables e below S0 T31 (mkF m 45 #[vI p0, vI p1, vI p2, vI p3, vI p4, vI (2 : Int32), vR b23, vJ ((0 : Int64) + (p1.toInt64)), .second, .unset, .unset, .unset] []) := fun t k => pre30 t (st31 t k)
    have N31 := Fr.snoc X31 N27 bo23
    have av31 : Arv Z h31 b23 k23 .int (2 : Int32) [(.int p1), (.int p2)] (.int (0 : Int32)) := Arv.set Ar31 q31 S31 M31 H31 G31 rfl W31 1 rfl (Nat.le_of_ble_eq_true rfl)
    have zz33 : n0 ≤ h31.size := Nat.le_trans zz29 (Keep.of_wr W31).1
    have pre34 : Go p.tables e below S0 T31 (mkF m 92 #[vI p0, vI p1, vI p2, vI p3, vI p4, vI (2 : Int32), vR b23, vJ (((0 : Int64) + (p1.toInt64)) + (p2.toInt64)), .second, .unset, .unset, .unset] [(.ref b23)]) := fun t k => pre31 t (by
      refine XS.lload X31.here hx rfl (hb hby at_45) rfl ?_
      show Steps p.tables e below (T31.setTop (mkF m 47 #[vI p0, vI p1, vI p2, vI p3, vI p4, vI (2 : Int32), vR b23, vJ ((0 : Int64) + (p1.toInt64)), .second, .unset, .unset, .unset] [(.long ((0 : Int64) + (p1.toInt64)))])) _
      refine XS.iloadN X31.here hx rfl (hb hby at_47) rfl ?_
      show Steps p.tables e below (T31.setTop (mkF m 48 #[vI p0, vI p1, vI p2, vI p3, vI p4, vI (2 : Int32), vR b23, vJ ((0 : Int64) + (p1.toInt64)), .second, .unset, .unset, .unset] [(.int p2), (.long ((0 : Int64) + (p1.toInt64)))])) _
      refine XS.i2l X31.here hx rfl (hb hby at_48) rfl ?_
      show Steps p.tables e below (T31.setTop (mkF m 49 #[vI p0, vI p1, vI p2, vI p3, vI p4, vI (2 : Int32), vR b23, vJ ((0 : Int64) + (p1.toInt64)), .second, .unset, .unset, .unset] [(.long (p2.toInt64)), (.long ((0 : Int64) + (p1.toInt64)))])) _
      refine XS.ladd X31.here hx rfl (hb hby at_49) rfl ?_
      show Steps p.tables e below (T31.setTop (mkF m 50 #[vI p0, vI p1, vI p2, vI p3, vI p4, vI (2 : Int32), vR b23, vJ ((0 : Int64) + (p1.toInt64)), .second, .unset, .unset, .unset] [(.long (((0 : Int64) + (p1.toInt64)) + (p2.toInt64)))])) _
      refine XS.lstore X31.here hx rfl (hb hby at_50) rfl (l' := #[vI p0, vI p1, vI p2, vI p3, vI p4, vI (2 : Int32), vR b23, vJ (((0 : Int64) + (p1.toInt64)) + (p2.toInt64)), .second, .unset, .unset, .unset]) rfl ?_
      show Steps p.tables e below (T31.setTop (mkF m 52 #[vI p0, vI p1, vI p2, vI p3, vI p4, vI (2 : Int32), vR b23, vJ (((0 : Int64) + (p1.toInt64)) + (p2.toInt64)), .second, .unset, .unset, .unset] [])) _
      refine XS.iload X31.here hx rfl (hb hby at_52) rfl ?_
      show Steps p.tables e below (T31.setTop (mkF m 54 #[vI p0, vI p1, vI p2, vI p3, vI p4, vI (2 : Int32), vR b23, vJ (((0 : Int64) + (p1.toInt64)) + (p2.toInt64)), .second, .unset, .unset, .unset] [(.int (2 : Int32))])) _
      refine XS.iconst X31.here hx rfl (hb hby at_54) ?_
      show Steps p.tables e below (T31.setTop (mkF m 55 #[vI p0, vI p1, vI p2, vI p3, vI p4, vI (2 : Int32), vR b23, vJ (((0 : Int64) + (p1.toInt64)) + (p2.toInt64)), .second, .unset, .unset, .unset] [(.int (2 : Int32)), (.int (2 : Int32))])) _
      refine XS.icmpYes X31.here hx rfl (pc0 := 55) (pc' := 70) rfl (hb hby at_55) rfl (flt (by decide : ¬ ((2 : Int32) < (2 : Int32)))).2.2.2 (by decide) (by decide) ?_
      show Steps p.tables e below (T31.setTop (mkF m 70 #[vI p0, vI p1, vI p2, vI p3, vI p4, vI (2 : Int32), vR b23, vJ (((0 : Int64) + (p1.toInt64)) + (p2.toInt64)), .second, .unset, .unset, .unset] [])) _
      refine XS.iload X31.here hx rfl (hb hby at_70) rfl ?_
      show Steps p.tables e below (T31.setTop (mkF m 72 #[vI p0, vI p1, vI p2, vI p3, vI p4, vI (2 : Int32), vR b23, vJ (((0 : Int64) + (p1.toInt64)) + (p2.toInt64)), .second, .unset, .unset, .unset] [(.int (2 : Int32))])) _
      refine XS.iconst X31.here hx rfl (hb hby at_72) ?_
      show Steps p.tables e below (T31.setTop (mkF m 73 #[vI p0, vI p1, vI p2, vI p3, vI p4, vI (2 : Int32), vR b23, vJ (((0 : Int64) + (p1.toInt64)) + (p2.toInt64)), .second, .unset, .unset, .unset] [(.int (3 : Int32)), (.int (2 : Int32))])) _
      refine XS.icmpYes X31.here hx rfl (pc0 := 73) (pc' := 90) rfl (hb hby at_73) rfl (flt (by decide : ¬ ((3 : Int32) < (2 : Int32)))).2.2.2 (by decide) (by decide) ?_
      show Steps p.tables e below (T31.setTop (mkF m 90 #[vI p0, vI p1, vI p2, vI p3, vI p4, vI (2 : Int32), vR b23, vJ (((0 : Int64) + (p1.toInt64)) + (p2.toInt64)), .second, .unset, .unset, .unset] [])) _
      refine XS.aload X31.here hx rfl (hb hby at_90) rfl rfl ?_
      show Steps p.tables e below (T31.setTop (mkF m 92 #[vI p0, vI p1, vI p2, vI p3, vI p4, vI (2 : Int32), vR b23, vJ (((0 : Int64) + (p1.toInt64)) + (p2.toInt64)), .second, .unset, .unset, .unset] [(.ref b23)])) _
      exact k)
    obtain ⟨_, _, ⟨T35, L35, k35, n35⟩, -, X35, ⟨Lc35, hQ35, l35, y35, z35⟩, st35⟩ := Jvm.LawKit.callS X31 hx (y := (⟨"com/example/motiflow/motiflow/Tally", "explained", "([I)J"⟩ : MethodName)) hown (mvT hZ (hw _ (List.mem_of_getElem? (i := 2) rfl))) (mvT hZ (hw _ (List.mem_of_getElem? (i := 3) rfl))) (mvT hZ (hw _ (List.mem_of_getElem? (i := 4) rfl))) (mvT hZ (hw _ (List.mem_of_getElem? (i := 5) rfl))) (by decide) (backOf (W := 0) (rm1_2 l Z A0 hw [] b23 k23 p1 p2 h31 n0 zz33 av31) hZ (hw _ (List.mem_of_getElem? (i := 5) rfl)) (hw _ (List.mem_of_getElem? (i := 4) rfl)) (by decide) (by decide)) (g := (mkF m 92 #[vI p0, vI p1, vI p2, vI p3, vI p4, vI (2 : Int32), vR b23, vJ (((0 : Int64) + (p1.toInt64)) + (p2.toInt64)), .second, .unset, .unset, .unset] [(.ref b23)])) rfl (by rw [hml]; rfl) (argsL := [(.ref b23)]) (rest := []) (lenOf pd_0 rfl) rfl (by show 2 * 0 + _ ≤ _; exact Nat.le_of_eq rfl) (hb hby at_92) (fun _ _ => ⟨rfl, e31, (by decide : 1 + 0 ≤ _), (by decide : 2 + 0 ≤ _)⟩)
    dsimp only [Pt.U, Pt.locs, Pt.cells, Pt.slots] at X35 l35 y35 z35 st35 hQ35
    subst l35 y35 z35
    obtain ⟨rfl, Nq35, eq35⟩ := hQ35
    have N35 := Fr.app N31 Nq35
    have pre35 : Go p.tables e below S0 T35 (mkF m 95 #[vI p0, vI p1, vI p2, vI p3, vI p4, vI (2 : Int32), vR b23, vJ (((0 : Int64) + (p1.toInt64)) + (p2.toInt64)), .second, .unset, .unset, .unset] [(.long (((0 : Int64) + (p1.toInt64)) + (p2.toInt64)))]) := fun t k => pre34 t (st35 t k)
    have pre36 : Go p.tables e below S0 T35 (mkF m 108 #[vI p0, vI p1, vI p2, vI p3, vI p4, vI (2 : Int32), vR b23, vJ (((0 : Int64) + (p1.toInt64)) + (p2.toInt64)), .second, vJ (((0 : Int64) + (p1.toInt64)) + (p2.toInt64)), .second, vI (1 : Int32)] [(.int (0 : Int32)), (.ref b23)]) := fun t k => pre35 t (by
      refine XS.lstore X35.here hx rfl (hb hby at_95) rfl (l' := #[vI p0, vI p1, vI p2, vI p3, vI p4, vI (2 : Int32), vR b23, vJ (((0 : Int64) + (p1.toInt64)) + (p2.toInt64)), .second, vJ (((0 : Int64) + (p1.toInt64)) + (p2.toInt64)), .second, .unset]) rfl ?_
      show Steps p.tables e below (T35.setTop (mkF m 97 #[vI p0, vI p1, vI p2, vI p3, vI p4, vI (2 : Int32), vR b23, vJ (((0 : Int64) + (p1.toInt64)) + (p2.toInt64)), .second, vJ (((0 : Int64) + (p1.toInt64)) + (p2.toInt64)), .second, .unset] [])) _
      refine XS.iconst X35.here hx rfl (hb hby at_97) ?_
      show Steps p.tables e below (T35.setTop (mkF m 98 #[vI p0, vI p1, vI p2, vI p3, vI p4, vI (2 : Int32), vR b23, vJ (((0 : Int64) + (p1.toInt64)) + (p2.toInt64)), .second, vJ (((0 : Int64) + (p1.toInt64)) + (p2.toInt64)), .second, .unset] [(.int (1 : Int32))])) _
      refine XS.istore X35.here hx rfl (hb hby at_98) rfl (l' := #[vI p0, vI p1, vI p2, vI p3, vI p4, vI (2 : Int32), vR b23, vJ (((0 : Int64) + (p1.toInt64)) + (p2.toInt64)), .second, vJ (((0 : Int64) + (p1.toInt64)) + (p2.toInt64)), .second, vI (1 : Int32)]) rfl ?_
      show Steps p.tables e below (T35.setTop (mkF m 100 #[vI p0, vI p1, vI p2, vI p3, vI p4, vI (2 : Int32), vR b23, vJ (((0 : Int64) + (p1.toInt64)) + (p2.toInt64)), .second, vJ (((0 : Int64) + (p1.toInt64)) + (p2.toInt64)), .second, vI (1 : Int32)] [])) _
      refine XS.iload X35.here hx rfl (hb hby at_100) rfl ?_
      show Steps p.tables e below (T35.setTop (mkF m 102 #[vI p0, vI p1, vI p2, vI p3, vI p4, vI (2 : Int32), vR b23, vJ (((0 : Int64) + (p1.toInt64)) + (p2.toInt64)), .second, vJ (((0 : Int64) + (p1.toInt64)) + (p2.toInt64)), .second, vI (1 : Int32)] [(.int (2 : Int32))])) _
      refine XS.ifNo X35.here hx rfl (hb hby at_102) rfl ((if0 _ _).trans (tlt (by decide : (0 : Int32) < (2 : Int32))).2.2.2) ?_
      show Steps p.tables e below (T35.setTop (mkF m 105 #[vI p0, vI p1, vI p2, vI p3, vI p4, vI (2 : Int32), vR b23, vJ (((0 : Int64) + (p1.toInt64)) + (p2.toInt64)), .second, vJ (((0 : Int64) + (p1.toInt64)) + (p2.toInt64)), .second, vI (1 : Int32)] [])) _
      refine XS.aload X35.here hx rfl (hb hby at_105) rfl rfl ?_
      show Steps p.tables e below (T35.setTop (mkF m 107 #[vI p0, vI p1, vI p2, vI p3, vI p4, vI (2 : Int32), vR b23, vJ (((0 : Int64) + (p1.toInt64)) + (p2.toInt64)), .second, vJ (((0 : Int64) + (p1.toInt64)) + (p2.toInt64)), .second, vI (1 : Int32)] [(.ref b23)])) _
      refine XS.iconst X35.here hx rfl (hb hby at_107) ?_
      show Steps p.tables e below (T35.setTop (mkF m 108 #[vI p0, vI p1, vI p2, vI p3, vI p4, vI (2 : Int32), vR b23, vJ (((0 : Int64) + (p1.toInt64)) + (p2.toInt64)), .second, vJ (((0 : Int64) + (p1.toInt64)) + (p2.toInt64)), .second, vI (1 : Int32)] [(.int (0 : Int32)), (.ref b23)])) _
      exact k)
    obtain ⟨cl37, Ar37, q37, S37, M37, H37, G37⟩ := id av31
    have in37 : ¬ ((0 : Int32) < 0 ∨ cl37.slots.size ≤ ((0 : Int32)).toNatClampNeg) := inb_of S37 ⟨by decide, by decide⟩
    have at37 : cl37.slots[((0 : Int32)).toNatClampNeg]? = some (.int p1) := H37.at in37 rfl
    have pre38 : Go p.tables e below S0 T35 (mkF m 125 #[vI p0, vI p1, vI p2, vI p3, vI p4, vI (2 : Int32), vR b23, vJ (((0 : Int64) + (p1.toInt64)) + (p2.toInt64)), .second, vJ (((0 : Int64) + (p1.toInt64)) + (p2.toInt64)), .second, vI (1 : Int32)] [(.int (1 : Int32)), (.ref b23)]) := fun t k => pre36 t (by
      refine X35.iaload hx (j := (0 : Int32)) (v := (.int p1)) (by rw [eq35]; exact Ar37.1) (State.isArrayOf_alike hZ.alike Ar37.2.1) Ar37.2.2 in37 at37 (g := (mkF m 108 #[vI p0, vI p1, vI p2, vI p3, vI p4, vI (2 : Int32), vR b23, vJ (((0 : Int64) + (p1.toInt64)) + (p2.toInt64)), .second, vJ (((0 : Int64) + (p1.toInt64)) + (p2.toInt64)), .second, vI (1 : Int32)] [(.int (0 : Int32)), (.ref b23)])) rfl rfl (hb hby at_108) _ ?_
      show Steps p.tables e below (T35.setTop (mkF m 109 #[vI p0, vI p1, vI p2, vI p3, vI p4, vI (2 : Int32), vR b23, vJ (((0 : Int64) + (p1.toInt64)) + (p2.toInt64)), .second, vJ (((0 : Int64) + (p1.toInt64)) + (p2.toInt64)), .second, vI (1 : Int32)] [(.int p1)])) _
      refine XS.iloadN X35.here hx rfl (hb hby at_109) rfl ?_
      show Steps p.tables e below (T35.setTop (mkF m 110 #[vI p0, vI p1, vI p2, vI p3, vI p4, vI (2 : Int32), vR b23, vJ (((0 : Int64) + (p1.toInt64)) + (p2.toInt64)), .second, vJ (((0 : Int64) + (p1.toInt64)) + (p2.toInt64)), .second, vI (1 : Int32)] [(.int p1), (.int p1)])) _
      refine XS.icmpYes X35.here hx rfl (pc0 := 110) (pc' := 116) rfl (hb hby at_110) rfl (teq (rfl : p1 = p1)).1 (by decide) (by decide) ?_
      show Steps p.tables e below (T35.setTop (mkF m 116 #[vI p0, vI p1, vI p2, vI p3, vI p4, vI (2 : Int32), vR b23, vJ (((0 : Int64) + (p1.toInt64)) + (p2.toInt64)), .second, vJ (((0 : Int64) + (p1.toInt64)) + (p2.toInt64)), .second, vI (1 : Int32)] [])) _
      refine XS.iload X35.here hx rfl (hb hby at_116) rfl ?_
      show Steps p.tables e below (T35.setTop (mkF m 118 #[vI p0, vI p1, vI p2, vI p3, vI p4, vI (2 : Int32), vR b23, vJ (((0 : Int64) + (p1.toInt64)) + (p2.toInt64)), .second, vJ (((0 : Int64) + (p1.toInt64)) + (p2.toInt64)), .second, vI (1 : Int32)] [(.int (2 : Int32))])) _
      refine XS.iconst X35.here hx rfl (hb hby at_118) ?_
      show Steps p.tables e below (T35.setTop (mkF m 119 #[vI p0, vI p1, vI p2, vI p3, vI p4, vI (2 : Int32), vR b23, vJ (((0 : Int64) + (p1.toInt64)) + (p2.toInt64)), .second, vJ (((0 : Int64) + (p1.toInt64)) + (p2.toInt64)), .second, vI (1 : Int32)] [(.int (1 : Int32)), (.int (2 : Int32))])) _
      refine XS.icmpNo X35.here hx rfl (hb hby at_119) rfl (tlt (by decide : (1 : Int32) < (2 : Int32))).2.2.2 ?_
      show Steps p.tables e below (T35.setTop (mkF m 122 #[vI p0, vI p1, vI p2, vI p3, vI p4, vI (2 : Int32), vR b23, vJ (((0 : Int64) + (p1.toInt64)) + (p2.toInt64)), .second, vJ (((0 : Int64) + (p1.toInt64)) + (p2.toInt64)), .second, vI (1 : Int32)] [])) _
      refine XS.aload X35.here hx rfl (hb hby at_122) rfl rfl ?_
      show Steps p.tables e below (T35.setTop (mkF m 124 #[vI p0, vI p1, vI p2, vI p3, vI p4, vI (2 : Int32), vR b23, vJ (((0 : Int64) + (p1.toInt64)) + (p2.toInt64)), .second, vJ (((0 : Int64) + (p1.toInt64)) + (p2.toInt64)), .second, vI (1 : Int32)] [(.ref b23)])) _
      refine XS.iconst X35.here hx rfl (hb hby at_124) ?_
      show Steps p.tables e below (T35.setTop (mkF m 125 #[vI p0, vI p1, vI p2, vI p3, vI p4, vI (2 : Int32), vR b23, vJ (((0 : Int64) + (p1.toInt64)) + (p2.toInt64)), .second, vJ (((0 : Int64) + (p1.toInt64)) + (p2.toInt64)), .second, vI (1 : Int32)] [(.int (1 : Int32)), (.ref b23)])) _
      exact k)
    obtain ⟨cl39, Ar39, q39, S39, M39, H39, G39⟩ := id av31
    have in39 : ¬ ((1 : Int32) < 0 ∨ cl39.slots.size ≤ ((1 : Int32)).toNatClampNeg) := inb_of S39 ⟨by decide, by decide⟩
    have at39 : cl39.slots[((1 : Int32)).toNatClampNeg]? = some (.int p2) := H39.at in39 rfl
    have pre40 : Go p.tables e below S0 T35 (mkF m 186 #[vI p0, vI p1, vI p2, vI p3, vI p4, vI (2 : Int32), vR b23, vJ (((0 : Int64) + (p1.toInt64)) + (p2.toInt64)), .second, vJ (((0 : Int64) + (p1.toInt64)) + (p2.toInt64)), .second, vI (1 : Int32)] [(.int (1 : Int32))]) := fun t k => pre38 t (by
      refine X35.iaload hx (j := (1 : Int32)) (v := (.int p2)) (by rw [eq35]; exact Ar39.1) (State.isArrayOf_alike hZ.alike Ar39.2.1) Ar39.2.2 in39 at39 (g := (mkF m 125 #[vI p0, vI p1, vI p2, vI p3, vI p4, vI (2 : Int32), vR b23, vJ (((0 : Int64) + (p1.toInt64)) + (p2.toInt64)), .second, vJ (((0 : Int64) + (p1.toInt64)) + (p2.toInt64)), .second, vI (1 : Int32)] [(.int (1 : Int32)), (.ref b23)])) rfl rfl (hb hby at_125) _ ?_
      show Steps p.tables e below (T35.setTop (mkF m 126 #[vI p0, vI p1, vI p2, vI p3, vI p4, vI (2 : Int32), vR b23, vJ (((0 : Int64) + (p1.toInt64)) + (p2.toInt64)), .second, vJ (((0 : Int64) + (p1.toInt64)) + (p2.toInt64)), .second, vI (1 : Int32)] [(.int p2)])) _
      refine XS.iloadN X35.here hx rfl (hb hby at_126) rfl ?_
      show Steps p.tables e below (T35.setTop (mkF m 127 #[vI p0, vI p1, vI p2, vI p3, vI p4, vI (2 : Int32), vR b23, vJ (((0 : Int64) + (p1.toInt64)) + (p2.toInt64)), .second, vJ (((0 : Int64) + (p1.toInt64)) + (p2.toInt64)), .second, vI (1 : Int32)] [(.int p2), (.int p2)])) _
      refine XS.icmpYes X35.here hx rfl (pc0 := 127) (pc' := 133) rfl (hb hby at_127) rfl (teq (rfl : p2 = p2)).1 (by decide) (by decide) ?_
      show Steps p.tables e below (T35.setTop (mkF m 133 #[vI p0, vI p1, vI p2, vI p3, vI p4, vI (2 : Int32), vR b23, vJ (((0 : Int64) + (p1.toInt64)) + (p2.toInt64)), .second, vJ (((0 : Int64) + (p1.toInt64)) + (p2.toInt64)), .second, vI (1 : Int32)] [])) _
      refine XS.iload X35.here hx rfl (hb hby at_133) rfl ?_
      show Steps p.tables e below (T35.setTop (mkF m 135 #[vI p0, vI p1, vI p2, vI p3, vI p4, vI (2 : Int32), vR b23, vJ (((0 : Int64) + (p1.toInt64)) + (p2.toInt64)), .second, vJ (((0 : Int64) + (p1.toInt64)) + (p2.toInt64)), .second, vI (1 : Int32)] [(.int (2 : Int32))])) _
      refine XS.iconst X35.here hx rfl (hb hby at_135) ?_
      show Steps p.tables e below (T35.setTop (mkF m 136 #[vI p0, vI p1, vI p2, vI p3, vI p4, vI (2 : Int32), vR b23, vJ (((0 : Int64) + (p1.toInt64)) + (p2.toInt64)), .second, vJ (((0 : Int64) + (p1.toInt64)) + (p2.toInt64)), .second, vI (1 : Int32)] [(.int (2 : Int32)), (.int (2 : Int32))])) _
      refine XS.icmpYes X35.here hx rfl (pc0 := 136) (pc' := 150) rfl (hb hby at_136) rfl (flt (by decide : ¬ ((2 : Int32) < (2 : Int32)))).2.2.2 (by decide) (by decide) ?_
      show Steps p.tables e below (T35.setTop (mkF m 150 #[vI p0, vI p1, vI p2, vI p3, vI p4, vI (2 : Int32), vR b23, vJ (((0 : Int64) + (p1.toInt64)) + (p2.toInt64)), .second, vJ (((0 : Int64) + (p1.toInt64)) + (p2.toInt64)), .second, vI (1 : Int32)] [])) _
      refine XS.iload X35.here hx rfl (hb hby at_150) rfl ?_
      show Steps p.tables e below (T35.setTop (mkF m 152 #[vI p0, vI p1, vI p2, vI p3, vI p4, vI (2 : Int32), vR b23, vJ (((0 : Int64) + (p1.toInt64)) + (p2.toInt64)), .second, vJ (((0 : Int64) + (p1.toInt64)) + (p2.toInt64)), .second, vI (1 : Int32)] [(.int (2 : Int32))])) _
      refine XS.iconst X35.here hx rfl (hb hby at_152) ?_
      show Steps p.tables e below (T35.setTop (mkF m 153 #[vI p0, vI p1, vI p2, vI p3, vI p4, vI (2 : Int32), vR b23, vJ (((0 : Int64) + (p1.toInt64)) + (p2.toInt64)), .second, vJ (((0 : Int64) + (p1.toInt64)) + (p2.toInt64)), .second, vI (1 : Int32)] [(.int (3 : Int32)), (.int (2 : Int32))])) _
      refine XS.icmpYes X35.here hx rfl (pc0 := 153) (pc' := 168) rfl (hb hby at_153) rfl (flt (by decide : ¬ ((3 : Int32) < (2 : Int32)))).2.2.2 (by decide) (by decide) ?_
      show Steps p.tables e below (T35.setTop (mkF m 168 #[vI p0, vI p1, vI p2, vI p3, vI p4, vI (2 : Int32), vR b23, vJ (((0 : Int64) + (p1.toInt64)) + (p2.toInt64)), .second, vJ (((0 : Int64) + (p1.toInt64)) + (p2.toInt64)), .second, vI (1 : Int32)] [])) _
      refine XS.lload X35.here hx rfl (hb hby at_168) rfl ?_
      show Steps p.tables e below (T35.setTop (mkF m 170 #[vI p0, vI p1, vI p2, vI p3, vI p4, vI (2 : Int32), vR b23, vJ (((0 : Int64) + (p1.toInt64)) + (p2.toInt64)), .second, vJ (((0 : Int64) + (p1.toInt64)) + (p2.toInt64)), .second, vI (1 : Int32)] [(.long (((0 : Int64) + (p1.toInt64)) + (p2.toInt64)))])) _
      refine XS.lload X35.here hx rfl (hb hby at_170) rfl ?_
      show Steps p.tables e below (T35.setTop (mkF m 172 #[vI p0, vI p1, vI p2, vI p3, vI p4, vI (2 : Int32), vR b23, vJ (((0 : Int64) + (p1.toInt64)) + (p2.toInt64)), .second, vJ (((0 : Int64) + (p1.toInt64)) + (p2.toInt64)), .second, vI (1 : Int32)] [(.long (((0 : Int64) + (p1.toInt64)) + (p2.toInt64))), (.long (((0 : Int64) + (p1.toInt64)) + (p2.toInt64)))])) _
      refine XS.lcmp X35.here hx rfl (hb hby at_172) rfl ?_
      show Steps p.tables e below (T35.setTop (mkF m 173 #[vI p0, vI p1, vI p2, vI p3, vI p4, vI (2 : Int32), vR b23, vJ (((0 : Int64) + (p1.toInt64)) + (p2.toInt64)), .second, vJ (((0 : Int64) + (p1.toInt64)) + (p2.toInt64)), .second, vI (1 : Int32)] [(.int (lcmpW (((0 : Int64) + (p1.toInt64)) + (p2.toInt64)) (((0 : Int64) + (p1.toInt64)) + (p2.toInt64))))])) _
      refine XS.ifNo X35.here hx rfl (hb hby at_173) rfl ((if0 _ _).trans (teq ((lw_eq _ _).mpr (rfl : (((0 : Int64) + (p1.toInt64)) + (p2.toInt64)) = (((0 : Int64) + (p1.toInt64)) + (p2.toInt64))))).2) ?_
      show Steps p.tables e below (T35.setTop (mkF m 176 #[vI p0, vI p1, vI p2, vI p3, vI p4, vI (2 : Int32), vR b23, vJ (((0 : Int64) + (p1.toInt64)) + (p2.toInt64)), .second, vJ (((0 : Int64) + (p1.toInt64)) + (p2.toInt64)), .second, vI (1 : Int32)] [])) _
      refine XS.iload X35.here hx rfl (hb hby at_176) rfl ?_
      show Steps p.tables e below (T35.setTop (mkF m 178 #[vI p0, vI p1, vI p2, vI p3, vI p4, vI (2 : Int32), vR b23, vJ (((0 : Int64) + (p1.toInt64)) + (p2.toInt64)), .second, vJ (((0 : Int64) + (p1.toInt64)) + (p2.toInt64)), .second, vI (1 : Int32)] [(.int (1 : Int32))])) _
      refine XS.ifNo X35.here hx rfl (hb hby at_178) rfl ((if0 _ _).trans (feq (by decide : ¬ ((1 : Int32) = (0 : Int32)))).1) ?_
      show Steps p.tables e below (T35.setTop (mkF m 181 #[vI p0, vI p1, vI p2, vI p3, vI p4, vI (2 : Int32), vR b23, vJ (((0 : Int64) + (p1.toInt64)) + (p2.toInt64)), .second, vJ (((0 : Int64) + (p1.toInt64)) + (p2.toInt64)), .second, vI (1 : Int32)] [])) _
      refine XS.iconst X35.here hx rfl (hb hby at_181) ?_
      show Steps p.tables e below (T35.setTop (mkF m 182 #[vI p0, vI p1, vI p2, vI p3, vI p4, vI (2 : Int32), vR b23, vJ (((0 : Int64) + (p1.toInt64)) + (p2.toInt64)), .second, vJ (((0 : Int64) + (p1.toInt64)) + (p2.toInt64)), .second, vI (1 : Int32)] [(.int (1 : Int32))])) _
      refine XS.goto X35.here hx rfl (pc0 := 182) (pc' := 186) rfl (hb hby at_182) (by decide) (by decide) ?_
      show Steps p.tables e below (T35.setTop (mkF m 186 #[vI p0, vI p1, vI p2, vI p3, vI p4, vI (2 : Int32), vR b23, vJ (((0 : Int64) + (p1.toInt64)) + (p2.toInt64)), .second, vJ (((0 : Int64) + (p1.toInt64)) + (p2.toInt64)), .second, vI (1 : Int32)] [(.int (1 : Int32))])) _
      exact k)
    obtain ⟨fs, hr, hrun, hended, hW, hsame⟩ := X35.leave (v := some (.int (1 : Int32))) (fun h => by rw [Bd.returns] at h; cases h)
    exact ⟨_, _, pre40.fin hS0 (retN X35 hx (t := .boolean) Bd.returns (by simp) (hb hby at_186) hr), hrun, hended, _, _, rfl, (by
      show Q0 Z p0 p1 p2 p3 p4 h0 n0 _ T35.heap _
      rw [eq35]
      exact ⟨rfl, N35⟩), ⟨_, rfl⟩, hW, hsame.mono (by decide) (by decide)⟩
  · skip
    have pre41 : Go p.tables e below S0 s₁ (mkF m 10 #[vI p0, vI p1, vI p2, vI p3, vI p4, vI (3 : Int32), .unset, .unset, .unset, .unset, .unset, .unset] [(.int (3 : Int32))]) := fun t k => pre1 t (by
      refine XS.iload X0.here hx rfl (hb hby at_8) rfl ?_
      show Steps p.tables e below (s₁.setTop (mkF m 10 #[vI p0, vI p1, vI p2, vI p3, vI p4, vI (3 : Int32), .unset, .unset, .unset, .unset, .unset, .unset] [(.int (3 : Int32))])) _
      exact k)
    obtain ⟨T42, h42, k42, X42, e42, E42, A42, st42⟩ := newP X0 hx hZ (hw _ (List.mem_of_getElem? (i := 1) rfl)) e0 (g := (mkF m 10 #[vI p0, vI p1, vI p2, vI p3, vI p4, vI (3 : Int32), .unset, .unset, .unset, .unset, .unset, .unset] [(.int (3 : Int32))])) rfl (hb hby at_10) rfl (by decide) (cap := 3) (by decide) (by decide) (by decide) (by decide)
    obtain ⟨b42, g42⟩ : ∃ z, z = h0.size := ⟨_, rfl⟩
    rw [← g42] at A42 st42
    have pre42 : Go p.tables e below S0 T42 (mkF m 12 #[vI p0, vI p1, vI p2, vI p3, vI p4, vI (3 : Int32), .unset, .unset, .unset, .unset, .unset, .unset] [(.ref b42)]) := fun t k => pre41 t (st42 t k)
    have bo42 : n0 ≤ b42 := Nat.le_trans Z0 (Nat.le_of_eq g42.symm)
    have zz44 : n0 ≤ h42.size := Nat.le_trans Z0 E42.1
    have av42 : Arv Z h42 b42 k42 .int (3 : Int32) [(.int (0 : Int32)), (.int (0 : Int32)), (.int (0 : Int32))] (.int (0 : Int32)) := (Arv.new A42 (by decide)).pad (pad_rep [] (.int (0 : Int32)) 3)
    have pre45 : Go p.tables e below S0 T42 (mkF m 26 #[vI p0, vI p1, vI p2, vI p3, vI p4, vI (3 : Int32), vR b42, vJ (0 : Int64), .second, .unset, .unset, .unset] [(.int p1), (.int (0 : Int32)), (.ref b42)]) := fun t k => pre42 t (by
      refine XS.astore X42.here hx rfl (hb hby at_12) rfl rfl (l' := #[vI p0, vI p1, vI p2, vI p3, vI p4, vI (3 : Int32), vR b42, .unset, .unset, .unset, .unset, .unset]) rfl ?_
      show Steps p.tables e below (T42.setTop (mkF m 14 #[vI p0, vI p1, vI p2, vI p3, vI p4, vI (3 : Int32), vR b42, .unset, .unset, .unset, .unset, .unset] [])) _
      refine XS.lconst X42.here hx rfl (hb hby at_14) ?_
      show Steps p.tables e below (T42.setTop (mkF m 15 #[vI p0, vI p1, vI p2, vI p3, vI p4, vI (3 : Int32), vR b42, .unset, .unset, .unset, .unset, .unset] [(.long (0 : Int64))])) _
      refine XS.lstore X42.here hx rfl (hb hby at_15) rfl (l' := #[vI p0, vI p1, vI p2, vI p3, vI p4, vI (3 : Int32), vR b42, vJ (0 : Int64), .second, .unset, .unset, .unset]) rfl ?_
      show Steps p.tables e below (T42.setTop (mkF m 17 #[vI p0, vI p1, vI p2, vI p3, vI p4, vI (3 : Int32), vR b42, vJ (0 : Int64), .second, .unset, .unset, .unset] [])) _
      refine XS.iload X42.here hx rfl (hb hby at_17) rfl ?_
      show Steps p.tables e below (T42.setTop (mkF m 19 #[vI p0, vI p1, vI p2, vI p3, vI p4, vI (3 : Int32), vR b42, vJ (0 : Int64), .second, .unset, .unset, .unset] [(.int (3 : Int32))])) _
      refine XS.ifNo X42.here hx rfl (hb hby at_19) rfl ((if0 _ _).trans (tlt (by decide : (0 : Int32) < (3 : Int32))).2.2.2) ?_
      show Steps p.tables e below (T42.setTop (mkF m 22 #[vI p0, vI p1, vI p2, vI p3, vI p4, vI (3 : Int32), vR b42, vJ (0 : Int64), .second, .unset, .unset, .unset] [])) _
      refine XS.aload X42.here hx rfl (hb hby at_22) rfl rfl ?_
      show Steps p.tables e below (T42.setTop (mkF m 24 #[vI p0, vI p1, vI p2, vI p3, vI p4, vI (3 : Int32), vR b42, vJ (0 : Int64), .second, .unset, .unset, .unset] [(.ref b42)])) _
      refine XS.iconst X42.here hx rfl (hb hby at_24) ?_
      show Steps p.tables e below (T42.setTop (mkF m 25 #[vI p0, vI p1, vI p2, vI p3, vI p4, vI (3 : Int32), vR b42, vJ (0 : Int64), .second, .unset, .unset, .unset] [(.int (0 : Int32)), (.ref b42)])) _
      refine XS.iloadN X42.here hx rfl (hb hby at_25) rfl ?_
      show Steps p.tables e below (T42.setTop (mkF m 26 #[vI p0, vI p1, vI p2, vI p3, vI p4, vI (3 : Int32), vR b42, vJ (0 : Int64), .second, .unset, .unset, .unset] [(.int p1), (.int (0 : Int32)), (.ref b42)])) _
      exact k)
    obtain ⟨cl46, Ar46, q46, S46, M46, H46, G46⟩ := id av42
    have in46 : ¬ ((0 : Int32) < 0 ∨ cl46.slots.size ≤ ((0 : Int32)).toNatClampNeg) := inb_of S46 ⟨by decide, by decide⟩
    obtain ⟨T46, h46, X46, e46, W46, st46⟩ := stI X42 hx hZ e42 Ar46 (j := (0 : Int32)) in46 (g := (mkF m 26 #[vI p0, vI p1, vI p2, vI p3, vI p4, vI (3 : Int32), vR b42, vJ (0 : Int64), .second, .unset, .unset, .unset] [(.int p1), (.int (0 : Int32)), (.ref b42)])) rfl rfl (hb hby at_26)
    have pre46 : Go p.tables e below S0 T46 (mkF m 27 #[vI p0, vI p1, vI p2, vI p3, vI p4, vI (3 : Int32), vR b42, vJ (0 : Int64), .second, .unset, .unset, .unset] []) := fun t k => pre45 t (st46 t k)
    have N46 := Fr.snoc X46 N0 bo42
    have av46 : Arv Z h46 b42 k42 .int (3 : Int32) [(.int p1), (.int (0 : Int32)), (.int (0 : Int32))] (.int (0 : Int32)) := Arv.set Ar46 q46 S46 M46 H46 G46 rfl W46 0 rfl (Nat.le_of_ble_eq_true rfl)
    have zz48 : n0 ≤ h46.size := Nat.le_trans zz44 (Keep.of_wr W46).1
    have pre49 : Go p.tables e below S0 T46 (mkF m 44 #[vI p0, vI p1, vI p2, vI p3, vI p4, vI (3 : Int32), vR b42, vJ ((0 : Int64) + (p1.toInt64)), .second, .unset, .unset, .unset] [(.int p2), (.int (1 : Int32)), (.ref b42)]) := fun t k => pre46 t (by
      refine XS.lload X46.here hx rfl (hb hby at_27) rfl ?_
      show Steps p.tables e below (T46.setTop (mkF m 29 #[vI p0, vI p1, vI p2, vI p3, vI p4, vI (3 : Int32), vR b42, vJ (0 : Int64), .second, .unset, .unset, .unset] [(.long (0 : Int64))])) _
      refine XS.iloadN X46.here hx rfl (hb hby at_29) rfl ?_
      show Steps p.tables e below (T46.setTop (mkF m 30 #[vI p0, vI p1, vI p2, vI p3, vI p4, vI (3 : Int32), vR b42, vJ (0 : Int64), .second, .unset, .unset, .unset] [(.int p1), (.long (0 : Int64))])) _
      refine XS.i2l X46.here hx rfl (hb hby at_30) rfl ?_
      show Steps p.tables e below (T46.setTop (mkF m 31 #[vI p0, vI p1, vI p2, vI p3, vI p4, vI (3 : Int32), vR b42, vJ (0 : Int64), .second, .unset, .unset, .unset] [(.long (p1.toInt64)), (.long (0 : Int64))])) _
      refine XS.ladd X46.here hx rfl (hb hby at_31) rfl ?_
      show Steps p.tables e below (T46.setTop (mkF m 32 #[vI p0, vI p1, vI p2, vI p3, vI p4, vI (3 : Int32), vR b42, vJ (0 : Int64), .second, .unset, .unset, .unset] [(.long ((0 : Int64) + (p1.toInt64)))])) _
      refine XS.lstore X46.here hx rfl (hb hby at_32) rfl (l' := #[vI p0, vI p1, vI p2, vI p3, vI p4, vI (3 : Int32), vR b42, vJ ((0 : Int64) + (p1.toInt64)), .second, .unset, .unset, .unset]) rfl ?_
      show Steps p.tables e below (T46.setTop (mkF m 34 #[vI p0, vI p1, vI p2, vI p3, vI p4, vI (3 : Int32), vR b42, vJ ((0 : Int64) + (p1.toInt64)), .second, .unset, .unset, .unset] [])) _
      refine XS.iload X46.here hx rfl (hb hby at_34) rfl ?_
      show Steps p.tables e below (T46.setTop (mkF m 36 #[vI p0, vI p1, vI p2, vI p3, vI p4, vI (3 : Int32), vR b42, vJ ((0 : Int64) + (p1.toInt64)), .second, .unset, .unset, .unset] [(.int (3 : Int32))])) _
      refine XS.iconst X46.here hx rfl (hb hby at_36) ?_
      show Steps p.tables e below (T46.setTop (mkF m 37 #[vI p0, vI p1, vI p2, vI p3, vI p4, vI (3 : Int32), vR b42, vJ ((0 : Int64) + (p1.toInt64)), .second, .unset, .unset, .unset] [(.int (1 : Int32)), (.int (3 : Int32))])) _
      refine XS.icmpNo X46.here hx rfl (hb hby at_37) rfl (tlt (by decide : (1 : Int32) < (3 : Int32))).2.2.2 ?_
      show Steps p.tables e below (T46.setTop (mkF m 40 #[vI p0, vI p1, vI p2, vI p3, vI p4, vI (3 : Int32), vR b42, vJ ((0 : Int64) + (p1.toInt64)), .second, .unset, .unset, .unset] [])) _
      refine XS.aload X46.here hx rfl (hb hby at_40) rfl rfl ?_
      show Steps p.tables e below (T46.setTop (mkF m 42 #[vI p0, vI p1, vI p2, vI p3, vI p4, vI (3 : Int32), vR b42, vJ ((0 : Int64) + (p1.toInt64)), .second, .unset, .unset, .unset] [(.ref b42)])) _
      refine XS.iconst X46.here hx rfl (hb hby at_42) ?_
      show Steps p.tables e below (T46.setTop (mkF m 43 #[vI p0, vI p1, vI p2, vI p3, vI p4, vI (3 : Int32), vR b42, vJ ((0 : Int64) + (p1.toInt64)), .second, .unset, .unset, .unset] [(.int (1 : Int32)), (.ref b42)])) _
      refine XS.iloadN X46.here hx rfl (hb hby at_43) rfl ?_
      show Steps p.tables e below (T46.setTop (mkF m 44 #[vI p0, vI p1, vI p2, vI p3, vI p4, vI (3 : Int32), vR b42, vJ ((0 : Int64) + (p1.toInt64)), .second, .unset, .unset, .unset] [(.int p2), (.int (1 : Int32)), (.ref b42)])) _
      exact k)
    obtain ⟨cl50, Ar50, q50, S50, M50, H50, G50⟩ := id av46
    have in50 : ¬ ((1 : Int32) < 0 ∨ cl50.slots.size ≤ ((1 : Int32)).toNatClampNeg) := inb_of S50 ⟨by decide, by decide⟩
    obtain ⟨T50, h50, X50, e50, W50, st50⟩ := stI X46 hx hZ e46 Ar50 (j := (1 : Int32)) in50 (g := (mkF m 44 #[vI p0, vI p1, vI p2, vI p3, vI p4, vI (3 : Int32), vR b42, vJ ((0 : Int64) + (p1.toInt64)), .second, .unset, .unset, .unset] [(.int p2), (.int (1 : Int32)), (.ref b42)])) rfl rfl (hb hby at_44)
    have pre50 : Go p.tables e below S0 T50 (mkF m 45 #[vI p0, vI p1, vI p2, vI p3, vI p4, vI (3 : Int32), vR b42, vJ ((0 : Int64) + (p1.toInt64)), .second, .unset, .unset, .unset] []) := fun t k => pre49 t (st50 t k)
    have N50 := Fr.snoc X50 N46 bo42
    have av50 : Arv Z h50 b42 k42 .int (3 : Int32) [(.int p1), (.int p2), (.int (0 : Int32))] (.int (0 : Int32)) := Arv.set Ar50 q50 S50 M50 H50 G50 rfl W50 1 rfl (Nat.le_of_ble_eq_true rfl)
    have zz52 : n0 ≤ h50.size := Nat.le_trans zz48 (Keep.of_wr W50).1
    have pre53 : Go p.tables e below S0 T50 (mkF m 62 #[vI p0, vI p1, vI p2, vI p3, vI p4, vI (3 : Int32), vR b42, vJ (((0 : Int64) + (p1.toInt64)) + (p2.toInt64)), .second, .unset, .unset, .unset] [(.int p3), (.int (2 : Int32)), (.ref b42)]) := fun t k => pre50 t (by
      refine XS.lload X50.here hx rfl (hb hby at_45) rfl ?_
      show Steps p.tables e below (T50.setTop (mkF m 47 #[vI p0, vI p1, vI p2, vI p3, vI p4, vI (3 : Int32), vR b42, vJ ((0 : Int64) + (p1.toInt64)), .second, .unset, .unset, .unset] [(.long ((0 : Int64) + (p1.toInt64)))])) _
      refine XS.iloadN X50.here hx rfl (hb hby at_47) rfl ?_
      show Steps p.tables e below (T50.setTop (mkF m 48 #[vI p0, vI p1, vI p2, vI p3, vI p4, vI (3 : Int32), vR b42, vJ ((0 : Int64) + (p1.toInt64)), .second, .unset, .unset, .unset] [(.int p2), (.long ((0 : Int64) + (p1.toInt64)))])) _
      refine XS.i2l X50.here hx rfl (hb hby at_48) rfl ?_
      show Steps p.tables e below (T50.setTop (mkF m 49 #[vI p0, vI p1, vI p2, vI p3, vI p4, vI (3 : Int32), vR b42, vJ ((0 : Int64) + (p1.toInt64)), .second, .unset, .unset, .unset] [(.long (p2.toInt64)), (.long ((0 : Int64) + (p1.toInt64)))])) _
      refine XS.ladd X50.here hx rfl (hb hby at_49) rfl ?_
      show Steps p.tables e below (T50.setTop (mkF m 50 #[vI p0, vI p1, vI p2, vI p3, vI p4, vI (3 : Int32), vR b42, vJ ((0 : Int64) + (p1.toInt64)), .second, .unset, .unset, .unset] [(.long (((0 : Int64) + (p1.toInt64)) + (p2.toInt64)))])) _
      refine XS.lstore X50.here hx rfl (hb hby at_50) rfl (l' := #[vI p0, vI p1, vI p2, vI p3, vI p4, vI (3 : Int32), vR b42, vJ (((0 : Int64) + (p1.toInt64)) + (p2.toInt64)), .second, .unset, .unset, .unset]) rfl ?_
      show Steps p.tables e below (T50.setTop (mkF m 52 #[vI p0, vI p1, vI p2, vI p3, vI p4, vI (3 : Int32), vR b42, vJ (((0 : Int64) + (p1.toInt64)) + (p2.toInt64)), .second, .unset, .unset, .unset] [])) _
      refine XS.iload X50.here hx rfl (hb hby at_52) rfl ?_
      show Steps p.tables e below (T50.setTop (mkF m 54 #[vI p0, vI p1, vI p2, vI p3, vI p4, vI (3 : Int32), vR b42, vJ (((0 : Int64) + (p1.toInt64)) + (p2.toInt64)), .second, .unset, .unset, .unset] [(.int (3 : Int32))])) _
      refine XS.iconst X50.here hx rfl (hb hby at_54) ?_
      show Steps p.tables e below (T50.setTop (mkF m 55 #[vI p0, vI p1, vI p2, vI p3, vI p4, vI (3 : Int32), vR b42, vJ (((0 : Int64) + (p1.toInt64)) + (p2.toInt64)), .second, .unset, .unset, .unset] [(.int (2 : Int32)), (.int (3 : Int32))])) _
      refine XS.icmpNo X50.here hx rfl (hb hby at_55) rfl (tlt (by decide : (2 : Int32) < (3 : Int32))).2.2.2 ?_
      show Steps p.tables e below (T50.setTop (mkF m 58 #[vI p0, vI p1, vI p2, vI p3, vI p4, vI (3 : Int32), vR b42, vJ (((0 : Int64) + (p1.toInt64)) + (p2.toInt64)), .second, .unset, .unset, .unset] [])) _
      refine XS.aload X50.here hx rfl (hb hby at_58) rfl rfl ?_
      show Steps p.tables e below (T50.setTop (mkF m 60 #[vI p0, vI p1, vI p2, vI p3, vI p4, vI (3 : Int32), vR b42, vJ (((0 : Int64) + (p1.toInt64)) + (p2.toInt64)), .second, .unset, .unset, .unset] [(.ref b42)])) _
      refine XS.iconst X50.here hx rfl (hb hby at_60) ?_
      show Steps p.tables e below (T50.setTop (mkF m 61 #[vI p0, vI p1, vI p2, vI p3, vI p4, vI (3 : Int32), vR b42, vJ (((0 : Int64) + (p1.toInt64)) + (p2.toInt64)), .second, .unset, .unset, .unset] [(.int (2 : Int32)), (.ref b42)])) _
      refine XS.iloadN X50.here hx rfl (hb hby at_61) rfl ?_
      show Steps p.tables e below (T50.setTop (mkF m 62 #[vI p0, vI p1, vI p2, vI p3, vI p4, vI (3 : Int32), vR b42, vJ (((0 : Int64) + (p1.toInt64)) + (p2.toInt64)), .second, .unset, .unset, .unset] [(.int p3), (.int (2 : Int32)), (.ref b42)])) _
      exact k)
    obtain ⟨cl54, Ar54, q54, S54, M54, H54, G54⟩ := id av50
    have in54 : ¬ ((2 : Int32) < 0 ∨ cl54.slots.size ≤ ((2 : Int32)).toNatClampNeg) := inb_of S54 ⟨by decide, by decide⟩
    obtain ⟨T54, h54, X54, e54, W54, st54⟩ := stI X50 hx hZ e50 Ar54 (j := (2 : Int32)) in54 (g := (mkF m 62 #[vI p0, vI p1, vI p2, vI p3, vI p4, vI (3 : Int32), vR b42, vJ (((0 : Int64) + (p1.toInt64)) + (p2.toInt64)), .second, .unset, .unset, .unset] [(.int p3), (.int (2 : Int32)), (.ref b42)])) rfl rfl (hb hby at_62)
    have pre54 : Go p.tables e below S0 T54 (mkF m 63 #[vI p0, vI p1, vI p2, vI p3, vI p4, vI (3 : Int32), vR b42, vJ (((0 : Int64) + (p1.toInt64)) + (p2.toInt64)), .second, .unset, .unset, .unset] []) := fun t k => pre53 t (st54 t k)
    have N54 := Fr.snoc X54 N50 bo42
    have av54 : Arv Z h54 b42 k42 .int (3 : Int32) [(.int p1), (.int p2), (.int p3)] (.int (0 : Int32)) := Arv.set Ar54 q54 S54 M54 H54 G54 rfl W54 2 rfl (Nat.le_of_ble_eq_true rfl)
    have zz56 : n0 ≤ h54.size := Nat.le_trans zz52 (Keep.of_wr W54).1
    have pre57 : Go p.tables e below S0 T54 (mkF m 92 #[vI p0, vI p1, vI p2, vI p3, vI p4, vI (3 : Int32), vR b42, vJ ((((0 : Int64) + (p1.toInt64)) + (p2.toInt64)) + (p3.toInt64)), .second, .unset, .unset, .unset] [(.ref b42)]) := fun t k => pre54 t (by
      refine XS.lload X54.here hx rfl (hb hby at_63) rfl ?_
      show Steps p.tables e below (T54.setTop (mkF m 65 #[vI p0, vI p1, vI p2, vI p3, vI p4, vI (3 : Int32), vR b42, vJ (((0 : Int64) + (p1.toInt64)) + (p2.toInt64)), .second, .unset, .unset, .unset] [(.long (((0 : Int64) + (p1.toInt64)) + (p2.toInt64)))])) _
      refine XS.iloadN X54.here hx rfl (hb hby at_65) rfl ?_
      show Steps p.tables e below (T54.setTop (mkF m 66 #[vI p0, vI p1, vI p2, vI p3, vI p4, vI (3 : Int32), vR b42, vJ (((0 : Int64) + (p1.toInt64)) + (p2.toInt64)), .second, .unset, .unset, .unset] [(.int p3), (.long (((0 : Int64) + (p1.toInt64)) + (p2.toInt64)))])) _
      refine XS.i2l X54.here hx rfl (hb hby at_66) rfl ?_
      show Steps p.tables e below (T54.setTop (mkF m 67 #[vI p0, vI p1, vI p2, vI p3, vI p4, vI (3 : Int32), vR b42, vJ (((0 : Int64) + (p1.toInt64)) + (p2.toInt64)), .second, .unset, .unset, .unset] [(.long (p3.toInt64)), (.long (((0 : Int64) + (p1.toInt64)) + (p2.toInt64)))])) _
      refine XS.ladd X54.here hx rfl (hb hby at_67) rfl ?_
      show Steps p.tables e below (T54.setTop (mkF m 68 #[vI p0, vI p1, vI p2, vI p3, vI p4, vI (3 : Int32), vR b42, vJ (((0 : Int64) + (p1.toInt64)) + (p2.toInt64)), .second, .unset, .unset, .unset] [(.long ((((0 : Int64) + (p1.toInt64)) + (p2.toInt64)) + (p3.toInt64)))])) _
      refine XS.lstore X54.here hx rfl (hb hby at_68) rfl (l' := #[vI p0, vI p1, vI p2, vI p3, vI p4, vI (3 : Int32), vR b42, vJ ((((0 : Int64) + (p1.toInt64)) + (p2.toInt64)) + (p3.toInt64)), .second, .unset, .unset, .unset]) rfl ?_
      show Steps p.tables e below (T54.setTop (mkF m 70 #[vI p0, vI p1, vI p2, vI p3, vI p4, vI (3 : Int32), vR b42, vJ ((((0 : Int64) + (p1.toInt64)) + (p2.toInt64)) + (p3.toInt64)), .second, .unset, .unset, .unset] [])) _
      refine XS.iload X54.here hx rfl (hb hby at_70) rfl ?_
      show Steps p.tables e below (T54.setTop (mkF m 72 #[vI p0, vI p1, vI p2, vI p3, vI p4, vI (3 : Int32), vR b42, vJ ((((0 : Int64) + (p1.toInt64)) + (p2.toInt64)) + (p3.toInt64)), .second, .unset, .unset, .unset] [(.int (3 : Int32))])) _
      refine XS.iconst X54.here hx rfl (hb hby at_72) ?_
      show Steps p.tables e below (T54.setTop (mkF m 73 #[vI p0, vI p1, vI p2, vI p3, vI p4, vI (3 : Int32), vR b42, vJ ((((0 : Int64) + (p1.toInt64)) + (p2.toInt64)) + (p3.toInt64)), .second, .unset, .unset, .unset] [(.int (3 : Int32)), (.int (3 : Int32))])) _
      refine XS.icmpYes X54.here hx rfl (pc0 := 73) (pc' := 90) rfl (hb hby at_73) rfl (flt (by decide : ¬ ((3 : Int32) < (3 : Int32)))).2.2.2 (by decide) (by decide) ?_
      show Steps p.tables e below (T54.setTop (mkF m 90 #[vI p0, vI p1, vI p2, vI p3, vI p4, vI (3 : Int32), vR b42, vJ ((((0 : Int64) + (p1.toInt64)) + (p2.toInt64)) + (p3.toInt64)), .second, .unset, .unset, .unset] [])) _
      refine XS.aload X54.here hx rfl (hb hby at_90) rfl rfl ?_
      show Steps p.tables e below (T54.setTop (mkF m 92 #[vI p0, vI p1, vI p2, vI p3, vI p4, vI (3 : Int32), vR b42, vJ ((((0 : Int64) + (p1.toInt64)) + (p2.toInt64)) + (p3.toInt64)), .second, .unset, .unset, .unset] [(.ref b42)])) _
      exact k)
    obtain ⟨_, _, ⟨T58, L58, k58, n58⟩, -, X58, ⟨Lc58, hQ58, l58, y58, z58⟩, st58⟩ := Jvm.LawKit.callS X54 hx (y := (⟨"com/example/motiflow/motiflow/Tally", "explained", "([I)J"⟩ : MethodName)) hown (mvT hZ (hw _ (List.mem_of_getElem? (i := 2) rfl))) (mvT hZ (hw _ (List.mem_of_getElem? (i := 3) rfl))) (mvT hZ (hw _ (List.mem_of_getElem? (i := 4) rfl))) (mvT hZ (hw _ (List.mem_of_getElem? (i := 5) rfl))) (by decide) (backOf (W := 0) (rm1_3 l Z A0 hw [] b42 k42 p1 p2 p3 h54 n0 zz56 av54) hZ (hw _ (List.mem_of_getElem? (i := 5) rfl)) (hw _ (List.mem_of_getElem? (i := 4) rfl)) (by decide) (by decide)) (g := (mkF m 92 #[vI p0, vI p1, vI p2, vI p3, vI p4, vI (3 : Int32), vR b42, vJ ((((0 : Int64) + (p1.toInt64)) + (p2.toInt64)) + (p3.toInt64)), .second, .unset, .unset, .unset] [(.ref b42)])) rfl (by rw [hml]; rfl) (argsL := [(.ref b42)]) (rest := []) (lenOf pd_0 rfl) rfl (by show 2 * 0 + _ ≤ _; exact Nat.le_of_eq rfl) (hb hby at_92) (fun _ _ => ⟨rfl, e54, (by decide : 1 + 0 ≤ _), (by decide : 3 + 0 ≤ _)⟩)
    dsimp only [Pt.U, Pt.locs, Pt.cells, Pt.slots] at X58 l58 y58 z58 st58 hQ58
    subst l58 y58 z58
    obtain ⟨rfl, Nq58, eq58⟩ := hQ58
    have N58 := Fr.app N54 Nq58
    have pre58 : Go p.tables e below S0 T58 (mkF m 95 #[vI p0, vI p1, vI p2, vI p3, vI p4, vI (3 : Int32), vR b42, vJ ((((0 : Int64) + (p1.toInt64)) + (p2.toInt64)) + (p3.toInt64)), .second, .unset, .unset, .unset] [(.long ((((0 : Int64) + (p1.toInt64)) + (p2.toInt64)) + (p3.toInt64)))]) := fun t k => pre57 t (st58 t k)
    have pre59 : Go p.tables e below S0 T58 (mkF m 108 #[vI p0, vI p1, vI p2, vI p3, vI p4, vI (3 : Int32), vR b42, vJ ((((0 : Int64) + (p1.toInt64)) + (p2.toInt64)) + (p3.toInt64)), .second, vJ ((((0 : Int64) + (p1.toInt64)) + (p2.toInt64)) + (p3.toInt64)), .second, vI (1 : Int32)] [(.int (0 : Int32)), (.ref b42)]) := fun t k => pre58 t (by
      refine XS.lstore X58.here hx rfl (hb hby at_95) rfl (l' := #[vI p0, vI p1, vI p2, vI p3, vI p4, vI (3 : Int32), vR b42, vJ ((((0 : Int64) + (p1.toInt64)) + (p2.toInt64)) + (p3.toInt64)), .second, vJ ((((0 : Int64) + (p1.toInt64)) + (p2.toInt64)) + (p3.toInt64)), .second, .unset]) rfl ?_
      show Steps p.tables e below (T58.setTop (mkF m 97 #[vI p0, vI p1, vI p2, vI p3, vI p4, vI (3 : Int32), vR b42, vJ ((((0 : Int64) + (p1.toInt64)) + (p2.toInt64)) + (p3.toInt64)), .second, vJ ((((0 : Int64) + (p1.toInt64)) + (p2.toInt64)) + (p3.toInt64)), .second, .unset] [])) _
      refine XS.iconst X58.here hx rfl (hb hby at_97) ?_
      show Steps p.tables e below (T58.setTop (mkF m 98 #[vI p0, vI p1, vI p2, vI p3, vI p4, vI (3 : Int32), vR b42, vJ ((((0 : Int64) + (p1.toInt64)) + (p2.toInt64)) + (p3.toInt64)), .second, vJ ((((0 : Int64) + (p1.toInt64)) + (p2.toInt64)) + (p3.toInt64)), .second, .unset] [(.int (1 : Int32))])) _
      refine XS.istore X58.here hx rfl (hb hby at_98) rfl (l' := #[vI p0, vI p1, vI p2, vI p3, vI p4, vI (3 : Int32), vR b42, vJ ((((0 : Int64) + (p1.toInt64)) + (p2.toInt64)) + (p3.toInt64)), .second, vJ ((((0 : Int64) + (p1.toInt64)) + (p2.toInt64)) + (p3.toInt64)), .second, vI (1 : Int32)]) rfl ?_
      show Steps p.tables e below (T58.setTop (mkF m 100 #[vI p0, vI p1, vI p2, vI p3, vI p4, vI (3 : Int32), vR b42, vJ ((((0 : Int64) + (p1.toInt64)) + (p2.toInt64)) + (p3.toInt64)), .second, vJ ((((0 : Int64) + (p1.toInt64)) + (p2.toInt64)) + (p3.toInt64)), .second, vI (1 : Int32)] [])) _
      refine XS.iload X58.here hx rfl (hb hby at_100) rfl ?_
      show Steps p.tables e below (T58.setTop (mkF m 102 #[vI p0, vI p1, vI p2, vI p3, vI p4, vI (3 : Int32), vR b42, vJ ((((0 : Int64) + (p1.toInt64)) + (p2.toInt64)) + (p3.toInt64)), .second, vJ ((((0 : Int64) + (p1.toInt64)) + (p2.toInt64)) + (p3.toInt64)), .second, vI (1 : Int32)] [(.int (3 : Int32))])) _
      refine XS.ifNo X58.here hx rfl (hb hby at_102) rfl ((if0 _ _).trans (tlt (by decide : (0 : Int32) < (3 : Int32))).2.2.2) ?_
      show Steps p.tables e below (T58.setTop (mkF m 105 #[vI p0, vI p1, vI p2, vI p3, vI p4, vI (3 : Int32), vR b42, vJ ((((0 : Int64) + (p1.toInt64)) + (p2.toInt64)) + (p3.toInt64)), .second, vJ ((((0 : Int64) + (p1.toInt64)) + (p2.toInt64)) + (p3.toInt64)), .second, vI (1 : Int32)] [])) _
      refine XS.aload X58.here hx rfl (hb hby at_105) rfl rfl ?_
      show Steps p.tables e below (T58.setTop (mkF m 107 #[vI p0, vI p1, vI p2, vI p3, vI p4, vI (3 : Int32), vR b42, vJ ((((0 : Int64) + (p1.toInt64)) + (p2.toInt64)) + (p3.toInt64)), .second, vJ ((((0 : Int64) + (p1.toInt64)) + (p2.toInt64)) + (p3.toInt64)), .second, vI (1 : Int32)] [(.ref b42)])) _
      refine XS.iconst X58.here hx rfl (hb hby at_107) ?_
      show Steps p.tables e below (T58.setTop (mkF m 108 #[vI p0, vI p1, vI p2, vI p3, vI p4, vI (3 : Int32), vR b42, vJ ((((0 : Int64) + (p1.toInt64)) + (p2.toInt64)) + (p3.toInt64)), .second, vJ ((((0 : Int64) + (p1.toInt64)) + (p2.toInt64)) + (p3.toInt64)), .second, vI (1 : Int32)] [(.int (0 : Int32)), (.ref b42)])) _
      exact k)
    obtain ⟨cl60, Ar60, q60, S60, M60, H60, G60⟩ := id av54
    have in60 : ¬ ((0 : Int32) < 0 ∨ cl60.slots.size ≤ ((0 : Int32)).toNatClampNeg) := inb_of S60 ⟨by decide, by decide⟩
    have at60 : cl60.slots[((0 : Int32)).toNatClampNeg]? = some (.int p1) := H60.at in60 rfl
    have pre61 : Go p.tables e below S0 T58 (mkF m 125 #[vI p0, vI p1, vI p2, vI p3, vI p4, vI (3 : Int32), vR b42, vJ ((((0 : Int64) + (p1.toInt64)) + (p2.toInt64)) + (p3.toInt64)), .second, vJ ((((0 : Int64) + (p1.toInt64)) + (p2.toInt64)) + (p3.toInt64)), .second, vI (1 : Int32)] [(.int (1 : Int32)), (.ref b42)]) := fun t k => pre59 t (by
      refine X58.iaload hx (j := (0 : Int32)) (v := (.int p1)) (by rw [eq58]; exact Ar60.1) (State.isArrayOf_alike hZ.alike Ar60.2.1) Ar60.2.2 in60 at60 (g := (mkF m 108 #[vI p0, vI p1, vI p2, vI p3, vI p4, vI (3 : Int32), vR b42, vJ ((((0 : Int64) + (p1.toInt64)) + (p2.toInt64)) + (p3.toInt64)), .second, vJ ((((0 : Int64) + (p1.toInt64)) + (p2.toInt64)) + (p3.toInt64)), .second, vI (1 : Int32)] [(.int (0 : Int32)), (.ref b42)])) rfl rfl (hb hby at_108) _ ?_
      show Steps p.tables e below (T58.setTop (mkF m 109 #[vI p0, vI p1, vI p2, vI p3, vI p4, vI (3 : Int32), vR b42, vJ ((((0 : Int64) + (p1.toInt64)) + (p2.toInt64)) + (p3.toInt64)), .second, vJ ((((0 : Int64) + (p1.toInt64)) + (p2.toInt64)) + (p3.toInt64)), .second, vI (1 : Int32)] [(.int p1)])) _
      refine XS.iloadN X58.here hx rfl (hb hby at_109) rfl ?_
      show Steps p.tables e below (T58.setTop (mkF m 110 #[vI p0, vI p1, vI p2, vI p3, vI p4, vI (3 : Int32), vR b42, vJ ((((0 : Int64) + (p1.toInt64)) + (p2.toInt64)) + (p3.toInt64)), .second, vJ ((((0 : Int64) + (p1.toInt64)) + (p2.toInt64)) + (p3.toInt64)), .second, vI (1 : Int32)] [(.int p1), (.int p1)])) _
      refine XS.icmpYes X58.here hx rfl (pc0 := 110) (pc' := 116) rfl (hb hby at_110) rfl (teq (rfl : p1 = p1)).1 (by decide) (by decide) ?_
      show Steps p.tables e below (T58.setTop (mkF m 116 #[vI p0, vI p1, vI p2, vI p3, vI p4, vI (3 : Int32), vR b42, vJ ((((0 : Int64) + (p1.toInt64)) + (p2.toInt64)) + (p3.toInt64)), .second, vJ ((((0 : Int64) + (p1.toInt64)) + (p2.toInt64)) + (p3.toInt64)), .second, vI (1 : Int32)] [])) _
      refine XS.iload X58.here hx rfl (hb hby at_116) rfl ?_
      show Steps p.tables e below (T58.setTop (mkF m 118 #[vI p0, vI p1, vI p2, vI p3, vI p4, vI (3 : Int32), vR b42, vJ ((((0 : Int64) + (p1.toInt64)) + (p2.toInt64)) + (p3.toInt64)), .second, vJ ((((0 : Int64) + (p1.toInt64)) + (p2.toInt64)) + (p3.toInt64)), .second, vI (1 : Int32)] [(.int (3 : Int32))])) _
      refine XS.iconst X58.here hx rfl (hb hby at_118) ?_
      show Steps p.tables e below (T58.setTop (mkF m 119 #[vI p0, vI p1, vI p2, vI p3, vI p4, vI (3 : Int32), vR b42, vJ ((((0 : Int64) + (p1.toInt64)) + (p2.toInt64)) + (p3.toInt64)), .second, vJ ((((0 : Int64) + (p1.toInt64)) + (p2.toInt64)) + (p3.toInt64)), .second, vI (1 : Int32)] [(.int (1 : Int32)), (.int (3 : Int32))])) _
      refine XS.icmpNo X58.here hx rfl (hb hby at_119) rfl (tlt (by decide : (1 : Int32) < (3 : Int32))).2.2.2 ?_
      show Steps p.tables e below (T58.setTop (mkF m 122 #[vI p0, vI p1, vI p2, vI p3, vI p4, vI (3 : Int32), vR b42, vJ ((((0 : Int64) + (p1.toInt64)) + (p2.toInt64)) + (p3.toInt64)), .second, vJ ((((0 : Int64) + (p1.toInt64)) + (p2.toInt64)) + (p3.toInt64)), .second, vI (1 : Int32)] [])) _
      refine XS.aload X58.here hx rfl (hb hby at_122) rfl rfl ?_
      show Steps p.tables e below (T58.setTop (mkF m 124 #[vI p0, vI p1, vI p2, vI p3, vI p4, vI (3 : Int32), vR b42, vJ ((((0 : Int64) + (p1.toInt64)) + (p2.toInt64)) + (p3.toInt64)), .second, vJ ((((0 : Int64) + (p1.toInt64)) + (p2.toInt64)) + (p3.toInt64)), .second, vI (1 : Int32)] [(.ref b42)])) _
      refine XS.iconst X58.here hx rfl (hb hby at_124) ?_
      show Steps p.tables e below (T58.setTop (mkF m 125 #[vI p0, vI p1, vI p2, vI p3, vI p4, vI (3 : Int32), vR b42, vJ ((((0 : Int64) + (p1.toInt64)) + (p2.toInt64)) + (p3.toInt64)), .second, vJ ((((0 : Int64) + (p1.toInt64)) + (p2.toInt64)) + (p3.toInt64)), .second, vI (1 : Int32)] [(.int (1 : Int32)), (.ref b42)])) _
      exact k)
    obtain ⟨cl62, Ar62, q62, S62, M62, H62, G62⟩ := id av54
    have in62 : ¬ ((1 : Int32) < 0 ∨ cl62.slots.size ≤ ((1 : Int32)).toNatClampNeg) := inb_of S62 ⟨by decide, by decide⟩
    have at62 : cl62.slots[((1 : Int32)).toNatClampNeg]? = some (.int p2) := H62.at in62 rfl
    have pre63 : Go p.tables e below S0 T58 (mkF m 142 #[vI p0, vI p1, vI p2, vI p3, vI p4, vI (3 : Int32), vR b42, vJ ((((0 : Int64) + (p1.toInt64)) + (p2.toInt64)) + (p3.toInt64)), .second, vJ ((((0 : Int64) + (p1.toInt64)) + (p2.toInt64)) + (p3.toInt64)), .second, vI (1 : Int32)] [(.int (2 : Int32)), (.ref b42)]) := fun t k => pre61 t (by
      refine X58.iaload hx (j := (1 : Int32)) (v := (.int p2)) (by rw [eq58]; exact Ar62.1) (State.isArrayOf_alike hZ.alike Ar62.2.1) Ar62.2.2 in62 at62 (g := (mkF m 125 #[vI p0, vI p1, vI p2, vI p3, vI p4, vI (3 : Int32), vR b42, vJ ((((0 : Int64) + (p1.toInt64)) + (p2.toInt64)) + (p3.toInt64)), .second, vJ ((((0 : Int64) + (p1.toInt64)) + (p2.toInt64)) + (p3.toInt64)), .second, vI (1 : Int32)] [(.int (1 : Int32)), (.ref b42)])) rfl rfl (hb hby at_125) _ ?_
      show Steps p.tables e below (T58.setTop (mkF m 126 #[vI p0, vI p1, vI p2, vI p3, vI p4, vI (3 : Int32), vR b42, vJ ((((0 : Int64) + (p1.toInt64)) + (p2.toInt64)) + (p3.toInt64)), .second, vJ ((((0 : Int64) + (p1.toInt64)) + (p2.toInt64)) + (p3.toInt64)), .second, vI (1 : Int32)] [(.int p2)])) _
      refine XS.iloadN X58.here hx rfl (hb hby at_126) rfl ?_
      show Steps p.tables e below (T58.setTop (mkF m 127 #[vI p0, vI p1, vI p2, vI p3, vI p4, vI (3 : Int32), vR b42, vJ ((((0 : Int64) + (p1.toInt64)) + (p2.toInt64)) + (p3.toInt64)), .second, vJ ((((0 : Int64) + (p1.toInt64)) + (p2.toInt64)) + (p3.toInt64)), .second, vI (1 : Int32)] [(.int p2), (.int p2)])) _
      refine XS.icmpYes X58.here hx rfl (pc0 := 127) (pc' := 133) rfl (hb hby at_127) rfl (teq (rfl : p2 = p2)).1 (by decide) (by decide) ?_
      show Steps p.tables e below (T58.setTop (mkF m 133 #[vI p0, vI p1, vI p2, vI p3, vI p4, vI (3 : Int32), vR b42, vJ ((((0 : Int64) + (p1.toInt64)) + (p2.toInt64)) + (p3.toInt64)), .second, vJ ((((0 : Int64) + (p1.toInt64)) + (p2.toInt64)) + (p3.toInt64)), .second, vI (1 : Int32)] [])) _
      refine XS.iload X58.here hx rfl (hb hby at_133) rfl ?_
      show Steps p.tables e below (T58.setTop (mkF m 135 #[vI p0, vI p1, vI p2, vI p3, vI p4, vI (3 : Int32), vR b42, vJ ((((0 : Int64) + (p1.toInt64)) + (p2.toInt64)) + (p3.toInt64)), .second, vJ ((((0 : Int64) + (p1.toInt64)) + (p2.toInt64)) + (p3.toInt64)), .second, vI (1 : Int32)] [(.int (3 : Int32))])) _
      refine XS.iconst X58.here hx rfl (hb hby at_135) ?_
      show Steps p.tables e below (T58.setTop (mkF m 136 #[vI p0, vI p1, vI p2, vI p3, vI p4, vI (3 : Int32), vR b42, vJ ((((0 : Int64) + (p1.toInt64)) + (p2.toInt64)) + (p3.toInt64)), .second, vJ ((((0 : Int64) + (p1.toInt64)) + (p2.toInt64)) + (p3.toInt64)), .second, vI (1 : Int32)] [(.int (2 : Int32)), (.int (3 : Int32))])) _
      refine XS.icmpNo X58.here hx rfl (hb hby at_136) rfl (tlt (by decide : (2 : Int32) < (3 : Int32))).2.2.2 ?_
      show Steps p.tables e below (T58.setTop (mkF m 139 #[vI p0, vI p1, vI p2, vI p3, vI p4, vI (3 : Int32), vR b42, vJ ((((0 : Int64) + (p1.toInt64)) + (p2.toInt64)) + (p3.toInt64)), .second, vJ ((((0 : Int64) + (p1.toInt64)) + (p2.toInt64)) + (p3.toInt64)), .second, vI (1 : Int32)] [])) _
      refine XS.aload X58.here hx rfl (hb hby at_139) rfl rfl ?_
      show Steps p.tables e below (T58.setTop (mkF m 141 #[vI p0, vI p1, vI p2, vI p3, vI p4, vI (3 : Int32), vR b42, vJ ((((0 : Int64) + (p1.toInt64)) + (p2.toInt64)) + (p3.toInt64)), .second, vJ ((((0 : Int64) + (p1.toInt64)) + (p2.toInt64)) + (p3.toInt64)), .second, vI (1 : Int32)] [(.ref b42)])) _
      refine XS.iconst X58.here hx rfl (hb hby at_141) ?_
      show Steps p.tables e below (T58.setTop (mkF m 142 #[vI p0, vI p1, vI p2, vI p3, vI p4, vI (3 : Int32), vR b42, vJ ((((0 : Int64) + (p1.toInt64)) + (p2.toInt64)) + (p3.toInt64)), .second, vJ ((((0 : Int64) + (p1.toInt64)) + (p2.toInt64)) + (p3.toInt64)), .second, vI (1 : Int32)] [(.int (2 : Int32)), (.ref b42)])) _
      exact k)
    obtain ⟨cl64, Ar64, q64, S64, M64, H64, G64⟩ := id av54
    have in64 : ¬ ((2 : Int32) < 0 ∨ cl64.slots.size ≤ ((2 : Int32)).toNatClampNeg) := inb_of S64 ⟨by decide, by decide⟩
    have at64 : cl64.slots[((2 : Int32)).toNatClampNeg]? = some (.int p3) := H64.at in64 rfl
    have pre65 : Go p.tables e below S0 T58 (mkF m 186 #[vI p0, vI p1, vI p2, vI p3, vI p4, vI (3 : Int32), vR b42, vJ ((((0 : Int64) + (p1.toInt64)) + (p2.toInt64)) + (p3.toInt64)), .second, vJ ((((0 : Int64) + (p1.toInt64)) + (p2.toInt64)) + (p3.toInt64)), .second, vI (1 : Int32)] [(.int (1 : Int32))]) := fun t k => pre63 t (by
      refine X58.iaload hx (j := (2 : Int32)) (v := (.int p3)) (by rw [eq58]; exact Ar64.1) (State.isArrayOf_alike hZ.alike Ar64.2.1) Ar64.2.2 in64 at64 (g := (mkF m 142 #[vI p0, vI p1, vI p2, vI p3, vI p4, vI (3 : Int32), vR b42, vJ ((((0 : Int64) + (p1.toInt64)) + (p2.toInt64)) + (p3.toInt64)), .second, vJ ((((0 : Int64) + (p1.toInt64)) + (p2.toInt64)) + (p3.toInt64)), .second, vI (1 : Int32)] [(.int (2 : Int32)), (.ref b42)])) rfl rfl (hb hby at_142) _ ?_
      show Steps p.tables e below (T58.setTop (mkF m 143 #[vI p0, vI p1, vI p2, vI p3, vI p4, vI (3 : Int32), vR b42, vJ ((((0 : Int64) + (p1.toInt64)) + (p2.toInt64)) + (p3.toInt64)), .second, vJ ((((0 : Int64) + (p1.toInt64)) + (p2.toInt64)) + (p3.toInt64)), .second, vI (1 : Int32)] [(.int p3)])) _
      refine XS.iloadN X58.here hx rfl (hb hby at_143) rfl ?_
      show Steps p.tables e below (T58.setTop (mkF m 144 #[vI p0, vI p1, vI p2, vI p3, vI p4, vI (3 : Int32), vR b42, vJ ((((0 : Int64) + (p1.toInt64)) + (p2.toInt64)) + (p3.toInt64)), .second, vJ ((((0 : Int64) + (p1.toInt64)) + (p2.toInt64)) + (p3.toInt64)), .second, vI (1 : Int32)] [(.int p3), (.int p3)])) _
      refine XS.icmpYes X58.here hx rfl (pc0 := 144) (pc' := 150) rfl (hb hby at_144) rfl (teq (rfl : p3 = p3)).1 (by decide) (by decide) ?_
      show Steps p.tables e below (T58.setTop (mkF m 150 #[vI p0, vI p1, vI p2, vI p3, vI p4, vI (3 : Int32), vR b42, vJ ((((0 : Int64) + (p1.toInt64)) + (p2.toInt64)) + (p3.toInt64)), .second, vJ ((((0 : Int64) + (p1.toInt64)) + (p2.toInt64)) + (p3.toInt64)), .second, vI (1 : Int32)] [])) _
      refine XS.iload X58.here hx rfl (hb hby at_150) rfl ?_
      show Steps p.tables e below (T58.setTop (mkF m 152 #[vI p0, vI p1, vI p2, vI p3, vI p4, vI (3 : Int32), vR b42, vJ ((((0 : Int64) + (p1.toInt64)) + (p2.toInt64)) + (p3.toInt64)), .second, vJ ((((0 : Int64) + (p1.toInt64)) + (p2.toInt64)) + (p3.toInt64)), .second, vI (1 : Int32)] [(.int (3 : Int32))])) _
      refine XS.iconst X58.here hx rfl (hb hby at_152) ?_
      show Steps p.tables e below (T58.setTop (mkF m 153 #[vI p0, vI p1, vI p2, vI p3, vI p4, vI (3 : Int32), vR b42, vJ ((((0 : Int64) + (p1.toInt64)) + (p2.toInt64)) + (p3.toInt64)), .second, vJ ((((0 : Int64) + (p1.toInt64)) + (p2.toInt64)) + (p3.toInt64)), .second, vI (1 : Int32)] [(.int (3 : Int32)), (.int (3 : Int32))])) _
      refine XS.icmpYes X58.here hx rfl (pc0 := 153) (pc' := 168) rfl (hb hby at_153) rfl (flt (by decide : ¬ ((3 : Int32) < (3 : Int32)))).2.2.2 (by decide) (by decide) ?_
      show Steps p.tables e below (T58.setTop (mkF m 168 #[vI p0, vI p1, vI p2, vI p3, vI p4, vI (3 : Int32), vR b42, vJ ((((0 : Int64) + (p1.toInt64)) + (p2.toInt64)) + (p3.toInt64)), .second, vJ ((((0 : Int64) + (p1.toInt64)) + (p2.toInt64)) + (p3.toInt64)), .second, vI (1 : Int32)] [])) _
      refine XS.lload X58.here hx rfl (hb hby at_168) rfl ?_
      show Steps p.tables e below (T58.setTop (mkF m 170 #[vI p0, vI p1, vI p2, vI p3, vI p4, vI (3 : Int32), vR b42, vJ ((((0 : Int64) + (p1.toInt64)) + (p2.toInt64)) + (p3.toInt64)), .second, vJ ((((0 : Int64) + (p1.toInt64)) + (p2.toInt64)) + (p3.toInt64)), .second, vI (1 : Int32)] [(.long ((((0 : Int64) + (p1.toInt64)) + (p2.toInt64)) + (p3.toInt64)))])) _
      refine XS.lload X58.here hx rfl (hb hby at_170) rfl ?_
      show Steps p.tables e below (T58.setTop (mkF m 172 #[vI p0, vI p1, vI p2, vI p3, vI p4, vI (3 : Int32), vR b42, vJ ((((0 : Int64) + (p1.toInt64)) + (p2.toInt64)) + (p3.toInt64)), .second, vJ ((((0 : Int64) + (p1.toInt64)) + (p2.toInt64)) + (p3.toInt64)), .second, vI (1 : Int32)] [(.long ((((0 : Int64) + (p1.toInt64)) + (p2.toInt64)) + (p3.toInt64))), (.long ((((0 : Int64) + (p1.toInt64)) + (p2.toInt64)) + (p3.toInt64)))])) _
      refine XS.lcmp X58.here hx rfl (hb hby at_172) rfl ?_
      show Steps p.tables e below (T58.setTop (mkF m 173 #[vI p0, vI p1, vI p2, vI p3, vI p4, vI (3 : Int32), vR b42, vJ ((((0 : Int64) + (p1.toInt64)) + (p2.toInt64)) + (p3.toInt64)), .second, vJ ((((0 : Int64) + (p1.toInt64)) + (p2.toInt64)) + (p3.toInt64)), .second, vI (1 : Int32)] [(.int (lcmpW ((((0 : Int64) + (p1.toInt64)) + (p2.toInt64)) + (p3.toInt64)) ((((0 : Int64) + (p1.toInt64)) + (p2.toInt64)) + (p3.toInt64))))])) _
      refine XS.ifNo X58.here hx rfl (hb hby at_173) rfl ((if0 _ _).trans (teq ((lw_eq _ _).mpr (rfl : ((((0 : Int64) + (p1.toInt64)) + (p2.toInt64)) + (p3.toInt64)) = ((((0 : Int64) + (p1.toInt64)) + (p2.toInt64)) + (p3.toInt64))))).2) ?_
      show Steps p.tables e below (T58.setTop (mkF m 176 #[vI p0, vI p1, vI p2, vI p3, vI p4, vI (3 : Int32), vR b42, vJ ((((0 : Int64) + (p1.toInt64)) + (p2.toInt64)) + (p3.toInt64)), .second, vJ ((((0 : Int64) + (p1.toInt64)) + (p2.toInt64)) + (p3.toInt64)), .second, vI (1 : Int32)] [])) _
      refine XS.iload X58.here hx rfl (hb hby at_176) rfl ?_
      show Steps p.tables e below (T58.setTop (mkF m 178 #[vI p0, vI p1, vI p2, vI p3, vI p4, vI (3 : Int32), vR b42, vJ ((((0 : Int64) + (p1.toInt64)) + (p2.toInt64)) + (p3.toInt64)), .second, vJ ((((0 : Int64) + (p1.toInt64)) + (p2.toInt64)) + (p3.toInt64)), .second, vI (1 : Int32)] [(.int (1 : Int32))])) _
      refine XS.ifNo X58.here hx rfl (hb hby at_178) rfl ((if0 _ _).trans (feq (by decide : ¬ ((1 : Int32) = (0 : Int32)))).1) ?_
      show Steps p.tables e below (T58.setTop (mkF m 181 #[vI p0, vI p1, vI p2, vI p3, vI p4, vI (3 : Int32), vR b42, vJ ((((0 : Int64) + (p1.toInt64)) + (p2.toInt64)) + (p3.toInt64)), .second, vJ ((((0 : Int64) + (p1.toInt64)) + (p2.toInt64)) + (p3.toInt64)), .second, vI (1 : Int32)] [])) _
      refine XS.iconst X58.here hx rfl (hb hby at_181) ?_
      show Steps p.tables e below (T58.setTop (mkF m 182 #[vI p0, vI p1, vI p2, vI p3, vI p4, vI (3 : Int32), vR b42, vJ ((((0 : Int64) + (p1.toInt64)) + (p2.toInt64)) + (p3.toInt64)), .second, vJ ((((0 : Int64) + (p1.toInt64)) + (p2.toInt64)) + (p3.toInt64)), .second, vI (1 : Int32)] [(.int (1 : Int32))])) _
      refine XS.goto X58.here hx rfl (pc0 := 182) (pc' := 186) rfl (hb hby at_182) (by decide) (by decide) ?_
      show Steps p.tables e below (T58.setTop (mkF m 186 #[vI p0, vI p1, vI p2, vI p3, vI p4, vI (3 : Int32), vR b42, vJ ((((0 : Int64) + (p1.toInt64)) + (p2.toInt64)) + (p3.toInt64)), .second, vJ ((((0 : Int64) + (p1.toInt64)) + (p2.toInt64)) + (p3.toInt64)), .second, vI (1 : Int32)] [(.int (1 : Int32))])) _
      exact k)
    obtain ⟨fs, hr, hrun, hended, hW, hsame⟩ := X58.leave (v := some (.int (1 : Int32))) (fun h => by rw [Bd.returns] at h; cases h)
    exact ⟨_, _, pre65.fin hS0 (retN X58 hx (t := .boolean) Bd.returns (by simp) (hb hby at_186) hr), hrun, hended, _, _, rfl, (by
      show Q0 Z p0 p1 p2 p3 p4 h0 n0 _ T58.heap _
      rw [eq58]
      exact ⟨rfl, N58⟩), ⟨_, rfl⟩, hW, hsame.mono (by decide) (by decide)⟩
  · skip
    have pre66 : Go p.tables e below S0 s₁ (mkF m 10 #[vI p0, vI p1, vI p2, vI p3, vI p4, vI (4 : Int32), .unset, .unset, .unset, .unset, .unset, .unset] [(.int (4 : Int32))]) := fun t k => pre1 t (by
      refine XS.iload X0.here hx rfl (hb hby at_8) rfl ?_
      show Steps p.tables e below (s₁.setTop (mkF m 10 #[vI p0, vI p1, vI p2, vI p3, vI p4, vI (4 : Int32), .unset, .unset, .unset, .unset, .unset, .unset] [(.int (4 : Int32))])) _
      exact k)
    obtain ⟨T67, h67, k67, X67, e67, E67, A67, st67⟩ := newP X0 hx hZ (hw _ (List.mem_of_getElem? (i := 1) rfl)) e0 (g := (mkF m 10 #[vI p0, vI p1, vI p2, vI p3, vI p4, vI (4 : Int32), .unset, .unset, .unset, .unset, .unset, .unset] [(.int (4 : Int32))])) rfl (hb hby at_10) rfl (by decide) (cap := 4) (by decide) (by decide) (by decide) (by decide)
    obtain ⟨b67, g67⟩ : ∃ z, z = h0.size := ⟨_, rfl⟩
    rw [← g67] at A67 st67
    have pre67 : Go p.tables e below S0 T67 (mkF m 12 #[vI p0, vI p1, vI p2, vI p3, vI p4, vI (4 : Int32), .unset, .unset, .unset, .unset, .unset, .unset] [(.ref b67)]) := fun t k => pre66 t (st67 t k)
    have bo67 : n0 ≤ b67 := Nat.le_trans Z0 (Nat.le_of_eq g67.symm)
    have zz69 : n0 ≤ h67.size := Nat.le_trans Z0 E67.1
    have av67 : Arv Z h67 b67 k67 .int (4 : Int32) [(.int (0 : Int32)), (.int (0 : Int32)), (.int (0 : Int32)), (.int (0 : Int32))] (.int (0 : Int32)) := (Arv.new A67 (by decide)).pad (pad_rep [] (.int (0 : Int32)) 4)
    have pre70 : Go p.tables e below S0 T67 (mkF m 26 #[vI p0, vI p1, vI p2, vI p3, vI p4, vI (4 : Int32), vR b67, vJ (0 : Int64), .second, .unset, .unset, .unset] [(.int p1), (.int (0 : Int32)), (.ref b67)]) := fun t k => pre67 t (by
      refine XS.astore X67.here hx rfl (hb hby at_12) rfl rfl (l' := #[vI p0, vI p1, vI p2, vI p3, vI p4, vI (4 : Int32), vR b67, .unset, .unset, .unset, .unset, .unset]) rfl ?_
      show Steps p.tables e below (T67.setTop (mkF m 14 #[vI p0, vI p1, vI p2, vI p3, vI p4, vI (4 : Int32), vR b67, .unset, .unset, .unset, .unset, .unset] [])) _
      refine XS.lconst X67.here hx rfl (hb hby at_14) ?_
      show Steps p.tables e below (T67.setTop (mkF m 15 #[vI p0, vI p1, vI p2, vI p3, vI p4, vI (4 : Int32), vR b67, .unset, .unset, .unset, .unset, .unset] [(.long (0 : Int64))])) _
      refine XS.lstore X67.here hx rfl (hb hby at_15) rfl (l' := #[vI p0, vI p1, vI p2, vI p3, vI p4, vI (4 : Int32), vR b67, vJ (0 : Int64), .second, .unset, .unset, .unset]) rfl ?_
      show Steps p.tables e below (T67.setTop (mkF m 17 #[vI p0, vI p1, vI p2, vI p3, vI p4, vI (4 : Int32), vR b67, vJ (0 : Int64), .second, .unset, .unset, .unset] [])) _
      refine XS.iload X67.here hx rfl (hb hby at_17) rfl ?_
      show Steps p.tables e below (T67.setTop (mkF m 19 #[vI p0, vI p1, vI p2, vI p3, vI p4, vI (4 : Int32), vR b67, vJ (0 : Int64), .second, .unset, .unset, .unset] [(.int (4 : Int32))])) _
      refine XS.ifNo X67.here hx rfl (hb hby at_19) rfl ((if0 _ _).trans (tlt (by decide : (0 : Int32) < (4 : Int32))).2.2.2) ?_
      show Steps p.tables e below (T67.setTop (mkF m 22 #[vI p0, vI p1, vI p2, vI p3, vI p4, vI (4 : Int32), vR b67, vJ (0 : Int64), .second, .unset, .unset, .unset] [])) _
      refine XS.aload X67.here hx rfl (hb hby at_22) rfl rfl ?_
      show Steps p.tables e below (T67.setTop (mkF m 24 #[vI p0, vI p1, vI p2, vI p3, vI p4, vI (4 : Int32), vR b67, vJ (0 : Int64), .second, .unset, .unset, .unset] [(.ref b67)])) _
      refine XS.iconst X67.here hx rfl (hb hby at_24) ?_
      show Steps p.tables e below (T67.setTop (mkF m 25 #[vI p0, vI p1, vI p2, vI p3, vI p4, vI (4 : Int32), vR b67, vJ (0 : Int64), .second, .unset, .unset, .unset] [(.int (0 : Int32)), (.ref b67)])) _
      refine XS.iloadN X67.here hx rfl (hb hby at_25) rfl ?_
      show Steps p.tables e below (T67.setTop (mkF m 26 #[vI p0, vI p1, vI p2, vI p3, vI p4, vI (4 : Int32), vR b67, vJ (0 : Int64), .second, .unset, .unset, .unset] [(.int p1), (.int (0 : Int32)), (.ref b67)])) _
      exact k)
    obtain ⟨cl71, Ar71, q71, S71, M71, H71, G71⟩ := id av67
    have in71 : ¬ ((0 : Int32) < 0 ∨ cl71.slots.size ≤ ((0 : Int32)).toNatClampNeg) := inb_of S71 ⟨by decide, by decide⟩
    obtain ⟨T71, h71, X71, e71, W71, st71⟩ := stI X67 hx hZ e67 Ar71 (j := (0 : Int32)) in71 (g := (mkF m 26 #[vI p0, vI p1, vI p2, vI p3, vI p4, vI (4 : Int32), vR b67, vJ (0 : Int64), .second, .unset, .unset, .unset] [(.int p1), (.int (0 : Int32)), (.ref b67)])) rfl rfl (hb hby at_26)
    have pre71 : Go p.tables e below S0 T71 (mkF m 27 #[vI p0, vI p1, vI p2, vI p3, vI p4, vI (4 : Int32), vR b67, vJ (0 : Int64), .second, .unset, .unset, .unset] []) := fun t k => pre70 t (st71 t k)
    have N71 := Fr.snoc X71 N0 bo67
    have av71 : Arv Z h71 b67 k67 .int (4 : Int32) [(.int p1), (.int (0 : Int32)), (.int (0 : Int32)), (.int (0 : Int32))] (.int (0 : Int32)) := Arv.set Ar71 q71 S71 M71 H71 G71 rfl W71 0 rfl (Nat.le_of_ble_eq_true rfl)
    have zz73 : n0 ≤ h71.size := Nat.le_trans zz69 (Keep.of_wr W71).1
    have pre74 : Go p.tables e below S0 T71 (mkF m 44 #[vI p0, vI p1, vI p2, vI p3, vI p4, vI (4 : Int32), vR b67, vJ ((0 : Int64) + (p1.toInt64)), .second, .unset, .unset, .unset] [(.int p2), (.int (1 : Int32)), (.ref b67)]) := fun t k => pre71 t (by
      refine XS.lload X71.here hx rfl (hb hby at_27) rfl ?_
      show Steps p.tables e below (T71.setTop (mkF m 29 #[vI p0, vI p1, vI p2, vI p3, vI p4, vI (4 : Int32), vR b67, vJ (0 : Int64), .second, .unset, .unset, .unset] [(.long (0 : Int64))])) _
      refine XS.iloadN X71.here hx rfl (hb hby at_29) rfl ?_
      show Steps p.tables e below (T71.setTop (mkF m 30 #[vI p0, vI p1, vI p2, vI p3, vI p4, vI (4 : Int32), vR b67, vJ (0 : Int64), .second, .unset, .unset, .unset] [(.int p1), (.long (0 : Int64))])) _
      refine XS.i2l X71.here hx rfl (hb hby at_30) rfl ?_
      show Steps p.tables e below (T71.setTop (mkF m 31 #[vI p0, vI p1, vI p2, vI p3, vI p4, vI (4 : Int32), vR b67, vJ (0 : Int64), .second, .unset, .unset, .unset] [(.long (p1.toInt64)), (.long (0 : Int64))])) _
      refine XS.ladd X71.here hx rfl (hb hby at_31) rfl ?_
      show Steps p.tables e below (T71.setTop (mkF m 32 #[vI p0, vI p1, vI p2, vI p3, vI p4, vI (4 : Int32), vR b67, vJ (0 : Int64), .second, .unset, .unset, .unset] [(.long ((0 : Int64) + (p1.toInt64)))])) _
      refine XS.lstore X71.here hx rfl (hb hby at_32) rfl (l' := #[vI p0, vI p1, vI p2, vI p3, vI p4, vI (4 : Int32), vR b67, vJ ((0 : Int64) + (p1.toInt64)), .second, .unset, .unset, .unset]) rfl ?_
      show Steps p.tables e below (T71.setTop (mkF m 34 #[vI p0, vI p1, vI p2, vI p3, vI p4, vI (4 : Int32), vR b67, vJ ((0 : Int64) + (p1.toInt64)), .second, .unset, .unset, .unset] [])) _
      refine XS.iload X71.here hx rfl (hb hby at_34) rfl ?_
      show Steps p.tables e below (T71.setTop (mkF m 36 #[vI p0, vI p1, vI p2, vI p3, vI p4, vI (4 : Int32), vR b67, vJ ((0 : Int64) + (p1.toInt64)), .second, .unset, .unset, .unset] [(.int (4 : Int32))])) _
      refine XS.iconst X71.here hx rfl (hb hby at_36) ?_
      show Steps p.tables e below (T71.setTop (mkF m 37 #[vI p0, vI p1, vI p2, vI p3, vI p4, vI (4 : Int32), vR b67, vJ ((0 : Int64) + (p1.toInt64)), .second, .unset, .unset, .unset] [(.int (1 : Int32)), (.int (4 : Int32))])) _
      refine XS.icmpNo X71.here hx rfl (hb hby at_37) rfl (tlt (by decide : (1 : Int32) < (4 : Int32))).2.2.2 ?_
      show Steps p.tables e below (T71.setTop (mkF m 40 #[vI p0, vI p1, vI p2, vI p3, vI p4, vI (4 : Int32), vR b67, vJ ((0 : Int64) + (p1.toInt64)), .second, .unset, .unset, .unset] [])) _
      refine XS.aload X71.here hx rfl (hb hby at_40) rfl rfl ?_
      show Steps p.tables e below (T71.setTop (mkF m 42 #[vI p0, vI p1, vI p2, vI p3, vI p4, vI (4 : Int32), vR b67, vJ ((0 : Int64) + (p1.toInt64)), .second, .unset, .unset, .unset] [(.ref b67)])) _
      refine XS.iconst X71.here hx rfl (hb hby at_42) ?_
      show Steps p.tables e below (T71.setTop (mkF m 43 #[vI p0, vI p1, vI p2, vI p3, vI p4, vI (4 : Int32), vR b67, vJ ((0 : Int64) + (p1.toInt64)), .second, .unset, .unset, .unset] [(.int (1 : Int32)), (.ref b67)])) _
      refine XS.iloadN X71.here hx rfl (hb hby at_43) rfl ?_
      show Steps p.tables e below (T71.setTop (mkF m 44 #[vI p0, vI p1, vI p2, vI p3, vI p4, vI (4 : Int32), vR b67, vJ ((0 : Int64) + (p1.toInt64)), .second, .unset, .unset, .unset] [(.int p2), (.int (1 : Int32)), (.ref b67)])) _
      exact k)
    obtain ⟨cl75, Ar75, q75, S75, M75, H75, G75⟩ := id av71
    have in75 : ¬ ((1 : Int32) < 0 ∨ cl75.slots.size ≤ ((1 : Int32)).toNatClampNeg) := inb_of S75 ⟨by decide, by decide⟩
    obtain ⟨T75, h75, X75, e75, W75, st75⟩ := stI X71 hx hZ e71 Ar75 (j := (1 : Int32)) in75 (g := (mkF m 44 #[vI p0, vI p1, vI p2, vI p3, vI p4, vI (4 : Int32), vR b67, vJ ((0 : Int64) + (p1.toInt64)), .second, .unset, .unset, .unset] [(.int p2), (.int (1 : Int32)), (.ref b67)])) rfl rfl (hb hby at_44)
    have pre75 : Go p.tables e below S0 T75 (mkF m 45 #[vI p0, vI p1, vI p2, vI p3, vI p4, vI (4 : Int32), vR b67, vJ ((0 : Int64) + (p1.toInt64)), .second, .unset, .unset, .unset] []) := fun t k => pre74 t (st75 t k)
    have N75 := Fr.snoc X75 N71 bo67
    have av75 : Arv Z h75 b67 k67 .int (4 : Int32) [(.int p1), (.int p2), (.int (0 : Int32)), (.int (0 : Int32))] (.int (0 : Int32)) := Arv.set Ar75 q75 S75 M75 H75 G75 rfl W75 1 rfl (Nat.le_of_ble_eq_true rfl)
    have zz77 : n0 ≤ h75.size := Nat.le_trans zz73 (Keep.of_wr W75).1
    have pre78 : Go p.tables e below S0 T75 (mkF m 62 #[vI p0, vI p1, vI p2, vI p3, vI p4, vI (4 : Int32), vR b67, vJ (((0 : Int64) + (p1.toInt64)) + (p2.toInt64)), .second, .unset, .unset, .unset] [(.int p3), (.int (2 : Int32)), (.ref b67)]) := fun t k => pre75 t (by
      refine XS.lload X75.here hx rfl (hb hby at_45) rfl ?_
      show Steps p.tables e below (T75.setTop (mkF m 47 #[vI p0, vI p1, vI p2, vI p3, vI p4, vI (4 : Int32), vR b67, vJ ((0 : Int64) + (p1.toInt64)), .second, .unset, .unset, .unset] [(.long ((0 : Int64) + (p1.toInt64)))])) _
      refine XS.iloadN X75.here hx rfl (hb hby at_47) rfl ?_
      show Steps p.tables e below (T75.setTop (mkF m 48 #[vI p0, vI p1, vI p2, vI p3, vI p4, vI (4 : Int32), vR b67, vJ ((0 : Int64) + (p1.toInt64)), .second, .unset, .unset, .unset] [(.int p2), (.long ((0 : Int64) + (p1.toInt64)))])) _
      refine XS.i2l X75.here hx rfl (hb hby at_48) rfl ?_
      show Steps p.tables e below (T75.setTop (mkF m 49 #[vI p0, vI p1, vI p2, vI p3, vI p4, vI (4 : Int32), vR b67, vJ ((0 : Int64) + (p1.toInt64)), .second, .unset, .unset, .unset] [(.long (p2.toInt64)), (.long ((0 : Int64) + (p1.toInt64)))])) _
      refine XS.ladd X75.here hx rfl (hb hby at_49) rfl ?_
      show Steps p.tables e below (T75.setTop (mkF m 50 #[vI p0, vI p1, vI p2, vI p3, vI p4, vI (4 : Int32), vR b67, vJ ((0 : Int64) + (p1.toInt64)), .second, .unset, .unset, .unset] [(.long (((0 : Int64) + (p1.toInt64)) + (p2.toInt64)))])) _
      refine XS.lstore X75.here hx rfl (hb hby at_50) rfl (l' := #[vI p0, vI p1, vI p2, vI p3, vI p4, vI (4 : Int32), vR b67, vJ (((0 : Int64) + (p1.toInt64)) + (p2.toInt64)), .second, .unset, .unset, .unset]) rfl ?_
      show Steps p.tables e below (T75.setTop (mkF m 52 #[vI p0, vI p1, vI p2, vI p3, vI p4, vI (4 : Int32), vR b67, vJ (((0 : Int64) + (p1.toInt64)) + (p2.toInt64)), .second, .unset, .unset, .unset] [])) _
      refine XS.iload X75.here hx rfl (hb hby at_52) rfl ?_
      show Steps p.tables e below (T75.setTop (mkF m 54 #[vI p0, vI p1, vI p2, vI p3, vI p4, vI (4 : Int32), vR b67, vJ (((0 : Int64) + (p1.toInt64)) + (p2.toInt64)), .second, .unset, .unset, .unset] [(.int (4 : Int32))])) _
      refine XS.iconst X75.here hx rfl (hb hby at_54) ?_
      show Steps p.tables e below (T75.setTop (mkF m 55 #[vI p0, vI p1, vI p2, vI p3, vI p4, vI (4 : Int32), vR b67, vJ (((0 : Int64) + (p1.toInt64)) + (p2.toInt64)), .second, .unset, .unset, .unset] [(.int (2 : Int32)), (.int (4 : Int32))])) _
      refine XS.icmpNo X75.here hx rfl (hb hby at_55) rfl (tlt (by decide : (2 : Int32) < (4 : Int32))).2.2.2 ?_
      show Steps p.tables e below (T75.setTop (mkF m 58 #[vI p0, vI p1, vI p2, vI p3, vI p4, vI (4 : Int32), vR b67, vJ (((0 : Int64) + (p1.toInt64)) + (p2.toInt64)), .second, .unset, .unset, .unset] [])) _
      refine XS.aload X75.here hx rfl (hb hby at_58) rfl rfl ?_
      show Steps p.tables e below (T75.setTop (mkF m 60 #[vI p0, vI p1, vI p2, vI p3, vI p4, vI (4 : Int32), vR b67, vJ (((0 : Int64) + (p1.toInt64)) + (p2.toInt64)), .second, .unset, .unset, .unset] [(.ref b67)])) _
      refine XS.iconst X75.here hx rfl (hb hby at_60) ?_
      show Steps p.tables e below (T75.setTop (mkF m 61 #[vI p0, vI p1, vI p2, vI p3, vI p4, vI (4 : Int32), vR b67, vJ (((0 : Int64) + (p1.toInt64)) + (p2.toInt64)), .second, .unset, .unset, .unset] [(.int (2 : Int32)), (.ref b67)])) _
      refine XS.iloadN X75.here hx rfl (hb hby at_61) rfl ?_
      show Steps p.tables e below (T75.setTop (mkF m 62 #[vI p0, vI p1, vI p2, vI p3, vI p4, vI (4 : Int32), vR b67, vJ (((0 : Int64) + (p1.toInt64)) + (p2.toInt64)), .second, .unset, .unset, .unset] [(.int p3), (.int (2 : Int32)), (.ref b67)])) _
      exact k)
    obtain ⟨cl79, Ar79, q79, S79, M79, H79, G79⟩ := id av75
    have in79 : ¬ ((2 : Int32) < 0 ∨ cl79.slots.size ≤ ((2 : Int32)).toNatClampNeg) := inb_of S79 ⟨by decide, by decide⟩
    obtain ⟨T79, h79, X79, e79, W79, st79⟩ := stI X75 hx hZ e75 Ar79 (j := (2 : Int32)) in79 (g := (mkF m 62 #[vI p0, vI p1, vI p2, vI p3, vI p4, vI (4 : Int32), vR b67, vJ (((0 : Int64) + (p1.toInt64)) + (p2.toInt64)), .second, .unset, .unset, .unset] [(.int p3), (.int (2 : Int32)), (.ref b67)])) rfl rfl (hb hby at_62)
    have pre79 : Go p.tables e below S0 T79 (mkF m 63 #[vI p0, vI p1, vI p2, vI p3, vI p4, vI (4 : Int32), vR b67, vJ (((0 : Int64) + (p1.toInt64)) + (p2.toInt64)), .second, .unset, .unset, .unset] []) := fun t k => pre78 t (st79 t k)
    have N79 := Fr.snoc X79 N75 bo67
    have av79 : Arv Z h79 b67 k67 .int (4 : Int32) [(.int p1), (.int p2), (.int p3), (.int (0 : Int32))] (.int (0 : Int32)) := Arv.set Ar79 q79 S79 M79 H79 G79 rfl W79 2 rfl (Nat.le_of_ble_eq_true rfl)
    have zz81 : n0 ≤ h79.size := Nat.le_trans zz77 (Keep.of_wr W79).1
    have pre82 : Go p.tables e below S0 T79 (mkF m 81 #[vI p0, vI p1, vI p2, vI p3, vI p4, vI (4 : Int32), vR b67, vJ ((((0 : Int64) + (p1.toInt64)) + (p2.toInt64)) + (p3.toInt64)), .second, .unset, .unset, .unset] [(.int p4), (.int (3 : Int32)), (.ref b67)]) := fun t k => pre79 t (by
      refine XS.lload X79.here hx rfl (hb hby at_63) rfl ?_
      show Steps p.tables e below (T79.setTop (mkF m 65 #[vI p0, vI p1, vI p2, vI p3, vI p4, vI (4 : Int32), vR b67, vJ (((0 : Int64) + (p1.toInt64)) + (p2.toInt64)), .second, .unset, .unset, .unset] [(.long (((0 : Int64) + (p1.toInt64)) + (p2.toInt64)))])) _
      refine XS.iloadN X79.here hx rfl (hb hby at_65) rfl ?_
      show Steps p.tables e below (T79.setTop (mkF m 66 #[vI p0, vI p1, vI p2, vI p3, vI p4, vI (4 : Int32), vR b67, vJ (((0 : Int64) + (p1.toInt64)) + (p2.toInt64)), .second, .unset, .unset, .unset] [(.int p3), (.long (((0 : Int64) + (p1.toInt64)) + (p2.toInt64)))])) _
      refine XS.i2l X79.here hx rfl (hb hby at_66) rfl ?_
      show Steps p.tables e below (T79.setTop (mkF m 67 #[vI p0, vI p1, vI p2, vI p3, vI p4, vI (4 : Int32), vR b67, vJ (((0 : Int64) + (p1.toInt64)) + (p2.toInt64)), .second, .unset, .unset, .unset] [(.long (p3.toInt64)), (.long (((0 : Int64) + (p1.toInt64)) + (p2.toInt64)))])) _
      refine XS.ladd X79.here hx rfl (hb hby at_67) rfl ?_
      show Steps p.tables e below (T79.setTop (mkF m 68 #[vI p0, vI p1, vI p2, vI p3, vI p4, vI (4 : Int32), vR b67, vJ (((0 : Int64) + (p1.toInt64)) + (p2.toInt64)), .second, .unset, .unset, .unset] [(.long ((((0 : Int64) + (p1.toInt64)) + (p2.toInt64)) + (p3.toInt64)))])) _
      refine XS.lstore X79.here hx rfl (hb hby at_68) rfl (l' := #[vI p0, vI p1, vI p2, vI p3, vI p4, vI (4 : Int32), vR b67, vJ ((((0 : Int64) + (p1.toInt64)) + (p2.toInt64)) + (p3.toInt64)), .second, .unset, .unset, .unset]) rfl ?_
      show Steps p.tables e below (T79.setTop (mkF m 70 #[vI p0, vI p1, vI p2, vI p3, vI p4, vI (4 : Int32), vR b67, vJ ((((0 : Int64) + (p1.toInt64)) + (p2.toInt64)) + (p3.toInt64)), .second, .unset, .unset, .unset] [])) _
      refine XS.iload X79.here hx rfl (hb hby at_70) rfl ?_
      show Steps p.tables e below (T79.setTop (mkF m 72 #[vI p0, vI p1, vI p2, vI p3, vI p4, vI (4 : Int32), vR b67, vJ ((((0 : Int64) + (p1.toInt64)) + (p2.toInt64)) + (p3.toInt64)), .second, .unset, .unset, .unset] [(.int (4 : Int32))])) _
      refine XS.iconst X79.here hx rfl (hb hby at_72) ?_
      show Steps p.tables e below (T79.setTop (mkF m 73 #[vI p0, vI p1, vI p2, vI p3, vI p4, vI (4 : Int32), vR b67, vJ ((((0 : Int64) + (p1.toInt64)) + (p2.toInt64)) + (p3.toInt64)), .second, .unset, .unset, .unset] [(.int (3 : Int32)), (.int (4 : Int32))])) _
      refine XS.icmpNo X79.here hx rfl (hb hby at_73) rfl (tlt (by decide : (3 : Int32) < (4 : Int32))).2.2.2 ?_
      show Steps p.tables e below (T79.setTop (mkF m 76 #[vI p0, vI p1, vI p2, vI p3, vI p4, vI (4 : Int32), vR b67, vJ ((((0 : Int64) + (p1.toInt64)) + (p2.toInt64)) + (p3.toInt64)), .second, .unset, .unset, .unset] [])) _
      refine XS.aload X79.here hx rfl (hb hby at_76) rfl rfl ?_
      show Steps p.tables e below (T79.setTop (mkF m 78 #[vI p0, vI p1, vI p2, vI p3, vI p4, vI (4 : Int32), vR b67, vJ ((((0 : Int64) + (p1.toInt64)) + (p2.toInt64)) + (p3.toInt64)), .second, .unset, .unset, .unset] [(.ref b67)])) _
      refine XS.iconst X79.here hx rfl (hb hby at_78) ?_
      show Steps p.tables e below (T79.setTop (mkF m 79 #[vI p0, vI p1, vI p2, vI p3, vI p4, vI (4 : Int32), vR b67, vJ ((((0 : Int64) + (p1.toInt64)) + (p2.toInt64)) + (p3.toInt64)), .second, .unset, .unset, .unset] [(.int (3 : Int32)), (.ref b67)])) _
      refine XS.iload X79.here hx rfl (hb hby at_79) rfl ?_
      show Steps p.tables e below (T79.setTop (mkF m 81 #[vI p0, vI p1, vI p2, vI p3, vI p4, vI (4 : Int32), vR b67, vJ ((((0 : Int64) + (p1.toInt64)) + (p2.toInt64)) + (p3.toInt64)), .second, .unset, .unset, .unset] [(.int p4), (.int (3 : Int32)), (.ref b67)])) _
      exact k)
    obtain ⟨cl83, Ar83, q83, S83, M83, H83, G83⟩ := id av79
    have in83 : ¬ ((3 : Int32) < 0 ∨ cl83.slots.size ≤ ((3 : Int32)).toNatClampNeg) := inb_of S83 ⟨by decide, by decide⟩
    obtain ⟨T83, h83, X83, e83, W83, st83⟩ := stI X79 hx hZ e79 Ar83 (j := (3 : Int32)) in83 (g := (mkF m 81 #[vI p0, vI p1, vI p2, vI p3, vI p4, vI (4 : Int32), vR b67, vJ ((((0 : Int64) + (p1.toInt64)) + (p2.toInt64)) + (p3.toInt64)), .second, .unset, .unset, .unset] [(.int p4), (.int (3 : Int32)), (.ref b67)])) rfl rfl (hb hby at_81)
    have pre83 : Go p.tables e below S0 T83 (mkF m 82 #[vI p0, vI p1, vI p2, vI p3, vI p4, vI (4 : Int32), vR b67, vJ ((((0 : Int64) + (p1.toInt64)) + (p2.toInt64)) + (p3.toInt64)), .second, .unset, .unset, .unset] []) := fun t k => pre82 t (st83 t k)
    have N83 := Fr.snoc X83 N79 bo67
    have av83 : Arv Z h83 b67 k67 .int (4 : Int32) [(.int p1), (.int p2), (.int p3), (.int p4)] (.int (0 : Int32)) := Arv.set Ar83 q83 S83 M83 H83 G83 rfl W83 3 rfl (Nat.le_of_ble_eq_true rfl)
    have zz85 : n0 ≤ h83.size := Nat.le_trans zz81 (Keep.of_wr W83).1
    have pre86 : Go p.tables e below S0 T83 (mkF m 92 #[vI p0, vI p1, vI p2, vI p3, vI p4, vI (4 : Int32), vR b67, vJ (((((0 : Int64) + (p1.toInt64)) + (p2.toInt64)) + (p3.toInt64)) + (p4.toInt64)), .second, .unset, .unset, .unset] [(.ref b67)]) := fun t k => pre83 t (by
      refine XS.lload X83.here hx rfl (hb hby at_82) rfl ?_
      show Steps p.tables e below (T83.setTop (mkF m 84 #[vI p0, vI p1, vI p2, vI p3, vI p4, vI (4 : Int32), vR b67, vJ ((((0 : Int64) + (p1.toInt64)) + (p2.toInt64)) + (p3.toInt64)), .second, .unset, .unset, .unset] [(.long ((((0 : Int64) + (p1.toInt64)) + (p2.toInt64)) + (p3.toInt64)))])) _
      refine XS.iload X83.here hx rfl (hb hby at_84) rfl ?_
      show Steps p.tables e below (T83.setTop (mkF m 86 #[vI p0, vI p1, vI p2, vI p3, vI p4, vI (4 : Int32), vR b67, vJ ((((0 : Int64) + (p1.toInt64)) + (p2.toInt64)) + (p3.toInt64)), .second, .unset, .unset, .unset] [(.int p4), (.long ((((0 : Int64) + (p1.toInt64)) + (p2.toInt64)) + (p3.toInt64)))])) _
      refine XS.i2l X83.here hx rfl (hb hby at_86) rfl ?_
      show Steps p.tables e below (T83.setTop (mkF m 87 #[vI p0, vI p1, vI p2, vI p3, vI p4, vI (4 : Int32), vR b67, vJ ((((0 : Int64) + (p1.toInt64)) + (p2.toInt64)) + (p3.toInt64)), .second, .unset, .unset, .unset] [(.long (p4.toInt64)), (.long ((((0 : Int64) + (p1.toInt64)) + (p2.toInt64)) + (p3.toInt64)))])) _
      refine XS.ladd X83.here hx rfl (hb hby at_87) rfl ?_
      show Steps p.tables e below (T83.setTop (mkF m 88 #[vI p0, vI p1, vI p2, vI p3, vI p4, vI (4 : Int32), vR b67, vJ ((((0 : Int64) + (p1.toInt64)) + (p2.toInt64)) + (p3.toInt64)), .second, .unset, .unset, .unset] [(.long (((((0 : Int64) + (p1.toInt64)) + (p2.toInt64)) + (p3.toInt64)) + (p4.toInt64)))])) _
      refine XS.lstore X83.here hx rfl (hb hby at_88) rfl (l' := #[vI p0, vI p1, vI p2, vI p3, vI p4, vI (4 : Int32), vR b67, vJ (((((0 : Int64) + (p1.toInt64)) + (p2.toInt64)) + (p3.toInt64)) + (p4.toInt64)), .second, .unset, .unset, .unset]) rfl ?_
      show Steps p.tables e below (T83.setTop (mkF m 90 #[vI p0, vI p1, vI p2, vI p3, vI p4, vI (4 : Int32), vR b67, vJ (((((0 : Int64) + (p1.toInt64)) + (p2.toInt64)) + (p3.toInt64)) + (p4.toInt64)), .second, .unset, .unset, .unset] [])) _
      refine XS.aload X83.here hx rfl (hb hby at_90) rfl rfl ?_
      show Steps p.tables e below (T83.setTop (mkF m 92 #[vI p0, vI p1, vI p2, vI p3, vI p4, vI (4 : Int32), vR b67, vJ (((((0 : Int64) + (p1.toInt64)) + (p2.toInt64)) + (p3.toInt64)) + (p4.toInt64)), .second, .unset, .unset, .unset] [(.ref b67)])) _
      exact k)
    obtain ⟨_, _, ⟨T87, L87, k87, n87⟩, -, X87, ⟨Lc87, hQ87, l87, y87, z87⟩, st87⟩ := Jvm.LawKit.callS X83 hx (y := (⟨"com/example/motiflow/motiflow/Tally", "explained", "([I)J"⟩ : MethodName)) hown (mvT hZ (hw _ (List.mem_of_getElem? (i := 2) rfl))) (mvT hZ (hw _ (List.mem_of_getElem? (i := 3) rfl))) (mvT hZ (hw _ (List.mem_of_getElem? (i := 4) rfl))) (mvT hZ (hw _ (List.mem_of_getElem? (i := 5) rfl))) (by decide) (backOf (W := 0) (rm1_4 l Z A0 hw [] b67 k67 p1 p2 p3 p4 h83 n0 zz85 av83) hZ (hw _ (List.mem_of_getElem? (i := 5) rfl)) (hw _ (List.mem_of_getElem? (i := 4) rfl)) (by decide) (by decide)) (g := (mkF m 92 #[vI p0, vI p1, vI p2, vI p3, vI p4, vI (4 : Int32), vR b67, vJ (((((0 : Int64) + (p1.toInt64)) + (p2.toInt64)) + (p3.toInt64)) + (p4.toInt64)), .second, .unset, .unset, .unset] [(.ref b67)])) rfl (by rw [hml]; rfl) (argsL := [(.ref b67)]) (rest := []) (lenOf pd_0 rfl) rfl (by show 2 * 0 + _ ≤ _; exact Nat.le_of_eq rfl) (hb hby at_92) (fun _ _ => ⟨rfl, e83, (by decide : 1 + 0 ≤ _), (by decide : 4 + 0 ≤ _)⟩)
    dsimp only [Pt.U, Pt.locs, Pt.cells, Pt.slots] at X87 l87 y87 z87 st87 hQ87
    subst l87 y87 z87
    obtain ⟨rfl, Nq87, eq87⟩ := hQ87
    have N87 := Fr.app N83 Nq87
    have pre87 : Go p.tables e below S0 T87 (mkF m 95 #[vI p0, vI p1, vI p2, vI p3, vI p4, vI (4 : Int32), vR b67, vJ (((((0 : Int64) + (p1.toInt64)) + (p2.toInt64)) + (p3.toInt64)) + (p4.toInt64)), .second, .unset, .unset, .unset] [(.long (((((0 : Int64) + (p1.toInt64)) + (p2.toInt64)) + (p3.toInt64)) + (p4.toInt64)))]) := fun t k => pre86 t (st87 t k)
    have pre88 : Go p.tables e below S0 T87 (mkF m 108 #[vI p0, vI p1, vI p2, vI p3, vI p4, vI (4 : Int32), vR b67, vJ (((((0 : Int64) + (p1.toInt64)) + (p2.toInt64)) + (p3.toInt64)) + (p4.toInt64)), .second, vJ (((((0 : Int64) + (p1.toInt64)) + (p2.toInt64)) + (p3.toInt64)) + (p4.toInt64)), .second, vI (1 : Int32)] [(.int (0 : Int32)), (.ref b67)]) := fun t k => pre87 t (by
      refine XS.lstore X87.here hx rfl (hb hby at_95) rfl (l' := #[vI p0, vI p1, vI p2, vI p3, vI p4, vI (4 : Int32), vR b67, vJ (((((0 : Int64) + (p1.toInt64)) + (p2.toInt64)) + (p3.toInt64)) + (p4.toInt64)), .second, vJ (((((0 : Int64) + (p1.toInt64)) + (p2.toInt64)) + (p3.toInt64)) + (p4.toInt64)), .second, .unset]) rfl ?_
      show Steps p.tables e below (T87.setTop (mkF m 97 #[vI p0, vI p1, vI p2, vI p3, vI p4, vI (4 : Int32), vR b67, vJ (((((0 : Int64) + (p1.toInt64)) + (p2.toInt64)) + (p3.toInt64)) + (p4.toInt64)), .second, vJ (((((0 : Int64) + (p1.toInt64)) + (p2.toInt64)) + (p3.toInt64)) + (p4.toInt64)), .second, .unset] [])) _
      refine XS.iconst X87.here hx rfl (hb hby at_97) ?_
      show Steps p.tables e below (T87.setTop (mkF m 98 #[vI p0, vI p1, vI p2, vI p3, vI p4, vI (4 : Int32), vR b67, vJ (((((0 : Int64) + (p1.toInt64)) + (p2.toInt64)) + (p3.toInt64)) + (p4.toInt64)), .second, vJ (((((0 : Int64) + (p1.toInt64)) + (p2.toInt64)) + (p3.toInt64)) + (p4.toInt64)), .second, .unset] [(.int (1 : Int32))])) _
      refine XS.istore X87.here hx rfl (hb hby at_98) rfl (l' := #[vI p0, vI p1, vI p2, vI p3, vI p4, vI (4 : Int32), vR b67, vJ (((((0 : Int64) + (p1.toInt64)) + (p2.toInt64)) + (p3.toInt64)) + (p4.toInt64)), .second, vJ (((((0 : Int64) + (p1.toInt64)) + (p2.toInt64)) + (p3.toInt64)) + (p4.toInt64)), .second, vI (1 : Int32)]) rfl ?_
      show Steps p.tables e below (T87.setTop (mkF m 100 #[vI p0, vI p1, vI p2, vI p3, vI p4, vI (4 : Int32), vR b67, vJ (((((0 : Int64) + (p1.toInt64)) + (p2.toInt64)) + (p3.toInt64)) + (p4.toInt64)), .second, vJ (((((0 : Int64) + (p1.toInt64)) + (p2.toInt64)) + (p3.toInt64)) + (p4.toInt64)), .second, vI (1 : Int32)] [])) _
      refine XS.iload X87.here hx rfl (hb hby at_100) rfl ?_
      show Steps p.tables e below (T87.setTop (mkF m 102 #[vI p0, vI p1, vI p2, vI p3, vI p4, vI (4 : Int32), vR b67, vJ (((((0 : Int64) + (p1.toInt64)) + (p2.toInt64)) + (p3.toInt64)) + (p4.toInt64)), .second, vJ (((((0 : Int64) + (p1.toInt64)) + (p2.toInt64)) + (p3.toInt64)) + (p4.toInt64)), .second, vI (1 : Int32)] [(.int (4 : Int32))])) _
      refine XS.ifNo X87.here hx rfl (hb hby at_102) rfl ((if0 _ _).trans (tlt (by decide : (0 : Int32) < (4 : Int32))).2.2.2) ?_
      show Steps p.tables e below (T87.setTop (mkF m 105 #[vI p0, vI p1, vI p2, vI p3, vI p4, vI (4 : Int32), vR b67, vJ (((((0 : Int64) + (p1.toInt64)) + (p2.toInt64)) + (p3.toInt64)) + (p4.toInt64)), .second, vJ (((((0 : Int64) + (p1.toInt64)) + (p2.toInt64)) + (p3.toInt64)) + (p4.toInt64)), .second, vI (1 : Int32)] [])) _
      refine XS.aload X87.here hx rfl (hb hby at_105) rfl rfl ?_
      show Steps p.tables e below (T87.setTop (mkF m 107 #[vI p0, vI p1, vI p2, vI p3, vI p4, vI (4 : Int32), vR b67, vJ (((((0 : Int64) + (p1.toInt64)) + (p2.toInt64)) + (p3.toInt64)) + (p4.toInt64)), .second, vJ (((((0 : Int64) + (p1.toInt64)) + (p2.toInt64)) + (p3.toInt64)) + (p4.toInt64)), .second, vI (1 : Int32)] [(.ref b67)])) _
      refine XS.iconst X87.here hx rfl (hb hby at_107) ?_
      show Steps p.tables e below (T87.setTop (mkF m 108 #[vI p0, vI p1, vI p2, vI p3, vI p4, vI (4 : Int32), vR b67, vJ (((((0 : Int64) + (p1.toInt64)) + (p2.toInt64)) + (p3.toInt64)) + (p4.toInt64)), .second, vJ (((((0 : Int64) + (p1.toInt64)) + (p2.toInt64)) + (p3.toInt64)) + (p4.toInt64)), .second, vI (1 : Int32)] [(.int (0 : Int32)), (.ref b67)])) _
      exact k)
    obtain ⟨cl89, Ar89, q89, S89, M89, H89, G89⟩ := id av83
    have in89 : ¬ ((0 : Int32) < 0 ∨ cl89.slots.size ≤ ((0 : Int32)).toNatClampNeg) := inb_of S89 ⟨by decide, by decide⟩
    have at89 : cl89.slots[((0 : Int32)).toNatClampNeg]? = some (.int p1) := H89.at in89 rfl
    have pre90 : Go p.tables e below S0 T87 (mkF m 125 #[vI p0, vI p1, vI p2, vI p3, vI p4, vI (4 : Int32), vR b67, vJ (((((0 : Int64) + (p1.toInt64)) + (p2.toInt64)) + (p3.toInt64)) + (p4.toInt64)), .second, vJ (((((0 : Int64) + (p1.toInt64)) + (p2.toInt64)) + (p3.toInt64)) + (p4.toInt64)), .second, vI (1 : Int32)] [(.int (1 : Int32)), (.ref b67)]) := fun t k => pre88 t (by
      refine X87.iaload hx (j := (0 : Int32)) (v := (.int p1)) (by rw [eq87]; exact Ar89.1) (State.isArrayOf_alike hZ.alike Ar89.2.1) Ar89.2.2 in89 at89 (g := (mkF m 108 #[vI p0, vI p1, vI p2, vI p3, vI p4, vI (4 : Int32), vR b67, vJ (((((0 : Int64) + (p1.toInt64)) + (p2.toInt64)) + (p3.toInt64)) + (p4.toInt64)), .second, vJ (((((0 : Int64) + (p1.toInt64)) + (p2.toInt64)) + (p3.toInt64)) + (p4.toInt64)), .second, vI (1 : Int32)] [(.int (0 : Int32)), (.ref b67)])) rfl rfl (hb hby at_108) _ ?_
      show Steps p.tables e below (T87.setTop (mkF m 109 #[vI p0, vI p1, vI p2, vI p3, vI p4, vI (4 : Int32), vR b67, vJ (((((0 : Int64) + (p1.toInt64)) + (p2.toInt64)) + (p3.toInt64)) + (p4.toInt64)), .second, vJ (((((0 : Int64) + (p1.toInt64)) + (p2.toInt64)) + (p3.toInt64)) + (p4.toInt64)), .second, vI (1 : Int32)] [(.int p1)])) _
      refine XS.iloadN X87.here hx rfl (hb hby at_109) rfl ?_
      show Steps p.tables e below (T87.setTop (mkF m 110 #[vI p0, vI p1, vI p2, vI p3, vI p4, vI (4 : Int32), vR b67, vJ (((((0 : Int64) + (p1.toInt64)) + (p2.toInt64)) + (p3.toInt64)) + (p4.toInt64)), .second, vJ (((((0 : Int64) + (p1.toInt64)) + (p2.toInt64)) + (p3.toInt64)) + (p4.toInt64)), .second, vI (1 : Int32)] [(.int p1), (.int p1)])) _
      refine XS.icmpYes X87.here hx rfl (pc0 := 110) (pc' := 116) rfl (hb hby at_110) rfl (teq (rfl : p1 = p1)).1 (by decide) (by decide) ?_
      show Steps p.tables e below (T87.setTop (mkF m 116 #[vI p0, vI p1, vI p2, vI p3, vI p4, vI (4 : Int32), vR b67, vJ (((((0 : Int64) + (p1.toInt64)) + (p2.toInt64)) + (p3.toInt64)) + (p4.toInt64)), .second, vJ (((((0 : Int64) + (p1.toInt64)) + (p2.toInt64)) + (p3.toInt64)) + (p4.toInt64)), .second, vI (1 : Int32)] [])) _
      refine XS.iload X87.here hx rfl (hb hby at_116) rfl ?_
      show Steps p.tables e below (T87.setTop (mkF m 118 #[vI p0, vI p1, vI p2, vI p3, vI p4, vI (4 : Int32), vR b67, vJ (((((0 : Int64) + (p1.toInt64)) + (p2.toInt64)) + (p3.toInt64)) + (p4.toInt64)), .second, vJ (((((0 : Int64) + (p1.toInt64)) + (p2.toInt64)) + (p3.toInt64)) + (p4.toInt64)), .second, vI (1 : Int32)] [(.int (4 : Int32))])) _
      refine XS.iconst X87.here hx rfl (hb hby at_118) ?_
      show Steps p.tables e below (T87.setTop (mkF m 119 #[vI p0, vI p1, vI p2, vI p3, vI p4, vI (4 : Int32), vR b67, vJ (((((0 : Int64) + (p1.toInt64)) + (p2.toInt64)) + (p3.toInt64)) + (p4.toInt64)), .second, vJ (((((0 : Int64) + (p1.toInt64)) + (p2.toInt64)) + (p3.toInt64)) + (p4.toInt64)), .second, vI (1 : Int32)] [(.int (1 : Int32)), (.int (4 : Int32))])) _
      refine XS.icmpNo X87.here hx rfl (hb hby at_119) rfl (tlt (by decide : (1 : Int32) < (4 : Int32))).2.2.2 ?_
      show Steps p.tables e below (T87.setTop (mkF m 122 #[vI p0, vI p1, vI p2, vI p3, vI p4, vI (4 : Int32), vR b67, vJ (((((0 : Int64) + (p1.toInt64)) + (p2.toInt64)) + (p3.toInt64)) + (p4.toInt64)), .second, vJ (((((0 : Int64) + (p1.toInt64)) + (p2.toInt64)) + (p3.toInt64)) + (p4.toInt64)), .second, vI (1 : Int32)] [])) _
      refine XS.aload X87.here hx rfl (hb hby at_122) rfl rfl ?_
      show Steps p.tables e below (T87.setTop (mkF m 124 #[vI p0, vI p1, vI p2, vI p3, vI p4, vI (4 : Int32), vR b67, vJ (((((0 : Int64) + (p1.toInt64)) + (p2.toInt64)) + (p3.toInt64)) + (p4.toInt64)), .second, vJ (((((0 : Int64) + (p1.toInt64)) + (p2.toInt64)) + (p3.toInt64)) + (p4.toInt64)), .second, vI (1 : Int32)] [(.ref b67)])) _
      refine XS.iconst X87.here hx rfl (hb hby at_124) ?_
      show Steps p.tables e below (T87.setTop (mkF m 125 #[vI p0, vI p1, vI p2, vI p3, vI p4, vI (4 : Int32), vR b67, vJ (((((0 : Int64) + (p1.toInt64)) + (p2.toInt64)) + (p3.toInt64)) + (p4.toInt64)), .second, vJ (((((0 : Int64) + (p1.toInt64)) + (p2.toInt64)) + (p3.toInt64)) + (p4.toInt64)), .second, vI (1 : Int32)] [(.int (1 : Int32)), (.ref b67)])) _
      exact k)
    obtain ⟨cl91, Ar91, q91, S91, M91, H91, G91⟩ := id av83
    have in91 : ¬ ((1 : Int32) < 0 ∨ cl91.slots.size ≤ ((1 : Int32)).toNatClampNeg) := inb_of S91 ⟨by decide, by decide⟩
    have at91 : cl91.slots[((1 : Int32)).toNatClampNeg]? = some (.int p2) := H91.at in91 rfl
    have pre92 : Go p.tables e below S0 T87 (mkF m 142 #[vI p0, vI p1, vI p2, vI p3, vI p4, vI (4 : Int32), vR b67, vJ (((((0 : Int64) + (p1.toInt64)) + (p2.toInt64)) + (p3.toInt64)) + (p4.toInt64)), .second, vJ (((((0 : Int64) + (p1.toInt64)) + (p2.toInt64)) + (p3.toInt64)) + (p4.toInt64)), .second, vI (1 : Int32)] [(.int (2 : Int32)), (.ref b67)]) := fun t k => pre90 t (by
      refine X87.iaload hx (j := (1 : Int32)) (v := (.int p2)) (by rw [eq87]; exact Ar91.1) (State.isArrayOf_alike hZ.alike Ar91.2.1) Ar91.2.2 in91 at91 (g := (mkF m 125 #[vI p0, vI p1, vI p2, vI p3, vI p4, vI (4 : Int32), vR b67, vJ (((((0 : Int64) + (p1.toInt64)) + (p2.toInt64)) + (p3.toInt64)) + (p4.toInt64)), .second, vJ (((((0 : Int64) + (p1.toInt64)) + (p2.toInt64)) + (p3.toInt64)) + (p4.toInt64)), .second, vI (1 : Int32)] [(.int (1 : Int32)), (.ref b67)])) rfl rfl (hb hby at_125) _ ?_
      show Steps p.tables e below (T87.setTop (mkF m 126 #[vI p0, vI p1, vI p2, vI p3, vI p4, vI (4 : Int32), vR b67, vJ (((((0 : Int64) + (p1.toInt64)) + (p2.toInt64)) + (p3.toInt64)) + (p4.toInt64)), .second, vJ (((((0 : Int64) + (p1.toInt64)) + (p2.toInt64)) + (p3.toInt64)) + (p4.toInt64)), .second, vI (1 : Int32)] [(.int p2)])) _
      refine XS.iloadN X87.here hx rfl (hb hby at_126) rfl ?_
      show Steps p.tables e below (T87.setTop (mkF m 127 #[vI p0, vI p1, vI p2, vI p3, vI p4, vI (4 : Int32), vR b67, vJ (((((0 : Int64) + (p1.toInt64)) + (p2.toInt64)) + (p3.toInt64)) + (p4.toInt64)), .second, vJ (((((0 : Int64) + (p1.toInt64)) + (p2.toInt64)) + (p3.toInt64)) + (p4.toInt64)), .second, vI (1 : Int32)] [(.int p2), (.int p2)])) _
      refine XS.icmpYes X87.here hx rfl (pc0 := 127) (pc' := 133) rfl (hb hby at_127) rfl (teq (rfl : p2 = p2)).1 (by decide) (by decide) ?_
      show Steps p.tables e below (T87.setTop (mkF m 133 #[vI p0, vI p1, vI p2, vI p3, vI p4, vI (4 : Int32), vR b67, vJ (((((0 : Int64) + (p1.toInt64)) + (p2.toInt64)) + (p3.toInt64)) + (p4.toInt64)), .second, vJ (((((0 : Int64) + (p1.toInt64)) + (p2.toInt64)) + (p3.toInt64)) + (p4.toInt64)), .second, vI (1 : Int32)] [])) _
      refine XS.iload X87.here hx rfl (hb hby at_133) rfl ?_
      show Steps p.tables e below (T87.setTop (mkF m 135 #[vI p0, vI p1, vI p2, vI p3, vI p4, vI (4 : Int32), vR b67, vJ (((((0 : Int64) + (p1.toInt64)) + (p2.toInt64)) + (p3.toInt64)) + (p4.toInt64)), .second, vJ (((((0 : Int64) + (p1.toInt64)) + (p2.toInt64)) + (p3.toInt64)) + (p4.toInt64)), .second, vI (1 : Int32)] [(.int (4 : Int32))])) _
      refine XS.iconst X87.here hx rfl (hb hby at_135) ?_
      show Steps p.tables e below (T87.setTop (mkF m 136 #[vI p0, vI p1, vI p2, vI p3, vI p4, vI (4 : Int32), vR b67, vJ (((((0 : Int64) + (p1.toInt64)) + (p2.toInt64)) + (p3.toInt64)) + (p4.toInt64)), .second, vJ (((((0 : Int64) + (p1.toInt64)) + (p2.toInt64)) + (p3.toInt64)) + (p4.toInt64)), .second, vI (1 : Int32)] [(.int (2 : Int32)), (.int (4 : Int32))])) _
      refine XS.icmpNo X87.here hx rfl (hb hby at_136) rfl (tlt (by decide : (2 : Int32) < (4 : Int32))).2.2.2 ?_
      show Steps p.tables e below (T87.setTop (mkF m 139 #[vI p0, vI p1, vI p2, vI p3, vI p4, vI (4 : Int32), vR b67, vJ (((((0 : Int64) + (p1.toInt64)) + (p2.toInt64)) + (p3.toInt64)) + (p4.toInt64)), .second, vJ (((((0 : Int64) + (p1.toInt64)) + (p2.toInt64)) + (p3.toInt64)) + (p4.toInt64)), .second, vI (1 : Int32)] [])) _
      refine XS.aload X87.here hx rfl (hb hby at_139) rfl rfl ?_
      show Steps p.tables e below (T87.setTop (mkF m 141 #[vI p0, vI p1, vI p2, vI p3, vI p4, vI (4 : Int32), vR b67, vJ (((((0 : Int64) + (p1.toInt64)) + (p2.toInt64)) + (p3.toInt64)) + (p4.toInt64)), .second, vJ (((((0 : Int64) + (p1.toInt64)) + (p2.toInt64)) + (p3.toInt64)) + (p4.toInt64)), .second, vI (1 : Int32)] [(.ref b67)])) _
      refine XS.iconst X87.here hx rfl (hb hby at_141) ?_
      show Steps p.tables e below (T87.setTop (mkF m 142 #[vI p0, vI p1, vI p2, vI p3, vI p4, vI (4 : Int32), vR b67, vJ (((((0 : Int64) + (p1.toInt64)) + (p2.toInt64)) + (p3.toInt64)) + (p4.toInt64)), .second, vJ (((((0 : Int64) + (p1.toInt64)) + (p2.toInt64)) + (p3.toInt64)) + (p4.toInt64)), .second, vI (1 : Int32)] [(.int (2 : Int32)), (.ref b67)])) _
      exact k)
    obtain ⟨cl93, Ar93, q93, S93, M93, H93, G93⟩ := id av83
    have in93 : ¬ ((2 : Int32) < 0 ∨ cl93.slots.size ≤ ((2 : Int32)).toNatClampNeg) := inb_of S93 ⟨by decide, by decide⟩
    have at93 : cl93.slots[((2 : Int32)).toNatClampNeg]? = some (.int p3) := H93.at in93 rfl
    have pre94 : Go p.tables e below S0 T87 (mkF m 159 #[vI p0, vI p1, vI p2, vI p3, vI p4, vI (4 : Int32), vR b67, vJ (((((0 : Int64) + (p1.toInt64)) + (p2.toInt64)) + (p3.toInt64)) + (p4.toInt64)), .second, vJ (((((0 : Int64) + (p1.toInt64)) + (p2.toInt64)) + (p3.toInt64)) + (p4.toInt64)), .second, vI (1 : Int32)] [(.int (3 : Int32)), (.ref b67)]) := fun t k => pre92 t (by
      refine X87.iaload hx (j := (2 : Int32)) (v := (.int p3)) (by rw [eq87]; exact Ar93.1) (State.isArrayOf_alike hZ.alike Ar93.2.1) Ar93.2.2 in93 at93 (g := (mkF m 142 #[vI p0, vI p1, vI p2, vI p3, vI p4, vI (4 : Int32), vR b67, vJ (((((0 : Int64) + (p1.toInt64)) + (p2.toInt64)) + (p3.toInt64)) + (p4.toInt64)), .second, vJ (((((0 : Int64) + (p1.toInt64)) + (p2.toInt64)) + (p3.toInt64)) + (p4.toInt64)), .second, vI (1 : Int32)] [(.int (2 : Int32)), (.ref b67)])) rfl rfl (hb hby at_142) _ ?_
      show Steps p.tables e below (T87.setTop (mkF m 143 #[vI p0, vI p1, vI p2, vI p3, vI p4, vI (4 : Int32), vR b67, vJ (((((0 : Int64) + (p1.toInt64)) + (p2.toInt64)) + (p3.toInt64)) + (p4.toInt64)), .second, vJ (((((0 : Int64) + (p1.toInt64)) + (p2.toInt64)) + (p3.toInt64)) + (p4.toInt64)), .second, vI (1 : Int32)] [(.int p3)])) _
      refine XS.iloadN X87.here hx rfl (hb hby at_143) rfl ?_
      show Steps p.tables e below (T87.setTop (mkF m 144 #[vI p0, vI p1, vI p2, vI p3, vI p4, vI (4 : Int32), vR b67, vJ (((((0 : Int64) + (p1.toInt64)) + (p2.toInt64)) + (p3.toInt64)) + (p4.toInt64)), .second, vJ (((((0 : Int64) + (p1.toInt64)) + (p2.toInt64)) + (p3.toInt64)) + (p4.toInt64)), .second, vI (1 : Int32)] [(.int p3), (.int p3)])) _
      refine XS.icmpYes X87.here hx rfl (pc0 := 144) (pc' := 150) rfl (hb hby at_144) rfl (teq (rfl : p3 = p3)).1 (by decide) (by decide) ?_
      show Steps p.tables e below (T87.setTop (mkF m 150 #[vI p0, vI p1, vI p2, vI p3, vI p4, vI (4 : Int32), vR b67, vJ (((((0 : Int64) + (p1.toInt64)) + (p2.toInt64)) + (p3.toInt64)) + (p4.toInt64)), .second, vJ (((((0 : Int64) + (p1.toInt64)) + (p2.toInt64)) + (p3.toInt64)) + (p4.toInt64)), .second, vI (1 : Int32)] [])) _
      refine XS.iload X87.here hx rfl (hb hby at_150) rfl ?_
      show Steps p.tables e below (T87.setTop (mkF m 152 #[vI p0, vI p1, vI p2, vI p3, vI p4, vI (4 : Int32), vR b67, vJ (((((0 : Int64) + (p1.toInt64)) + (p2.toInt64)) + (p3.toInt64)) + (p4.toInt64)), .second, vJ (((((0 : Int64) + (p1.toInt64)) + (p2.toInt64)) + (p3.toInt64)) + (p4.toInt64)), .second, vI (1 : Int32)] [(.int (4 : Int32))])) _
      refine XS.iconst X87.here hx rfl (hb hby at_152) ?_
      show Steps p.tables e below (T87.setTop (mkF m 153 #[vI p0, vI p1, vI p2, vI p3, vI p4, vI (4 : Int32), vR b67, vJ (((((0 : Int64) + (p1.toInt64)) + (p2.toInt64)) + (p3.toInt64)) + (p4.toInt64)), .second, vJ (((((0 : Int64) + (p1.toInt64)) + (p2.toInt64)) + (p3.toInt64)) + (p4.toInt64)), .second, vI (1 : Int32)] [(.int (3 : Int32)), (.int (4 : Int32))])) _
      refine XS.icmpNo X87.here hx rfl (hb hby at_153) rfl (tlt (by decide : (3 : Int32) < (4 : Int32))).2.2.2 ?_
      show Steps p.tables e below (T87.setTop (mkF m 156 #[vI p0, vI p1, vI p2, vI p3, vI p4, vI (4 : Int32), vR b67, vJ (((((0 : Int64) + (p1.toInt64)) + (p2.toInt64)) + (p3.toInt64)) + (p4.toInt64)), .second, vJ (((((0 : Int64) + (p1.toInt64)) + (p2.toInt64)) + (p3.toInt64)) + (p4.toInt64)), .second, vI (1 : Int32)] [])) _
      refine XS.aload X87.here hx rfl (hb hby at_156) rfl rfl ?_
      show Steps p.tables e below (T87.setTop (mkF m 158 #[vI p0, vI p1, vI p2, vI p3, vI p4, vI (4 : Int32), vR b67, vJ (((((0 : Int64) + (p1.toInt64)) + (p2.toInt64)) + (p3.toInt64)) + (p4.toInt64)), .second, vJ (((((0 : Int64) + (p1.toInt64)) + (p2.toInt64)) + (p3.toInt64)) + (p4.toInt64)), .second, vI (1 : Int32)] [(.ref b67)])) _
      refine XS.iconst X87.here hx rfl (hb hby at_158) ?_
      show Steps p.tables e below (T87.setTop (mkF m 159 #[vI p0, vI p1, vI p2, vI p3, vI p4, vI (4 : Int32), vR b67, vJ (((((0 : Int64) + (p1.toInt64)) + (p2.toInt64)) + (p3.toInt64)) + (p4.toInt64)), .second, vJ (((((0 : Int64) + (p1.toInt64)) + (p2.toInt64)) + (p3.toInt64)) + (p4.toInt64)), .second, vI (1 : Int32)] [(.int (3 : Int32)), (.ref b67)])) _
      exact k)
    obtain ⟨cl95, Ar95, q95, S95, M95, H95, G95⟩ := id av83
    have in95 : ¬ ((3 : Int32) < 0 ∨ cl95.slots.size ≤ ((3 : Int32)).toNatClampNeg) := inb_of S95 ⟨by decide, by decide⟩
    have at95 : cl95.slots[((3 : Int32)).toNatClampNeg]? = some (.int p4) := H95.at in95 rfl
    have pre96 : Go p.tables e below S0 T87 (mkF m 186 #[vI p0, vI p1, vI p2, vI p3, vI p4, vI (4 : Int32), vR b67, vJ (((((0 : Int64) + (p1.toInt64)) + (p2.toInt64)) + (p3.toInt64)) + (p4.toInt64)), .second, vJ (((((0 : Int64) + (p1.toInt64)) + (p2.toInt64)) + (p3.toInt64)) + (p4.toInt64)), .second, vI (1 : Int32)] [(.int (1 : Int32))]) := fun t k => pre94 t (by
      refine X87.iaload hx (j := (3 : Int32)) (v := (.int p4)) (by rw [eq87]; exact Ar95.1) (State.isArrayOf_alike hZ.alike Ar95.2.1) Ar95.2.2 in95 at95 (g := (mkF m 159 #[vI p0, vI p1, vI p2, vI p3, vI p4, vI (4 : Int32), vR b67, vJ (((((0 : Int64) + (p1.toInt64)) + (p2.toInt64)) + (p3.toInt64)) + (p4.toInt64)), .second, vJ (((((0 : Int64) + (p1.toInt64)) + (p2.toInt64)) + (p3.toInt64)) + (p4.toInt64)), .second, vI (1 : Int32)] [(.int (3 : Int32)), (.ref b67)])) rfl rfl (hb hby at_159) _ ?_
      show Steps p.tables e below (T87.setTop (mkF m 160 #[vI p0, vI p1, vI p2, vI p3, vI p4, vI (4 : Int32), vR b67, vJ (((((0 : Int64) + (p1.toInt64)) + (p2.toInt64)) + (p3.toInt64)) + (p4.toInt64)), .second, vJ (((((0 : Int64) + (p1.toInt64)) + (p2.toInt64)) + (p3.toInt64)) + (p4.toInt64)), .second, vI (1 : Int32)] [(.int p4)])) _
      refine XS.iload X87.here hx rfl (hb hby at_160) rfl ?_
      show Steps p.tables e below (T87.setTop (mkF m 162 #[vI p0, vI p1, vI p2, vI p3, vI p4, vI (4 : Int32), vR b67, vJ (((((0 : Int64) + (p1.toInt64)) + (p2.toInt64)) + (p3.toInt64)) + (p4.toInt64)), .second, vJ (((((0 : Int64) + (p1.toInt64)) + (p2.toInt64)) + (p3.toInt64)) + (p4.toInt64)), .second, vI (1 : Int32)] [(.int p4), (.int p4)])) _
      refine XS.icmpYes X87.here hx rfl (pc0 := 162) (pc' := 168) rfl (hb hby at_162) rfl (teq (rfl : p4 = p4)).1 (by decide) (by decide) ?_
      show Steps p.tables e below (T87.setTop (mkF m 168 #[vI p0, vI p1, vI p2, vI p3, vI p4, vI (4 : Int32), vR b67, vJ (((((0 : Int64) + (p1.toInt64)) + (p2.toInt64)) + (p3.toInt64)) + (p4.toInt64)), .second, vJ (((((0 : Int64) + (p1.toInt64)) + (p2.toInt64)) + (p3.toInt64)) + (p4.toInt64)), .second, vI (1 : Int32)] [])) _
      refine XS.lload X87.here hx rfl (hb hby at_168) rfl ?_
      show Steps p.tables e below (T87.setTop (mkF m 170 #[vI p0, vI p1, vI p2, vI p3, vI p4, vI (4 : Int32), vR b67, vJ (((((0 : Int64) + (p1.toInt64)) + (p2.toInt64)) + (p3.toInt64)) + (p4.toInt64)), .second, vJ (((((0 : Int64) + (p1.toInt64)) + (p2.toInt64)) + (p3.toInt64)) + (p4.toInt64)), .second, vI (1 : Int32)] [(.long (((((0 : Int64) + (p1.toInt64)) + (p2.toInt64)) + (p3.toInt64)) + (p4.toInt64)))])) _
      refine XS.lload X87.here hx rfl (hb hby at_170) rfl ?_
      show Steps p.tables e below (T87.setTop (mkF m 172 #[vI p0, vI p1, vI p2, vI p3, vI p4, vI (4 : Int32), vR b67, vJ (((((0 : Int64) + (p1.toInt64)) + (p2.toInt64)) + (p3.toInt64)) + (p4.toInt64)), .second, vJ (((((0 : Int64) + (p1.toInt64)) + (p2.toInt64)) + (p3.toInt64)) + (p4.toInt64)), .second, vI (1 : Int32)] [(.long (((((0 : Int64) + (p1.toInt64)) + (p2.toInt64)) + (p3.toInt64)) + (p4.toInt64))), (.long (((((0 : Int64) + (p1.toInt64)) + (p2.toInt64)) + (p3.toInt64)) + (p4.toInt64)))])) _
      refine XS.lcmp X87.here hx rfl (hb hby at_172) rfl ?_
      show Steps p.tables e below (T87.setTop (mkF m 173 #[vI p0, vI p1, vI p2, vI p3, vI p4, vI (4 : Int32), vR b67, vJ (((((0 : Int64) + (p1.toInt64)) + (p2.toInt64)) + (p3.toInt64)) + (p4.toInt64)), .second, vJ (((((0 : Int64) + (p1.toInt64)) + (p2.toInt64)) + (p3.toInt64)) + (p4.toInt64)), .second, vI (1 : Int32)] [(.int (lcmpW (((((0 : Int64) + (p1.toInt64)) + (p2.toInt64)) + (p3.toInt64)) + (p4.toInt64)) (((((0 : Int64) + (p1.toInt64)) + (p2.toInt64)) + (p3.toInt64)) + (p4.toInt64))))])) _
      refine XS.ifNo X87.here hx rfl (hb hby at_173) rfl ((if0 _ _).trans (teq ((lw_eq _ _).mpr (rfl : (((((0 : Int64) + (p1.toInt64)) + (p2.toInt64)) + (p3.toInt64)) + (p4.toInt64)) = (((((0 : Int64) + (p1.toInt64)) + (p2.toInt64)) + (p3.toInt64)) + (p4.toInt64))))).2) ?_
      show Steps p.tables e below (T87.setTop (mkF m 176 #[vI p0, vI p1, vI p2, vI p3, vI p4, vI (4 : Int32), vR b67, vJ (((((0 : Int64) + (p1.toInt64)) + (p2.toInt64)) + (p3.toInt64)) + (p4.toInt64)), .second, vJ (((((0 : Int64) + (p1.toInt64)) + (p2.toInt64)) + (p3.toInt64)) + (p4.toInt64)), .second, vI (1 : Int32)] [])) _
      refine XS.iload X87.here hx rfl (hb hby at_176) rfl ?_
      show Steps p.tables e below (T87.setTop (mkF m 178 #[vI p0, vI p1, vI p2, vI p3, vI p4, vI (4 : Int32), vR b67, vJ (((((0 : Int64) + (p1.toInt64)) + (p2.toInt64)) + (p3.toInt64)) + (p4.toInt64)), .second, vJ (((((0 : Int64) + (p1.toInt64)) + (p2.toInt64)) + (p3.toInt64)) + (p4.toInt64)), .second, vI (1 : Int32)] [(.int (1 : Int32))])) _
      refine XS.ifNo X87.here hx rfl (hb hby at_178) rfl ((if0 _ _).trans (feq (by decide : ¬ ((1 : Int32) = (0 : Int32)))).1) ?_
      show Steps p.tables e below (T87.setTop (mkF m 181 #[vI p0, vI p1, vI p2, vI p3, vI p4, vI (4 : Int32), vR b67, vJ (((((0 : Int64) + (p1.toInt64)) + (p2.toInt64)) + (p3.toInt64)) + (p4.toInt64)), .second, vJ (((((0 : Int64) + (p1.toInt64)) + (p2.toInt64)) + (p3.toInt64)) + (p4.toInt64)), .second, vI (1 : Int32)] [])) _
      refine XS.iconst X87.here hx rfl (hb hby at_181) ?_
      show Steps p.tables e below (T87.setTop (mkF m 182 #[vI p0, vI p1, vI p2, vI p3, vI p4, vI (4 : Int32), vR b67, vJ (((((0 : Int64) + (p1.toInt64)) + (p2.toInt64)) + (p3.toInt64)) + (p4.toInt64)), .second, vJ (((((0 : Int64) + (p1.toInt64)) + (p2.toInt64)) + (p3.toInt64)) + (p4.toInt64)), .second, vI (1 : Int32)] [(.int (1 : Int32))])) _
      refine XS.goto X87.here hx rfl (pc0 := 182) (pc' := 186) rfl (hb hby at_182) (by decide) (by decide) ?_
      show Steps p.tables e below (T87.setTop (mkF m 186 #[vI p0, vI p1, vI p2, vI p3, vI p4, vI (4 : Int32), vR b67, vJ (((((0 : Int64) + (p1.toInt64)) + (p2.toInt64)) + (p3.toInt64)) + (p4.toInt64)), .second, vJ (((((0 : Int64) + (p1.toInt64)) + (p2.toInt64)) + (p3.toInt64)) + (p4.toInt64)), .second, vI (1 : Int32)] [(.int (1 : Int32))])) _
      exact k)
    obtain ⟨fs, hr, hrun, hended, hW, hsame⟩ := X87.leave (v := some (.int (1 : Int32))) (fun h => by rw [Bd.returns] at h; cases h)
    exact ⟨_, _, pre96.fin hS0 (retN X87 hx (t := .boolean) Bd.returns (by simp) (hb hby at_186) hr), hrun, hended, _, _, rfl, (by
      show Q0 Z p0 p1 p2 p3 p4 h0 n0 _ T87.heap _
      rw [eq87]
      exact ⟨rfl, N87⟩), ⟨_, rfl⟩, hW, hsame.mono (by decide) (by decide)⟩
set_option maxRecDepth 65536 in
set_option maxHeartbeats 40000000 in
theorem comes_1 {Post : Tables → Env → Array Value → State → Outcome → State → Prop} (hpost : ∀ tb e args s v u, (limb_1_1.after args s (.returned v) u = true ∧ limb_1_2.after args s (.returned v) u = true ∧ True) → FrameEnd s (.returned v) u (Jvm.fieldLocs frame_1_writes args s ++ Jvm.arrayLocs frame_1_arrays args s ++ Jvm.staticLocs frame_1_statics s) 16 128 → Post tb e args s (.returned v) u) :
    ArmFor flags0 classFile x code maxLocals ret World_1 tables_1 room_1 Calls_1 rest_1 Pre_1 Post := by
  intro l hfl _ _ p e ha hc hk s m args below hf hA hF happ hP
  obtain ⟨hcalls, hrest, hpre⟩ := hP
  obtain ⟨-, -, -, hnamed, -, -, -, hat⟩ := (Spec.applies_iff hf).mp happ
  obtain ⟨hg, hn⟩ := and_e (Cond.before_iff.mp (show (Jvm.Cond.and given_1 narrow_1).before args s = true from hpre))
  obtain ⟨g0, r0⟩ := and_e hg
  obtain ⟨g1, r1⟩ := and_e r0
  obtain ⟨g2, r2⟩ := and_e r1
  obtain ⟨g3, r3⟩ := and_e r2
  obtain ⟨g4, r4⟩ := and_e r3
  obtain ⟨w0, w1, w2, w3, w4, rfl⟩ : ∃ w0 w1 w2 w3 w4 : Value, args = #[w0, w1, w2, w3, w4] := by
    have hs : args.size = 5 := by simpa [Cond.value, given_1] using g0
    obtain ⟨L⟩ := args
    match L, hs with
    | [w0, w1, w2, w3, w4], _ => exact ⟨w0, w1, w2, w3, w4, rfl⟩
  have hw := fun d (hd : d ∈ tables_1) => atoms_spec (ws := Jvm.Cond.code x code maxLocals ret :: tables_1) hat d (List.mem_cons_of_mem _ hd)
  obtain ⟨i0, ei0⟩ := is_v g1
  obtain rfl : w0 = (.int i0) := Option.some.inj ei0
  obtain ⟨i1, ei1⟩ := is_v g2
  obtain rfl : w1 = (.int i1) := Option.some.inj ei1
  obtain ⟨i2, ei2⟩ := is_v g3
  obtain rfl : w2 = (.int i2) := Option.some.inj ei2
  obtain ⟨i3, ei3⟩ := is_v g4
  obtain rfl : w3 = (.int i3) := Option.some.inj ei3
  obtain ⟨i4, ei4⟩ := is_v r4
  obtain rfl : w4 = (.int i4) := Option.some.inj ei4
  obtain ⟨n, o, h1, h2, h3, _, L, rfl, ⟨rfl, N⟩, hq⟩ := rm0 l s _ hw tables_1 i0 i1 i2 i3 i4  s.heap s.heap.size (Nat.le_refl _) p e ha hc hk s m _ below hf ((Spec.applies_iff_loose hf).mp happ).1 ⟨rfl, State.Warmed39.refl s, rfl⟩ trivial
  refine ⟨n, _, h1, h2, h3, hpost _ _ _ _ _ _ ⟨Cond.after_iff.mpr rfl, Cond.after_iff.mpr (eq_i res_at (Term.int_eval (1)) rfl), trivial⟩ ⟨hq.1, hq.2.1, (hq.2.2.sift fun y hy => Or.inr (N y hy)).mono (by decide) (by decide)⟩⟩
theorem main_1_1 : Claimed_1_1 := comes_1 fun _ _ _ _ _ _ h hF => ⟨h.1, hF⟩
theorem main_1_2 : Claimed_1_2 := comes_1 fun _ _ _ _ _ _ h hF => ⟨h.2.1, hF⟩
end Jvm.Pilot.@@N@@
namespace Jvm.Pilot.@@N@@
open Jvm Jvm.ClassFile Sem Op Lib Jvm.Free Jvm.Stand Jvm.Pilot.@@N@@.Jvm.D
/-! MADE BY PROGRAM (witnessworld.py) out of the Statement's table words and the real class files: 10 classes; the members and pool entries that the words name. The judged class is class 1, her method 1. -/
namespace start1
open Jvm.ClassFile
def u (s : String) : CpInfo := .utf8 (stringToUtf16 s)
/-- a pool by its gaps: so many unusable entries, then the entry; so many at the end -/
def gap : Nat → List CpInfo → List CpInfo
  | 0, r => r
  | n + 1, r => .unusable :: gap n r
def poolList (es : List (Nat × CpInfo)) (last : Nat) : List CpInfo := es.foldr (fun e r => gap e.1 (e.2 :: r)) (gap last [])
def pool (es : List (Nat × CpInfo)) (last : Nat) : Array CpInfo := ⟨poolList es last⟩
def fileOf (pool : Array CpInfo) (this : Nat) (attrs : Array Attribute := #[]) (ms : Array MethodInfo := #[]) (fl : Nat := 33) (sup : Nat := 0) (ifs : Array Nat := #[]) (fds : Array FieldInfo := #[]) : ClassFile where
  minorVersion := 0
  majorVersion := 65
  constantPool := pool
  accessFlags := fl
  thisClass := this
  superClass := sup
  interfaces := ifs
  fields := fds
  methods := ms
  attributes := attrs
def plain (name : String) (sup : Option ClassId) : Class where
  name := name
  kind := .ordinary
  loader := none
  accessFlags := 33
  super := sup
  interfaces := #[]
  cf := none
  fields := #[]
  methods := #[]
  instanceTypes := #[]
  staticTypes := #[]
  resolved := #[]
  callSites := []
  init := .initialized
  statics := none
  mirror := none

def pool0 : Array CpInfo := pool [(5, u "<init>"), (0, u "()V"), (1, .class_ 10), (1, u "java/lang/Object")] 113

def k0m0 : Method := { name := "<init>", desc := "()V", sig := { parameters := [], returnType := none }, accessFlags := 1, code := none }
/-- java/lang/Object -/
def k0 : Class := { plain "java/lang/Object" none with
  accessFlags := 33
  interfaces := #[]
  cf := some (fileOf pool0 8 #[] #[{ accessFlags := 1, nameIndex := 5, descriptorIndex := 6, attributes := #[] }] 33 0 #[] #[])
  fields := #[]
  methods := #[k0m0]
  instanceTypes := #[]
  staticTypes := #[]
  resolved := Array.replicate 124 none
  statics := none }

def pool1 : Array CpInfo := pool [(2, .class_ 4), (1, u "java/lang/Object"), (0, u "<init>"), (0, u "()V"), (0, .integer 2147483647), (0, .methodref 9 10), (0, .class_ 11), (0, .nameAndType 12 13), (0, u "com/example/motiflow/motiflow/Tally"), (0, u "explained"), (0, u "([I)J"), (0, .class_ 15), (0, u "com/example/motiflow/motiflow/TallyExplainedPinLaw"), (2, u "law"), (0, u "(IIIII)Z")] 5

def k1m0 : Method := { name := "<init>", desc := "()V", sig := { parameters := [], returnType := none }, accessFlags := 1, code := none }
def k1c1 : Code := { maxStack := 4, maxLocals := 12, code := code, exceptionTable := #[], attributes := #[] }
def k1m1 : Method := { name := "law", desc := "(IIIII)Z", sig := { parameters := [.int, .int, .int, .int, .int], returnType := some .boolean }, accessFlags := 9, code := some k1c1 }
/-- com/example/motiflow/motiflow/TallyExplainedPinLaw -/
def k1 : Class := { plain "com/example/motiflow/motiflow/TallyExplainedPinLaw" (some 0) with
  accessFlags := 49
  interfaces := #[]
  cf := some (fileOf pool1 14 #[] #[{ accessFlags := 1, nameIndex := 5, descriptorIndex := 6, attributes := #[] }, { accessFlags := 9, nameIndex := 18, descriptorIndex := 19, attributes := #[] }] 49 2 #[] #[])
  fields := #[]
  methods := #[k1m0, k1m1]
  instanceTypes := #[]
  staticTypes := #[]
  resolved := Array.replicate 25 none
  statics := none }

def pool2 : Array CpInfo := pool [(2, .class_ 4), (1, u "java/lang/Object"), (0, u "<init>"), (0, u "()V"), (0, .class_ 8), (0, u "java/lang/Record")] 13

def k2m0 : Method := { name := "<init>", desc := "()V", sig := { parameters := [], returnType := none }, accessFlags := 4, code := none }
/-- java/lang/Record -/
def k2 : Class := { plain "java/lang/Record" (some 0) with
  accessFlags := 1057
  interfaces := #[]
  cf := some (fileOf pool2 7 #[] #[{ accessFlags := 4, nameIndex := 5, descriptorIndex := 6, attributes := #[] }] 1057 2 #[] #[])
  fields := #[]
  methods := #[k2m0]
  instanceTypes := #[]
  staticTypes := #[]
  resolved := Array.replicate 22 none
  statics := none }

def pool3 : Array CpInfo := pool [(2, .class_ 4), (1, u "java/lang/Record"), (3, .class_ 10), (1, u "com/example/motiflow/motiflow/Tally"), (0, u "labels"), (0, u "Ljava/util/List;"), (2, u "fitting"), (0, u "[I"), (2, u "total"), (2, u "instances"), (0, u "I"), (2, u "events"), (2, u "inAlphabet"), (2, u "wordsSeen"), (0, u "J"), (2, u "words"), (0, u "Ljava/math/BigInteger;"), (2, u "firings"), (2, u "enabled"), (117, u "explained"), (0, u "([I)J"), (39, u "MEASURES")] 48

def k3c0 : Code := { maxStack := 4, maxLocals := 7, code := prog_135_method_10_code, exceptionTable := #[], attributes := #[] }
def k3m0 : Method := { name := "explained", desc := "([I)J", sig := { parameters := [(.array .int)], returnType := some .long }, accessFlags := 8, code := some k3c0 }
/-- com/example/motiflow/motiflow/Tally -/
def k3 : Class := { plain "com/example/motiflow/motiflow/Tally" (some 2) with
  accessFlags := 48
  interfaces := #[]
  cf := some (fileOf pool3 8 #[] #[{ accessFlags := 8, nameIndex := 161, descriptorIndex := 162, attributes := #[] }] 48 2 #[] #[{ accessFlags := 18, nameIndex := 11, descriptorIndex := 12, attributes := #[] }, { accessFlags := 18, nameIndex := 15, descriptorIndex := 16, attributes := #[] }, { accessFlags := 18, nameIndex := 19, descriptorIndex := 16, attributes := #[] }, { accessFlags := 18, nameIndex := 22, descriptorIndex := 23, attributes := #[] }, { accessFlags := 18, nameIndex := 26, descriptorIndex := 23, attributes := #[] }, { accessFlags := 18, nameIndex := 29, descriptorIndex := 23, attributes := #[] }, { accessFlags := 18, nameIndex := 32, descriptorIndex := 33, attributes := #[] }, { accessFlags := 18, nameIndex := 36, descriptorIndex := 37, attributes := #[] }, { accessFlags := 18, nameIndex := 40, descriptorIndex := 33, attributes := #[] }, { accessFlags := 18, nameIndex := 43, descriptorIndex := 33, attributes := #[] }, { accessFlags := 24, nameIndex := 202, descriptorIndex := 23, attributes := #[] }])
  fields := #[{ name := "labels", type := (.object "java/util/List"), accessFlags := 18, slot := 0, constantValue := 0 }, { name := "fitting", type := (.array .int), accessFlags := 18, slot := 1, constantValue := 0 }, { name := "total", type := (.array .int), accessFlags := 18, slot := 2, constantValue := 0 }, { name := "instances", type := .int, accessFlags := 18, slot := 3, constantValue := 0 }, { name := "events", type := .int, accessFlags := 18, slot := 4, constantValue := 0 }, { name := "inAlphabet", type := .int, accessFlags := 18, slot := 5, constantValue := 0 }, { name := "wordsSeen", type := .long, accessFlags := 18, slot := 6, constantValue := 0 }, { name := "words", type := (.object "java/math/BigInteger"), accessFlags := 18, slot := 7, constantValue := 0 }, { name := "firings", type := .long, accessFlags := 18, slot := 8, constantValue := 0 }, { name := "enabled", type := .long, accessFlags := 18, slot := 9, constantValue := 0 }, { name := "MEASURES", type := .int, accessFlags := 24, slot := 0, constantValue := 0 }]
  methods := #[k3m0]
  instanceTypes := #[(.object "java/util/List"), (.array .int), (.array .int), .int, .int, .int, .long, (.object "java/math/BigInteger"), .long, .long]
  staticTypes := #[.int]
  resolved := Array.replicate 251 none
  statics := none }

def pool4 : Array CpInfo := pool [(1, u "java/lang/Cloneable"), (0, .class_ 1), (0, u "java/lang/Object"), (0, .class_ 3)] 3

/-- java/lang/Cloneable -/
def k4 : Class := { plain "java/lang/Cloneable" (some 0) with
  accessFlags := 1537
  interfaces := #[]
  cf := some (fileOf pool4 2 #[] #[] 1537 4 #[] #[])
  fields := #[]
  methods := #[]
  instanceTypes := #[]
  staticTypes := #[]
  resolved := Array.replicate 8 none
  statics := none }

def pool5 : Array CpInfo := pool [(1, u "java/io/Serializable"), (0, .class_ 1), (0, u "java/lang/Object"), (0, .class_ 3)] 3

/-- java/io/Serializable -/
def k5 : Class := { plain "java/io/Serializable" (some 0) with
  accessFlags := 1537
  interfaces := #[]
  cf := some (fileOf pool5 2 #[] #[] 1537 4 #[] #[])
  fields := #[]
  methods := #[]
  instanceTypes := #[]
  staticTypes := #[]
  resolved := Array.replicate 8 none
  statics := none }

/-- the primitive byte -/
def k6 : Class := { plain "byte" none with kind := .primitive 'B', accessFlags := 0x411 }
/-- [B -/
def k7 : Class := { plain "[B" (some 0) with kind := .array 6 .byte, interfaces := #[4, 5], accessFlags := 1041 }

/-- the primitive int -/
def k8 : Class := { plain "int" none with kind := .primitive 'I', accessFlags := 0x411 }
/-- [I -/
def k9 : Class := { plain "[I" (some 0) with kind := .array 8 .int, interfaces := #[4, 5], accessFlags := 1041 }

def heap : Heap := #[]
def classes : Array Class := #[k0, k1, k2, k3, k4, k5, k6, k7, k8, k9]
def interned : List (Array UInt16 × Addr) := []
def slotsUsed : Nat := 0
def theMethod : MethodId := ⟨1, 1⟩
def args0 : Array Value := #[.int 5, .int 6, .int 7, .int 8, .int 9]
def aboutOver (below : List Frame) : State where
  vm := { classes := classes, interned := interned.toArray }
  heap := heap
  slotsUsed := slotsUsed
  threads := #[{ frames := .invoking theMethod args0 :: below }]
def below0 : List Frame := [.native { method := ⟨0, 0⟩, args := #[] }]
def about1 : State := aboutOver below0
def p0 : Program := .bare "" "" ""
def e0 : Env := launch0.env 0 0 0
theorem w_frames : about1.frames = Frame.invoking theMethod args0 :: below0 := rfl
set_option maxRecDepth 65536 in
theorem w_args : argsFit about1.vm theMethod args0 = true := by decide +kernel
set_option maxRecDepth 65536 in
theorem w_heap : heapFits about1 = true := by decide +kernel
set_option maxRecDepth 65536 in
theorem w_runnable : about1.curStatus? = some .runnable := by decide +kernel
set_option maxRecDepth 65536 in
theorem w_alone : about1.alone = true := by decide +kernel
set_option maxRecDepth 65536 in
theorem w_named : about1.methodNamed? x = some theMethod := by decide +kernel
set_option maxRecDepth 65536 in
theorem w_hears : about1.hears theMethod below0 = true := by decide +kernel
set_option maxRecDepth 65536 in
theorem w_ripe : about1.ripe theMethod args0 below0 = true := by decide +kernel
theorem w_running : about1.status = .running := rfl
set_option maxRecDepth 65536 in
theorem w_room : about1.hasRoom e0.platform room_1 = true :=
  launch0.hasRoom_least _ room_1 (by decide +kernel) (by decide +kernel) (by decide +kernel) (by decide +kernel) (by decide +kernel) (by decide +kernel)
theorem allAtoms_all (ts : List Jvm.Cond) (a : Array Jvm.Value) (st : Jvm.State) : (allAtoms ts).before a st = ts.all (fun c => c.before a st) := by
  induction ts with
  | nil => rfl
  | cons c t ih =>
    show (Jvm.Cond.and c (allAtoms t)).before a st = _
    rw [Jvm.Cond.before_and, ih, List.all_cons]
def words1 : List Jvm.Cond := Jvm.Cond.code x code maxLocals ret :: tables_1
/-- a 'code' word, met by the world's own term for the bytes: nothing is compared byte by byte -/
theorem code_word {y : MethodName} {bytes : ByteArray} {mx : Nat} {rt : Option FieldType} {a : Array Value} {s : State} {m : MethodId} {meth : Method} {c : Code} (h1 : s.methodNamed? y = some m) (h2 : s.vm.method? m = some meth) (h3 : meth.code = some c) (h4 : c.code = bytes)
    (h5 : (c.maxLocals == mx && c.exceptionTable.isEmpty && decide (c.maxStack ≤ mostOperands) && decide (meth.sig.returnType = rt) && !meth.locks && decide (parseMethodDescriptor y.desc = some meth.sig)) = true) : (Jvm.Cond.code y bytes mx rt).before a s = true := by
  simp only [Bool.and_eq_true, beq_iff_eq, Bool.not_eq_true', decide_eq_true_eq] at h5
  obtain ⟨⟨⟨⟨⟨g1, g2⟩, g3⟩, g4⟩, g5⟩, g6⟩ := h5
  simp [Cond.before, Cond.holds, Cond.value, h1, h2, h3, h4, g1, g2, g3, g4, g5, g6]
def isCode : Jvm.Cond → Bool
  | .code _ _ _ _ => true
  | _ => false
theorem all_split {L : List Jvm.Cond} {P : Jvm.Cond → Bool} (h1 : L.all (fun c => isCode c || P c) = true) (h2 : ∀ c ∈ L.filter isCode, P c = true) : L.all P = true := by
  refine List.all_eq_true.mpr fun c hc => ?_
  have h := List.all_eq_true.mp h1 c hc
  rcases Bool.eq_false_or_eq_true (isCode c) with hi | hi
  · exact h2 c (List.mem_filter.mpr ⟨hc, hi⟩)
  · simpa [hi] using h
set_option maxRecDepth 65536 in
theorem w_c0 : (Jvm.Cond.code x code maxLocals ret).before args0 about1 = true := code_word (m := ⟨1, 1⟩) (meth := k1m1) (c := k1c1) (by decide +kernel) rfl rfl rfl (by decide +kernel)
set_option maxRecDepth 65536 in
theorem w_c1 : (Jvm.Cond.code ({ cls := "com/example/motiflow/motiflow/Tally", name := "explained", desc := "([I)J" } : Jvm.MethodName) prog_135_method_10_code (7 : Nat) (Option.some Jvm.ClassFile.FieldType.long)).before args0 about1 = true := code_word (m := ⟨3, 0⟩) (meth := k3m0) (c := k3c0) (by decide +kernel) rfl rfl rfl (by decide +kernel)
def codes1 : List Jvm.Cond := [Jvm.Cond.code x code maxLocals ret, Jvm.Cond.code ({ cls := "com/example/motiflow/motiflow/Tally", name := "explained", desc := "([I)J" } : Jvm.MethodName) prog_135_method_10_code (7 : Nat) (Option.some Jvm.ClassFile.FieldType.long)]
set_option maxRecDepth 65536 in
theorem codes_eq : words1.filter isCode = codes1 := rfl
theorem w_codes : ∀ c ∈ words1.filter isCode, c.before args0 about1 = true := by
  rw [codes_eq]
  intro c hc
  simp only [codes1, List.mem_cons, List.not_mem_nil, or_false] at hc
  rcases hc with rfl | rfl
  · exact w_c0
  · exact w_c1
set_option maxRecDepth 65536 in
theorem w_t1 : words1.all (fun c => isCode c || c.before args0 about1) = true := by decide +kernel
theorem w_tables : (allAtoms (Jvm.Cond.code x code maxLocals ret :: tables_1)).before args0 about1 = true := by
  rw [allAtoms_all]
  show words1.all (fun c => c.before args0 about1) = true
  refine all_split ?_ w_codes
  rw [w_t1]
set_option maxRecDepth 65536 in
theorem w_case : (Jvm.Cond.and given_1 narrow_1).before args0 about1 = true := by decide +kernel
theorem w_applies : (headSpec (Jvm.Cond.code x code maxLocals ret :: tables_1) room_1).applies x e0.platform about1 = true :=
  (Spec.applies_iff w_frames).mpr ⟨w_running, w_runnable, w_alone, w_named, w_hears, w_ripe, w_room, w_tables⟩
theorem atStart : AtStart classFile x code maxLocals ret World_1 tables_1 room_1 Calls_1 rest_1 Pre_1 launch0 p0 e0 about1 theMethod args0 below0 :=
  ⟨lists_1, trivial, launch0.admits_env _ _ _, launch0.least_env, fairChoices_fair.cas, fairChoices_fair.clock, w_frames, w_args, w_heap, w_applies, trivial, trivial, w_case⟩
end start1
theorem witness_1 : WitnessClaimed_1 := ⟨start1.p0, start1.e0, start1.about1, start1.theMethod, start1.args0, start1.below0, start1.atStart⟩
end Jvm.Pilot.@@N@@
