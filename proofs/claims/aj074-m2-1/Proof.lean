import JvmDerived
import JvmDerived.Pilot.@@N@@Statement
import JvmDerived.Pilot.@@N@@Code
set_option linter.unusedVariables false
set_option linter.unusedSimpArgs false
namespace Jvm.RoadKit
open Sem ClassFile Op Lib Jvm.Stand Jvm.Free Jvm.LawKit
abbrev vI (x : Int32) : Slot := .val (.int x)
abbrev vJ (x : Int64) : Slot := .val (.long x)
abbrev vR (a : Addr) : Slot := .val (.ref a)
/-- from S0 the run comes to T with g on top -/
def Go (tb : Tables) (e : Env) (below : List Frame) (S0 T : State) (g : JFrame) : Prop := ∀ t, Steps tb e below (T.setTop g) t → Steps tb e below S0 t
theorem Go.fin {tb : Tables} {e : Env} {below : List Frame} {S0 S T t : State} {g : JFrame} (h : Go tb e below S0 T g) (q : S0 = S) (k : Steps tb e below (T.setTop g) t) : Steps tb e below S t := q ▸ h t k
section New
variable {p : Program} {l : Launch} {e : Env} {R : Room} {s : State} {m : MethodId} {args : Array Value} {below : List Frame} {meth : Method} {c : Code} {T : State} {locs : List Loc} {cells slots : Nat}
end New
end Jvm.RoadKit
namespace Jvm.Pilot.@@N@@
open Jvm Jvm.ClassFile Sem Op Lib Jvm.Free Jvm.Stand Jvm.LawKit Jvm.RoadKit Bundle Jvm.Pilot.@@N@@.Jvm.D
def own_ws (c : Int32) : Int32 := if c = (32 : Int32) then 1 else if c = (9 : Int32) then 1 else if c = (10 : Int32) then 1 else if c = (13 : Int32) then 1 else 0
theorem own_tab : ∀ k : Fin 64, own_ws (Int32.ofNat k.val) = if ((((4294977024 : Int64).toUInt64 >>> (Int32.ofNat k.val &&& 0x3f).toInt64.toUInt64).toInt64) &&& (1 : Int64)) = (0 : Int64) then 0 else 1 := by decide +kernel
theorem own_char (x : Int32) : ∃ n : Nat, n < 65536 ∧ x.toUInt32.toUInt16.toUInt32.toInt32 = Int32.ofNat n := by
  have h := c_i2c x
  generalize x.toUInt32.toUInt16.toUInt32.toInt32 = v at h
  refine ⟨v.toInt.toNat, by omega, ?_⟩
  apply Int32.toInt_inj.mp
  rw [Int32.toInt_ofNat_of_lt (by omega)]
  omega
theorem own_key (v : Int32) (j : Int32) (hv : ∃ n : Nat, n < 65536 ∧ v = Int32.ofNat n)
    (hj : (j = (0 : Int32) ∧ v < (64 : Int32) ∧ ((((4294977024 : Int64).toUInt64 >>> (v &&& 0x3f).toInt64.toUInt64).toInt64) &&& (1 : Int64)) = (0 : Int64)) ∨ (j = (1 : Int32) ∧ v < (64 : Int32) ∧ ¬ ((((4294977024 : Int64).toUInt64 >>> (v &&& 0x3f).toInt64.toUInt64).toInt64) &&& (1 : Int64)) = (0 : Int64)) ∨ (j = (0 : Int32) ∧ ¬ v < (64 : Int32))) : own_ws v = j := by
  obtain ⟨n, hn, rfl⟩ := hv
  have e : (Int32.ofNat n).toInt = n := Int32.toInt_ofNat_of_lt (by omega)
  by_cases h : n < 64
  · have t := own_tab ⟨n, h⟩
    have h64 : Int32.ofNat n < (64 : Int32) := by rw [Int32.lt_iff_toInt_lt, e]; show (n : Int) < 64; omega
    dsimp only at t
    rw [t]
    rcases hj with ⟨rfl, -, q⟩ | ⟨rfl, -, q⟩ | ⟨rfl, q⟩
    · rw [if_pos q]
    · rw [if_neg q]
    · exact absurd h64 q
  · have h64 : ¬ Int32.ofNat n < (64 : Int32) := by rw [Int32.lt_iff_toInt_lt, e]; show ¬ (n : Int) < 64; omega
    have f : ∀ k : Nat, k < 64 → ¬ Int32.ofNat n = Int32.ofNat k := fun k hk q => by
      have := congrArg Int32.toInt q
      rw [e, Int32.toInt_ofNat_of_lt (by omega)] at this
      omega
    have z : own_ws (Int32.ofNat n) = 0 := by
      unfold own_ws
      rw [if_neg (show ¬ Int32.ofNat n = (32 : Int32) from f 32 (by omega)), if_neg (show ¬ Int32.ofNat n = (9 : Int32) from f 9 (by omega)), if_neg (show ¬ Int32.ofNat n = (10 : Int32) from f 10 (by omega)), if_neg (show ¬ Int32.ofNat n = (13 : Int32) from f 13 (by omega))]
    rw [z]
    rcases hj with ⟨rfl, q, -⟩ | ⟨rfl, q, -⟩ | ⟨rfl, q⟩
    · exact absurd q h64
    · exact absurd q h64
    · rfl
theorem ef_1 (m : MethodId) (x0 : Int32) : entryFrame m #[(.int x0)] 1 = mkF m 0 #[.val (.int x0)] [] := by first | (simp [entryFrame, mkF, argsToLocals, Value.category]; done) | rfl
theorem pn_0 : plainName "com/example/attest/attest/XmlWhiteSpace" = true := by first | (simp [plainName, overriddenIn]; done) | decide +kernel
theorem d1_0 : decode prog_3_method_2_code 0 = .ok (.iload_n 0, 1) := by decide +kernel
theorem d1_1 : decode prog_3_method_2_code 1 = .ok (.bipush 32, 2) := by decide +kernel
theorem d1_3 : decode prog_3_method_2_code 3 = .ok (.if_icmp .eq 21, 3) := by decide +kernel
theorem d1_6 : decode prog_3_method_2_code 6 = .ok (.iload_n 0, 1) := by decide +kernel
theorem d1_7 : decode prog_3_method_2_code 7 = .ok (.bipush 9, 2) := by decide +kernel
theorem d1_9 : decode prog_3_method_2_code 9 = .ok (.if_icmp .eq 15, 3) := by decide +kernel
theorem d1_12 : decode prog_3_method_2_code 12 = .ok (.iload_n 0, 1) := by decide +kernel
theorem d1_13 : decode prog_3_method_2_code 13 = .ok (.bipush 10, 2) := by decide +kernel
theorem d1_15 : decode prog_3_method_2_code 15 = .ok (.if_icmp .eq 9, 3) := by decide +kernel
theorem d1_18 : decode prog_3_method_2_code 18 = .ok (.iload_n 0, 1) := by decide +kernel
theorem d1_19 : decode prog_3_method_2_code 19 = .ok (.bipush 13, 2) := by decide +kernel
theorem d1_21 : decode prog_3_method_2_code 21 = .ok (.if_icmp .ne 7, 3) := by decide +kernel
theorem d1_24 : decode prog_3_method_2_code 24 = .ok (.iconst 1, 1) := by decide +kernel
theorem d1_25 : decode prog_3_method_2_code 25 = .ok (.goto 4, 3) := by decide +kernel
theorem d1_28 : decode prog_3_method_2_code 28 = .ok (.iconst 0, 1) := by decide +kernel
theorem d1_29 : decode prog_3_method_2_code 29 = .ok (.ireturn, 1) := by decide +kernel
def Q1 (Z : State) (p0 : Int32) (h0 : Heap) (n0 : Nat) (v : Option Value) (h : Heap) (L : List Loc) : Prop := v = some (.int (own_ws p0)) ∧ Fr n0 L ∧ h = h0
set_option maxRecDepth 65536 in
set_option maxHeartbeats 40000000 in
theorem rm1 (l : Launch) (Z : State) (a0 : Array Value) (hw : ∀ d ∈ tables_1, d.before a0 Z = true) (ws : List Jvm.Cond) (p0 : Int32)  (h0 : Heap) (n0 : Nat) (Z0 : n0 ≤ h0.size)  :
    MetFree l (⟨"com/example/attest/attest/XmlWhiteSpace", "isWhiteSpace", "(C)Z"⟩ : MethodName) (head1 (Jvm.Cond.code (⟨"com/example/attest/attest/XmlWhiteSpace", "isWhiteSpace", "(C)Z"⟩ : MethodName) prog_3_method_2_code 1 (some .boolean) :: ws) ({ frames := 0, cells := 0, slots := 0, locals := 0 } : Room)) (fun a U => a = #[(.int p0)] ∧ Z.Warmed39 U.vm ∧ U.heap = h0) (fun _ _ _ _ _ => True) (fun _ U o U' => ∃ v L, o = .returned v ∧ Q1 Z p0 h0 n0 v U'.heap L ∧ FrameEnd U o U' L ({ frames := 0, cells := 0, slots := 0, locals := 0 } : Room).cells ({ frames := 0, cells := 0, slots := 0, locals := 0 } : Room).slots) := by
  refine MetFree.of_bodySF (plainFor_of_name pn_0) hisR ?_
  intro p e s m args below meth c s₁ Bd hml0 hP hK
  obtain ⟨rfl, hZ, hh⟩ := hP
  have hx := Bd.exec
  have hby := Bd.bytes
  have hml : c.maxLocals = 1 := hml0
  have hown : s.vm.findClass "com/example/attest/attest/XmlWhiteSpace" = some m.cls := findClass_of_methodNamed Bd.named
  have hnm := (name_of_methodNamed Bd.named Bd.method).1
  have X0 : Stand p l e ({ frames := 0, cells := 0, slots := 0, locals := 0 } : Room) s m #[(.int p0)] below meth c s₁ [] 0 0 := Stand.of_body Bd
  have e0 : s₁.heap = h0 := by rw [← hh, Bd.state]; rfl
  have N0 := Fr.nil n0
  obtain ⟨S0, hS0⟩ : ∃ z, z = s₁.setTop (entryFrame m #[(.int p0)] 1) := ⟨_, rfl⟩
  have pre0 : Go p.tables e below S0 s₁ (mkF m 0 #[vI p0] []) := fun t k => by rw [hS0]; exact castTop (ef_1 m p0) k
  have pre1 : Go p.tables e below S0 s₁ (mkF m 3 #[vI p0] [(.int (32 : Int32)), (.int p0)]) := fun t k => pre0 t (by
    refine XS.iloadN X0.here hx rfl (hb hby d1_0) rfl ?_
    show Steps p.tables e below (s₁.setTop (mkF m 1 #[vI p0] [(.int p0)])) _
    refine XS.bipush X0.here hx rfl (hb hby d1_1) ?_
    show Steps p.tables e below (s₁.setTop (mkF m 3 #[vI p0] [(.int (32 : Int32)), (.int p0)])) _
    exact k)
  by_cases c3_2 : p0 = (32 : Int32)
  · skip
    have pre3 : Go p.tables e below S0 s₁ (mkF m 29 #[vI p0] [(.int (1 : Int32))]) := fun t k => pre1 t (by
      refine XS.icmpYes X0.here hx rfl (pc0 := 3) (pc' := 24) rfl (hb hby d1_3) rfl (teq c3_2).1 (by decide) (by decide) ?_
      show Steps p.tables e below (s₁.setTop (mkF m 24 #[vI p0] [])) _
      refine XS.iconst X0.here hx rfl (hb hby d1_24) ?_
      show Steps p.tables e below (s₁.setTop (mkF m 25 #[vI p0] [(.int (1 : Int32))])) _
      refine XS.goto X0.here hx rfl (pc0 := 25) (pc' := 29) rfl (hb hby d1_25) (by decide) (by decide) ?_
      show Steps p.tables e below (s₁.setTop (mkF m 29 #[vI p0] [(.int (1 : Int32))])) _
      exact k)
    obtain ⟨fs, hr, hrun, hended, hW, hsame⟩ := X0.leave (v := some (.int (1 : Int32))) (fun h => by rw [Bd.returns] at h; cases h)
    exact ⟨_, _, pre3.fin hS0 (retN X0 hx (t := .boolean) Bd.returns (by simp) (hb hby d1_29) hr), hrun, hended, _, _, rfl, (by
      show Q1 Z p0 h0 n0 _ s₁.heap _
      rw [e0]
      exact ⟨congrArg (fun z => some (Value.int z)) (by simp [own_ws, c3_2]), N0, rfl⟩), ⟨_, rfl⟩, hW, hsame.mono (by decide) (by decide)⟩
  · skip
    have pre4 : Go p.tables e below S0 s₁ (mkF m 9 #[vI p0] [(.int (9 : Int32)), (.int p0)]) := fun t k => pre1 t (by
      refine XS.icmpNo X0.here hx rfl (hb hby d1_3) rfl (feq c3_2).1 ?_
      show Steps p.tables e below (s₁.setTop (mkF m 6 #[vI p0] [])) _
      refine XS.iloadN X0.here hx rfl (hb hby d1_6) rfl ?_
      show Steps p.tables e below (s₁.setTop (mkF m 7 #[vI p0] [(.int p0)])) _
      refine XS.bipush X0.here hx rfl (hb hby d1_7) ?_
      show Steps p.tables e below (s₁.setTop (mkF m 9 #[vI p0] [(.int (9 : Int32)), (.int p0)])) _
      exact k)
    by_cases c9_5 : p0 = (9 : Int32)
    · skip
      have pre6 : Go p.tables e below S0 s₁ (mkF m 29 #[vI p0] [(.int (1 : Int32))]) := fun t k => pre4 t (by
        refine XS.icmpYes X0.here hx rfl (pc0 := 9) (pc' := 24) rfl (hb hby d1_9) rfl (teq c9_5).1 (by decide) (by decide) ?_
        show Steps p.tables e below (s₁.setTop (mkF m 24 #[vI p0] [])) _
        refine XS.iconst X0.here hx rfl (hb hby d1_24) ?_
        show Steps p.tables e below (s₁.setTop (mkF m 25 #[vI p0] [(.int (1 : Int32))])) _
        refine XS.goto X0.here hx rfl (pc0 := 25) (pc' := 29) rfl (hb hby d1_25) (by decide) (by decide) ?_
        show Steps p.tables e below (s₁.setTop (mkF m 29 #[vI p0] [(.int (1 : Int32))])) _
        exact k)
      obtain ⟨fs, hr, hrun, hended, hW, hsame⟩ := X0.leave (v := some (.int (1 : Int32))) (fun h => by rw [Bd.returns] at h; cases h)
      exact ⟨_, _, pre6.fin hS0 (retN X0 hx (t := .boolean) Bd.returns (by simp) (hb hby d1_29) hr), hrun, hended, _, _, rfl, (by
        show Q1 Z p0 h0 n0 _ s₁.heap _
        rw [e0]
        exact ⟨congrArg (fun z => some (Value.int z)) (by simp [own_ws, c3_2, c9_5]), N0, rfl⟩), ⟨_, rfl⟩, hW, hsame.mono (by decide) (by decide)⟩
    · skip
      have pre7 : Go p.tables e below S0 s₁ (mkF m 15 #[vI p0] [(.int (10 : Int32)), (.int p0)]) := fun t k => pre4 t (by
        refine XS.icmpNo X0.here hx rfl (hb hby d1_9) rfl (feq c9_5).1 ?_
        show Steps p.tables e below (s₁.setTop (mkF m 12 #[vI p0] [])) _
        refine XS.iloadN X0.here hx rfl (hb hby d1_12) rfl ?_
        show Steps p.tables e below (s₁.setTop (mkF m 13 #[vI p0] [(.int p0)])) _
        refine XS.bipush X0.here hx rfl (hb hby d1_13) ?_
        show Steps p.tables e below (s₁.setTop (mkF m 15 #[vI p0] [(.int (10 : Int32)), (.int p0)])) _
        exact k)
      by_cases c15_8 : p0 = (10 : Int32)
      · skip
        have pre9 : Go p.tables e below S0 s₁ (mkF m 29 #[vI p0] [(.int (1 : Int32))]) := fun t k => pre7 t (by
          refine XS.icmpYes X0.here hx rfl (pc0 := 15) (pc' := 24) rfl (hb hby d1_15) rfl (teq c15_8).1 (by decide) (by decide) ?_
          show Steps p.tables e below (s₁.setTop (mkF m 24 #[vI p0] [])) _
          refine XS.iconst X0.here hx rfl (hb hby d1_24) ?_
          show Steps p.tables e below (s₁.setTop (mkF m 25 #[vI p0] [(.int (1 : Int32))])) _
          refine XS.goto X0.here hx rfl (pc0 := 25) (pc' := 29) rfl (hb hby d1_25) (by decide) (by decide) ?_
          show Steps p.tables e below (s₁.setTop (mkF m 29 #[vI p0] [(.int (1 : Int32))])) _
          exact k)
        obtain ⟨fs, hr, hrun, hended, hW, hsame⟩ := X0.leave (v := some (.int (1 : Int32))) (fun h => by rw [Bd.returns] at h; cases h)
        exact ⟨_, _, pre9.fin hS0 (retN X0 hx (t := .boolean) Bd.returns (by simp) (hb hby d1_29) hr), hrun, hended, _, _, rfl, (by
          show Q1 Z p0 h0 n0 _ s₁.heap _
          rw [e0]
          exact ⟨congrArg (fun z => some (Value.int z)) (by simp [own_ws, c3_2, c9_5, c15_8]), N0, rfl⟩), ⟨_, rfl⟩, hW, hsame.mono (by decide) (by decide)⟩
      · skip
        have pre10 : Go p.tables e below S0 s₁ (mkF m 21 #[vI p0] [(.int (13 : Int32)), (.int p0)]) := fun t k => pre7 t (by
          refine XS.icmpNo X0.here hx rfl (hb hby d1_15) rfl (feq c15_8).1 ?_
          show Steps p.tables e below (s₁.setTop (mkF m 18 #[vI p0] [])) _
          refine XS.iloadN X0.here hx rfl (hb hby d1_18) rfl ?_
          show Steps p.tables e below (s₁.setTop (mkF m 19 #[vI p0] [(.int p0)])) _
          refine XS.bipush X0.here hx rfl (hb hby d1_19) ?_
          show Steps p.tables e below (s₁.setTop (mkF m 21 #[vI p0] [(.int (13 : Int32)), (.int p0)])) _
          exact k)
        by_cases c21_11 : p0 = (13 : Int32)
        · skip
          have pre12 : Go p.tables e below S0 s₁ (mkF m 29 #[vI p0] [(.int (1 : Int32))]) := fun t k => pre10 t (by
            refine XS.icmpNo X0.here hx rfl (hb hby d1_21) rfl (teq c21_11).2 ?_
            show Steps p.tables e below (s₁.setTop (mkF m 24 #[vI p0] [])) _
            refine XS.iconst X0.here hx rfl (hb hby d1_24) ?_
            show Steps p.tables e below (s₁.setTop (mkF m 25 #[vI p0] [(.int (1 : Int32))])) _
            refine XS.goto X0.here hx rfl (pc0 := 25) (pc' := 29) rfl (hb hby d1_25) (by decide) (by decide) ?_
            show Steps p.tables e below (s₁.setTop (mkF m 29 #[vI p0] [(.int (1 : Int32))])) _
            exact k)
          obtain ⟨fs, hr, hrun, hended, hW, hsame⟩ := X0.leave (v := some (.int (1 : Int32))) (fun h => by rw [Bd.returns] at h; cases h)
          exact ⟨_, _, pre12.fin hS0 (retN X0 hx (t := .boolean) Bd.returns (by simp) (hb hby d1_29) hr), hrun, hended, _, _, rfl, (by
            show Q1 Z p0 h0 n0 _ s₁.heap _
            rw [e0]
            exact ⟨congrArg (fun z => some (Value.int z)) (by simp [own_ws, c3_2, c9_5, c15_8, c21_11]), N0, rfl⟩), ⟨_, rfl⟩, hW, hsame.mono (by decide) (by decide)⟩
        · skip
          have pre13 : Go p.tables e below S0 s₁ (mkF m 29 #[vI p0] [(.int (0 : Int32))]) := fun t k => pre10 t (by
            refine XS.icmpYes X0.here hx rfl (pc0 := 21) (pc' := 28) rfl (hb hby d1_21) rfl (feq c21_11).2 (by decide) (by decide) ?_
            show Steps p.tables e below (s₁.setTop (mkF m 28 #[vI p0] [])) _
            refine XS.iconst X0.here hx rfl (hb hby d1_28) ?_
            show Steps p.tables e below (s₁.setTop (mkF m 29 #[vI p0] [(.int (0 : Int32))])) _
            exact k)
          obtain ⟨fs, hr, hrun, hended, hW, hsame⟩ := X0.leave (v := some (.int (0 : Int32))) (fun h => by rw [Bd.returns] at h; cases h)
          exact ⟨_, _, pre13.fin hS0 (retN X0 hx (t := .boolean) Bd.returns (by simp) (hb hby d1_29) hr), hrun, hended, _, _, rfl, (by
            show Q1 Z p0 h0 n0 _ s₁.heap _
            rw [e0]
            exact ⟨congrArg (fun z => some (Value.int z)) (by simp [own_ws, c3_2, c9_5, c15_8, c21_11]), N0, rfl⟩), ⟨_, rfl⟩, hW, hsame.mono (by decide) (by decide)⟩
theorem ef_0 (m : MethodId) (x0 : Int32) : entryFrame m #[(.int x0)] maxLocals = mkF m 0 #[.val (.int x0), .unset, .unset] [] := by first | (simp [entryFrame, mkF, argsToLocals, Value.category, maxLocals]; done) | rfl
theorem pn_1 : plainName "com/example/attest/attest/XmlWhiteSpaceIsWhiteSpacePinLaw" = true := by first | (simp [plainName, overriddenIn]; done) | decide +kernel
theorem pd_0 : parseMethodDescriptor "(C)Z" = some ⟨[.char], some .boolean⟩ := by decide +kernel
def Q0 (Z : State) (p0 : Int32) (h0 : Heap) (n0 : Nat) (v : Option Value) (h : Heap) (L : List Loc) : Prop := v = some (.int 1) ∧ Fr n0 L
set_option maxRecDepth 65536 in
set_option maxHeartbeats 40000000 in
theorem rm0 (l : Launch) (Z : State) (a0 : Array Value) (hw : ∀ d ∈ tables_1, d.before a0 Z = true) (ws : List Jvm.Cond) (p0 : Int32)  (h0 : Heap) (n0 : Nat) (Z0 : n0 ≤ h0.size)  :
    MetFree l x (head1 (Jvm.Cond.code x code maxLocals ret :: ws) room_1) (fun a U => a = #[(.int p0)] ∧ Z.Warmed39 U.vm ∧ U.heap = h0) (fun _ _ _ _ _ => True) (fun _ U o U' => ∃ v L, o = .returned v ∧ Q0 Z p0 h0 n0 v U'.heap L ∧ FrameEnd U o U' L 0 0) := by
  refine MetFree.of_bodySF (plainFor_of_name pn_1) hisR ?_
  intro p e s m args below meth c s₁ Bd hml0 hP hK
  obtain ⟨rfl, hZ, hh⟩ := hP
  have hx := Bd.exec
  have hby := Bd.bytes
  have hml : c.maxLocals = 3 := hml0
  have hown : s.vm.findClass "com/example/attest/attest/XmlWhiteSpaceIsWhiteSpacePinLaw" = some m.cls := findClass_of_methodNamed Bd.named
  have hnm := (name_of_methodNamed Bd.named Bd.method).1
  have X0 : Stand p l e room_1 s m #[(.int p0)] below meth c s₁ [] 0 0 := Stand.of_body Bd
  have e0 : s₁.heap = h0 := by rw [← hh, Bd.state]; rfl
  have N0 := Fr.nil n0
  obtain ⟨S0, hS0⟩ : ∃ z, z = s₁.setTop (entryFrame m #[(.int p0)] maxLocals) := ⟨_, rfl⟩
  have pre0 : Go p.tables e below S0 s₁ (mkF m 0 #[vI p0, .unset, .unset] []) := fun t k => by rw [hS0]; exact castTop (ef_0 m p0) k
  obtain ⟨v1, hv1, pre1⟩ : ∃ z : Int32, z = (p0.toUInt32.toUInt16.toUInt32.toInt32) ∧ Go p.tables e below S0 s₁ (mkF m 3 #[vI p0, vI z, .unset] []) := ⟨_, rfl, fun t k => pre0 t (by
    refine XS.iloadN X0.here hx rfl (hb hby at_0) rfl ?_
    show Steps p.tables e below (s₁.setTop (mkF m 1 #[vI p0, .unset, .unset] [(.int p0)])) _
    refine XS.i2c X0.here hx rfl (hb hby at_1) rfl ?_
    show Steps p.tables e below (s₁.setTop (mkF m 2 #[vI p0, .unset, .unset] [(.int (p0.toUInt32.toUInt16.toUInt32.toInt32))])) _
    refine XS.istoreN X0.here hx rfl (hb hby at_2) rfl (l' := #[vI p0, vI (p0.toUInt32.toUInt16.toUInt32.toInt32), .unset]) rfl ?_
    show Steps p.tables e below (s₁.setTop (mkF m 3 #[vI p0, vI (p0.toUInt32.toUInt16.toUInt32.toInt32), .unset] [])) _
    exact k)⟩
  have pre2 : Go p.tables e below S0 s₁ (mkF m 6 #[vI p0, vI v1, .unset] [(.int (64 : Int32)), (.int v1)]) := fun t k => pre1 t (by
    refine XS.iloadN X0.here hx rfl (hb hby at_3) rfl ?_
    show Steps p.tables e below (s₁.setTop (mkF m 4 #[vI p0, vI v1, .unset] [(.int v1)])) _
    refine XS.bipush X0.here hx rfl (hb hby at_4) ?_
    show Steps p.tables e below (s₁.setTop (mkF m 6 #[vI p0, vI v1, .unset] [(.int (64 : Int32)), (.int v1)])) _
    exact k)
  refine cps (A := ∃ (j26_s0_9 : Int32), (((j26_s0_9 = (0 : Int32)) ∧ (v1 < (64 : Int32)) ∧ (((((4294977024 : Int64).toUInt64 >>> (v1 &&& 0x3f).toInt64.toUInt64).toInt64) &&& (1 : Int64)) = (0 : Int64))) ∨ ((j26_s0_9 = (1 : Int32)) ∧ (v1 < (64 : Int32)) ∧ (¬ (((((4294977024 : Int64).toUInt64 >>> (v1 &&& 0x3f).toInt64.toUInt64).toInt64) &&& (1 : Int64)) = (0 : Int64)))) ∨ ((j26_s0_9 = (0 : Int32)) ∧ (¬ (v1 < (64 : Int32))))) ∧ (Go p.tables e below S0 s₁ (mkF m 26 #[vI p0, vI v1, .unset] [(.int j26_s0_9)]))) (fun tail12 => ?_) ?_
  · skip
    by_cases c6_3 : v1 < (64 : Int32)
    · skip
      have pre4 : Go p.tables e below S0 s₁ (mkF m 18 #[vI p0, vI v1, .unset] [(.int (lcmpW ((((4294977024 : Int64).toUInt64 >>> (v1 &&& 0x3f).toInt64.toUInt64).toInt64) &&& (1 : Int64)) (0 : Int64)))]) := fun t k => pre2 t (by
        refine XS.icmpNo X0.here hx rfl (hb hby at_6) rfl (tlt c6_3).2.1 ?_
        show Steps p.tables e below (s₁.setTop (mkF m 9 #[vI p0, vI v1, .unset] [])) _
        refine X0.ldc2Long hx hown (mvT hZ (hw _ (List.mem_of_getElem? (i := 0) rfl))) (g := (mkF m 9 #[vI p0, vI v1, .unset] [])) rfl (hb hby at_9) _ ?_
        show Steps p.tables e below (s₁.setTop (mkF m 12 #[vI p0, vI v1, .unset] [(.long (4294977024 : Int64))])) _
        refine XS.iloadN X0.here hx rfl (hb hby at_12) rfl ?_
        show Steps p.tables e below (s₁.setTop (mkF m 13 #[vI p0, vI v1, .unset] [(.int v1), (.long (4294977024 : Int64))])) _
        refine XS.lushr X0.here hx rfl (hb hby at_13) rfl ?_
        show Steps p.tables e below (s₁.setTop (mkF m 14 #[vI p0, vI v1, .unset] [(.long (((4294977024 : Int64).toUInt64 >>> (v1 &&& 0x3f).toInt64.toUInt64).toInt64))])) _
        refine XS.lconst X0.here hx rfl (hb hby at_14) ?_
        show Steps p.tables e below (s₁.setTop (mkF m 15 #[vI p0, vI v1, .unset] [(.long (1 : Int64)), (.long (((4294977024 : Int64).toUInt64 >>> (v1 &&& 0x3f).toInt64.toUInt64).toInt64))])) _
        refine XS.land X0.here hx rfl (hb hby at_15) rfl ?_
        show Steps p.tables e below (s₁.setTop (mkF m 16 #[vI p0, vI v1, .unset] [(.long ((((4294977024 : Int64).toUInt64 >>> (v1 &&& 0x3f).toInt64.toUInt64).toInt64) &&& (1 : Int64)))])) _
        refine XS.lconst X0.here hx rfl (hb hby at_16) ?_
        show Steps p.tables e below (s₁.setTop (mkF m 17 #[vI p0, vI v1, .unset] [(.long (0 : Int64)), (.long ((((4294977024 : Int64).toUInt64 >>> (v1 &&& 0x3f).toInt64.toUInt64).toInt64) &&& (1 : Int64)))])) _
        refine XS.lcmp X0.here hx rfl (hb hby at_17) rfl ?_
        show Steps p.tables e below (s₁.setTop (mkF m 18 #[vI p0, vI v1, .unset] [(.int (lcmpW ((((4294977024 : Int64).toUInt64 >>> (v1 &&& 0x3f).toInt64.toUInt64).toInt64) &&& (1 : Int64)) (0 : Int64)))])) _
        exact k)
      by_cases c18_5 : ((((4294977024 : Int64).toUInt64 >>> (v1 &&& 0x3f).toInt64.toUInt64).toInt64) &&& (1 : Int64)) = (0 : Int64)
      · skip
        have pre6 : Go p.tables e below S0 s₁ (mkF m 26 #[vI p0, vI v1, .unset] [(.int (0 : Int32))]) := fun t k => pre4 t (by
          refine XS.ifYes X0.here hx rfl (pc0 := 18) (pc' := 25) rfl (hb hby at_18) rfl ((if0 _ _).trans (teq ((lw_eq _ _).mpr c18_5)).1) (by decide) (by decide) ?_
          show Steps p.tables e below (s₁.setTop (mkF m 25 #[vI p0, vI v1, .unset] [])) _
          refine XS.iconst X0.here hx rfl (hb hby at_25) ?_
          show Steps p.tables e below (s₁.setTop (mkF m 26 #[vI p0, vI v1, .unset] [(.int (0 : Int32))])) _
          exact k)
        exact tail12 ⟨(0 : Int32), (Or.inl ⟨rfl, c6_3, c18_5⟩), pre6⟩
      · skip
        have pre7 : Go p.tables e below S0 s₁ (mkF m 26 #[vI p0, vI v1, .unset] [(.int (1 : Int32))]) := fun t k => pre4 t (by
          refine XS.ifNo X0.here hx rfl (hb hby at_18) rfl ((if0 _ _).trans (feq (fun q => c18_5 ((lw_eq _ _).mp q))).1) ?_
          show Steps p.tables e below (s₁.setTop (mkF m 21 #[vI p0, vI v1, .unset] [])) _
          refine XS.iconst X0.here hx rfl (hb hby at_21) ?_
          show Steps p.tables e below (s₁.setTop (mkF m 22 #[vI p0, vI v1, .unset] [(.int (1 : Int32))])) _
          refine XS.goto X0.here hx rfl (pc0 := 22) (pc' := 26) rfl (hb hby at_22) (by decide) (by decide) ?_
          show Steps p.tables e below (s₁.setTop (mkF m 26 #[vI p0, vI v1, .unset] [(.int (1 : Int32))])) _
          exact k)
        exact tail12 ⟨(1 : Int32), (Or.inr (Or.inl ⟨rfl, c6_3, c18_5⟩)), pre7⟩
    · skip
      have pre8 : Go p.tables e below S0 s₁ (mkF m 26 #[vI p0, vI v1, .unset] [(.int (0 : Int32))]) := fun t k => pre2 t (by
        refine XS.icmpYes X0.here hx rfl (pc0 := 6) (pc' := 25) rfl (hb hby at_6) rfl (flt c6_3).2.1 (by decide) (by decide) ?_
        show Steps p.tables e below (s₁.setTop (mkF m 25 #[vI p0, vI v1, .unset] [])) _
        refine XS.iconst X0.here hx rfl (hb hby at_25) ?_
        show Steps p.tables e below (s₁.setTop (mkF m 26 #[vI p0, vI v1, .unset] [(.int (0 : Int32))])) _
        exact k)
      exact tail12 ⟨(0 : Int32), (Or.inr (Or.inr ⟨rfl, c6_3⟩)), pre8⟩
  rintro ⟨j26_s0_9, hj26_10, pre11⟩
  have key : own_ws v1 = j26_s0_9 := own_key _ _ (by rw [hv1]; exact own_char _) (by first | exact hj26_10 | (rcases hj26_10 with q | q | q <;> simp_all))
  have pre13 : Go p.tables e below S0 s₁ (mkF m 28 #[vI p0, vI v1, vI j26_s0_9] [(.int v1)]) := fun t k => pre11 t (by
    refine XS.istoreN X0.here hx rfl (hb hby at_26) rfl (l' := #[vI p0, vI v1, vI j26_s0_9]) rfl ?_
    show Steps p.tables e below (s₁.setTop (mkF m 27 #[vI p0, vI v1, vI j26_s0_9] [])) _
    refine XS.iloadN X0.here hx rfl (hb hby at_27) rfl ?_
    show Steps p.tables e below (s₁.setTop (mkF m 28 #[vI p0, vI v1, vI j26_s0_9] [(.int v1)])) _
    exact k)
  obtain ⟨_, _, ⟨T14, L14, k14, n14⟩, -, X14, ⟨Lc14, hQ14, l14, y14, z14⟩, st14⟩ := Jvm.LawKit.callS X0 hx (y := (⟨"com/example/attest/attest/XmlWhiteSpace", "isWhiteSpace", "(C)Z"⟩ : MethodName)) hown (mvT hZ (hw _ (List.mem_of_getElem? (i := 1) rfl))) (mvT hZ (hw _ (List.mem_of_getElem? (i := 2) rfl))) (mvT hZ (hw _ (List.mem_of_getElem? (i := 3) rfl))) (mvT hZ (hw _ (List.mem_of_getElem? (i := 4) rfl))) (by decide) (backOf (W := 0) (rm1 l Z a0 hw [] v1 h0 n0 Z0) hZ (hw _ (List.mem_of_getElem? (i := 4) rfl)) (hw _ (List.mem_of_getElem? (i := 3) rfl)) (by decide) (by decide)) (g := (mkF m 28 #[vI p0, vI v1, vI j26_s0_9] [(.int v1)])) rfl (by rw [hml]; rfl) (argsL := [(.int v1)]) (rest := []) (lenOf pd_0 rfl) rfl (by show 2 * 0 + _ ≤ _; exact Nat.le_of_eq rfl) (hb hby at_28) (fun _ _ => ⟨rfl, e0, (by decide : 0 + 0 ≤ _), (by decide : 0 + 0 ≤ _)⟩)
  dsimp only [Pt.U, Pt.locs, Pt.cells, Pt.slots] at X14 l14 y14 z14 st14 hQ14
  subst l14 y14 z14
  obtain ⟨rfl, Nq14, eq14⟩ := hQ14
  have N14 := Fr.app N0 Nq14
  have pre14 : Go p.tables e below S0 T14 (mkF m 31 #[vI p0, vI v1, vI j26_s0_9] [(.int (own_ws v1))]) := fun t k => pre13 t (st14 t k)
  have pre15 : Go p.tables e below S0 T14 (mkF m 32 #[vI p0, vI v1, vI j26_s0_9] [(.int j26_s0_9), (.int (own_ws v1))]) := fun t k => pre14 t (by
    refine XS.iloadN X14.here hx rfl (hb hby at_31) rfl ?_
    show Steps p.tables e below (T14.setTop (mkF m 32 #[vI p0, vI v1, vI j26_s0_9] [(.int j26_s0_9), (.int (own_ws v1))])) _
    exact k)
  have cc16 : (own_ws v1) = j26_s0_9 := key
  have pre17 : Go p.tables e below S0 T14 (mkF m 40 #[vI p0, vI v1, vI j26_s0_9] [(.int (1 : Int32))]) := fun t k => pre15 t (by
    refine XS.icmpNo X14.here hx rfl (hb hby at_32) rfl (teq cc16).2 ?_
    show Steps p.tables e below (T14.setTop (mkF m 35 #[vI p0, vI v1, vI j26_s0_9] [])) _
    refine XS.iconst X14.here hx rfl (hb hby at_35) ?_
    show Steps p.tables e below (T14.setTop (mkF m 36 #[vI p0, vI v1, vI j26_s0_9] [(.int (1 : Int32))])) _
    refine XS.goto X14.here hx rfl (pc0 := 36) (pc' := 40) rfl (hb hby at_36) (by decide) (by decide) ?_
    show Steps p.tables e below (T14.setTop (mkF m 40 #[vI p0, vI v1, vI j26_s0_9] [(.int (1 : Int32))])) _
    exact k)
  obtain ⟨fs, hr, hrun, hended, hW, hsame⟩ := X14.leave (v := some (.int (1 : Int32))) (fun h => by rw [Bd.returns] at h; cases h)
  exact ⟨_, _, pre17.fin hS0 (retN X14 hx (t := .boolean) Bd.returns (by simp) (hb hby at_40) hr), hrun, hended, _, _, rfl, (by
    show Q0 Z p0 h0 n0 _ T14.heap _
    rw [eq14]
    exact ⟨rfl, N14⟩), ⟨_, rfl⟩, hW, hsame.mono (by decide) (by decide)⟩
set_option maxRecDepth 65536 in
set_option maxHeartbeats 40000000 in
theorem comes_1 {Post : Tables → Env → Array Value → State → Outcome → State → Prop} (hpost : ∀ tb e args s v u, (limb_1_1.after args s (.returned v) u = true ∧ limb_1_2.after args s (.returned v) u = true ∧ True) → FrameEnd s (.returned v) u (Jvm.fieldLocs frame_1_writes args s ++ Jvm.arrayLocs frame_1_arrays args s ++ Jvm.staticLocs frame_1_statics s) 0 0 → Post tb e args s (.returned v) u) :
    ArmFor flags0 classFile x code maxLocals ret World_1 tables_1 room_1 Calls_1 rest_1 Pre_1 Post := by
  intro l hfl _ _ p e ha hc hk s m args below hf hA hF happ hP
  obtain ⟨hcalls, hrest, hpre⟩ := hP
  obtain ⟨-, -, -, hnamed, -, -, -, hat⟩ := (Spec.applies_iff hf).mp happ
  obtain ⟨hg, hn⟩ := and_e (Cond.before_iff.mp (show (Jvm.Cond.and given_1 narrow_1).before args s = true from hpre))
  obtain ⟨g0, r0⟩ := and_e hg
  obtain ⟨w0, rfl⟩ : ∃ w0 : Value, args = #[w0] := by
    have hs : args.size = 1 := by simpa [Cond.value, given_1] using g0
    obtain ⟨L⟩ := args
    match L, hs with
    | [w0], _ => exact ⟨w0, rfl⟩
  have hw := fun d (hd : d ∈ tables_1) => atoms_spec (ws := Jvm.Cond.code x code maxLocals ret :: tables_1) hat d (List.mem_cons_of_mem _ hd)
  obtain ⟨i0, ei0⟩ := is_v r0
  obtain rfl : w0 = (.int i0) := Option.some.inj ei0
  obtain ⟨n, o, h1, h2, h3, _, L, rfl, ⟨rfl, N⟩, hq⟩ := rm0 l s _ hw tables_1 i0  s.heap s.heap.size (Nat.le_refl _) p e ha hc hk s m _ below hf ((Spec.applies_iff_loose hf).mp happ).1 ⟨rfl, State.Warmed39.refl s, rfl⟩ trivial
  refine ⟨n, _, h1, h2, h3, hpost _ _ _ _ _ _ ⟨Cond.after_iff.mpr rfl, Cond.after_iff.mpr (eq_i res_at (Term.int_eval (1)) rfl), trivial⟩ ⟨hq.1, hq.2.1, (hq.2.2.sift fun y hy => Or.inr (N y hy)).mono (by decide) (by decide)⟩⟩
theorem main_1_1 : Claimed_1_1 := comes_1 fun _ _ _ _ _ _ h hF => ⟨h.1, hF⟩
theorem main_1_2 : Claimed_1_2 := comes_1 fun _ _ _ _ _ _ h hF => ⟨h.2.1, hF⟩
end Jvm.Pilot.@@N@@
namespace Jvm.Pilot.@@N@@
open Jvm Jvm.ClassFile Sem Op Lib Jvm.Free Jvm.Stand Jvm.Pilot.@@N@@.Jvm.D
/-! MADE BY PROGRAM (witnessworld.py) out of the Statement's table words and the real class files: 9 classes; the members and pool entries that the words name. The judged class is class 1, her method 1. -/
namespace start1
open Jvm.ClassFile
def u (s : String) : CpInfo := .utf8 (stringToUtf16 s)
/-- a pool by its gaps: so many unusable entries, then the entry; so many at the end -/
def gap : Nat → List CpInfo → List CpInfo
  | 0, r => r
  | n + 1, r => .unusable :: gap n r
def poolList (es : List (Nat × CpInfo)) (last : Nat) : List CpInfo := es.foldr (fun e r => gap e.1 (e.2 :: r)) (gap last [])
def pool (es : List (Nat × CpInfo)) (last : Nat) : Array CpInfo := ⟨poolList es last⟩
def fileOf (pool : Array CpInfo) (this : Nat) (attrs : Array Attribute := #[]) (ms : Array MethodInfo := #[]) (fl : Nat := 33) (sup : Nat := 0) (ifs : Array Nat := #[]) (fds : Array FieldInfo := #[]) : ClassFile where
  minorVersion := 0
  majorVersion := 65
  constantPool := pool
  accessFlags := fl
  thisClass := this
  superClass := sup
  interfaces := ifs
  fields := fds
  methods := ms
  attributes := attrs
def plain (name : String) (sup : Option ClassId) : Class where
  name := name
  kind := .ordinary
  loader := none
  accessFlags := 33
  super := sup
  interfaces := #[]
  cf := none
  fields := #[]
  methods := #[]
  instanceTypes := #[]
  staticTypes := #[]
  resolved := #[]
  callSites := []
  init := .initialized
  statics := none
  mirror := none

def pool0 : Array CpInfo := pool [(5, u "<init>"), (0, u "()V"), (1, .class_ 10), (1, u "java/lang/Object")] 113

def k0m0 : Method := { name := "<init>", desc := "()V", sig := { parameters := [], returnType := none }, accessFlags := 1, code := none }
/-- java/lang/Object -/
def k0 : Class := { plain "java/lang/Object" none with
  accessFlags := 33
  interfaces := #[]
  cf := some (fileOf pool0 8 #[] #[{ accessFlags := 1, nameIndex := 5, descriptorIndex := 6, attributes := #[] }] 33 0 #[] #[])
  fields := #[]
  methods := #[k0m0]
  instanceTypes := #[]
  staticTypes := #[]
  resolved := Array.replicate 124 none
  statics := none }

def pool1 : Array CpInfo := pool [(2, .class_ 4), (1, u "java/lang/Object"), (0, u "<init>"), (0, u "()V"), (0, .class_ 8), (0, u "com/example/attest/attest/XmlWhiteSpaceIsWhiteSpacePinLaw"), (0, .long 4294977024), (1, .methodref 12 13), (0, .class_ 14), (0, .nameAndType 15 16), (0, u "com/example/attest/attest/XmlWhiteSpace"), (0, u "isWhiteSpace"), (0, u "(C)Z"), (0, u "S_MASK"), (0, u "J"), (3, u "law"), (0, u "(I)Z")] 3

def k1m0 : Method := { name := "<init>", desc := "()V", sig := { parameters := [], returnType := none }, accessFlags := 2, code := none }
def k1c1 : Code := { maxStack := 4, maxLocals := 3, code := code, exceptionTable := #[], attributes := #[] }
def k1m1 : Method := { name := "law", desc := "(I)Z", sig := { parameters := [.int], returnType := some .boolean }, accessFlags := 9, code := some k1c1 }
/-- com/example/attest/attest/XmlWhiteSpaceIsWhiteSpacePinLaw -/
def k1 : Class := { plain "com/example/attest/attest/XmlWhiteSpaceIsWhiteSpacePinLaw" (some 0) with
  accessFlags := 49
  interfaces := #[]
  cf := some (fileOf pool1 7 #[] #[{ accessFlags := 2, nameIndex := 5, descriptorIndex := 6, attributes := #[] }, { accessFlags := 9, nameIndex := 22, descriptorIndex := 23, attributes := #[] }] 49 2 #[] #[{ accessFlags := 26, nameIndex := 17, descriptorIndex := 18, attributes := #[] }])
  fields := #[{ name := "S_MASK", type := .long, accessFlags := 26, slot := 0, constantValue := 0 }]
  methods := #[k1m0, k1m1]
  instanceTypes := #[]
  staticTypes := #[.long]
  resolved := Array.replicate 27 none
  statics := none }

def pool2 : Array CpInfo := pool [(2, .class_ 4), (1, u "java/lang/Object"), (0, u "<init>"), (0, u "()V"), (14, .class_ 23), (1, u "com/example/attest/attest/XmlWhiteSpace"), (0, u "isWhiteSpace"), (0, u "(C)Z")] 16

def k2m0 : Method := { name := "<init>", desc := "()V", sig := { parameters := [], returnType := none }, accessFlags := 2, code := none }
def k2c1 : Code := { maxStack := 2, maxLocals := 1, code := prog_3_method_2_code, exceptionTable := #[], attributes := #[] }
def k2m1 : Method := { name := "isWhiteSpace", desc := "(C)Z", sig := { parameters := [.char], returnType := some .boolean }, accessFlags := 9, code := some k2c1 }
/-- com/example/attest/attest/XmlWhiteSpace -/
def k2 : Class := { plain "com/example/attest/attest/XmlWhiteSpace" (some 0) with
  accessFlags := 49
  interfaces := #[]
  cf := some (fileOf pool2 21 #[] #[{ accessFlags := 2, nameIndex := 5, descriptorIndex := 6, attributes := #[] }, { accessFlags := 9, nameIndex := 24, descriptorIndex := 25, attributes := #[] }] 49 2 #[] #[])
  fields := #[]
  methods := #[k2m0, k2m1]
  instanceTypes := #[]
  staticTypes := #[]
  resolved := Array.replicate 42 none
  statics := none }

def pool3 : Array CpInfo := pool [(1, u "java/lang/Cloneable"), (0, .class_ 1), (0, u "java/lang/Object"), (0, .class_ 3)] 3

/-- java/lang/Cloneable -/
def k3 : Class := { plain "java/lang/Cloneable" (some 0) with
  accessFlags := 1537
  interfaces := #[]
  cf := some (fileOf pool3 2 #[] #[] 1537 4 #[] #[])
  fields := #[]
  methods := #[]
  instanceTypes := #[]
  staticTypes := #[]
  resolved := Array.replicate 8 none
  statics := none }

def pool4 : Array CpInfo := pool [(1, u "java/io/Serializable"), (0, .class_ 1), (0, u "java/lang/Object"), (0, .class_ 3)] 3

/-- java/io/Serializable -/
def k4 : Class := { plain "java/io/Serializable" (some 0) with
  accessFlags := 1537
  interfaces := #[]
  cf := some (fileOf pool4 2 #[] #[] 1537 4 #[] #[])
  fields := #[]
  methods := #[]
  instanceTypes := #[]
  staticTypes := #[]
  resolved := Array.replicate 8 none
  statics := none }

/-- the primitive byte -/
def k5 : Class := { plain "byte" none with kind := .primitive 'B', accessFlags := 0x411 }
/-- [B -/
def k6 : Class := { plain "[B" (some 0) with kind := .array 5 .byte, interfaces := #[3, 4], accessFlags := 1041 }

/-- the primitive int -/
def k7 : Class := { plain "int" none with kind := .primitive 'I', accessFlags := 0x411 }
/-- [I -/
def k8 : Class := { plain "[I" (some 0) with kind := .array 7 .int, interfaces := #[3, 4], accessFlags := 1041 }

def heap : Heap := #[]
def classes : Array Class := #[k0, k1, k2, k3, k4, k5, k6, k7, k8]
def interned : List (Array UInt16 × Addr) := []
def slotsUsed : Nat := 0
def theMethod : MethodId := ⟨1, 1⟩
def args0 : Array Value := #[.int 5]
def aboutOver (below : List Frame) : State where
  vm := { classes := classes, interned := interned.toArray }
  heap := heap
  slotsUsed := slotsUsed
  threads := #[{ frames := .invoking theMethod args0 :: below }]
def below0 : List Frame := [.native { method := ⟨0, 0⟩, args := #[] }]
def about1 : State := aboutOver below0
def p0 : Program := .bare "" "" ""
def e0 : Env := launch0.env 0 0 0
theorem w_frames : about1.frames = Frame.invoking theMethod args0 :: below0 := rfl
set_option maxRecDepth 65536 in
theorem w_args : argsFit about1.vm theMethod args0 = true := by decide +kernel
set_option maxRecDepth 65536 in
theorem w_heap : heapFits about1 = true := by decide +kernel
set_option maxRecDepth 65536 in
theorem w_runnable : about1.curStatus? = some .runnable := by decide +kernel
set_option maxRecDepth 65536 in
theorem w_alone : about1.alone = true := by decide +kernel
set_option maxRecDepth 65536 in
theorem w_named : about1.methodNamed? x = some theMethod := by decide +kernel
set_option maxRecDepth 65536 in
theorem w_hears : about1.hears theMethod below0 = true := by decide +kernel
set_option maxRecDepth 65536 in
theorem w_ripe : about1.ripe theMethod args0 below0 = true := by decide +kernel
theorem w_running : about1.status = .running := rfl
set_option maxRecDepth 65536 in
theorem w_room : about1.hasRoom e0.platform room_1 = true :=
  launch0.hasRoom_least _ room_1 (by decide +kernel) (by decide +kernel) (by decide +kernel) (by decide +kernel) (by decide +kernel) (by decide +kernel)
theorem allAtoms_all (ts : List Jvm.Cond) (a : Array Jvm.Value) (st : Jvm.State) : (allAtoms ts).before a st = ts.all (fun c => c.before a st) := by
  induction ts with
  | nil => rfl
  | cons c t ih =>
    show (Jvm.Cond.and c (allAtoms t)).before a st = _
    rw [Jvm.Cond.before_and, ih, List.all_cons]
def words1 : List Jvm.Cond := Jvm.Cond.code x code maxLocals ret :: tables_1
/-- a 'code' word, met by the world's own term for the bytes: nothing is compared byte by byte -/
theorem code_word {y : MethodName} {bytes : ByteArray} {mx : Nat} {rt : Option FieldType} {a : Array Value} {s : State} {m : MethodId} {meth : Method} {c : Code} (h1 : s.methodNamed? y = some m) (h2 : s.vm.method? m = some meth) (h3 : meth.code = some c) (h4 : c.code = bytes)
    (h5 : (c.maxLocals == mx && c.exceptionTable.isEmpty && decide (c.maxStack ≤ mostOperands) && decide (meth.sig.returnType = rt) && !meth.locks && decide (parseMethodDescriptor y.desc = some meth.sig)) = true) : (Jvm.Cond.code y bytes mx rt).before a s = true := by
  simp only [Bool.and_eq_true, beq_iff_eq, Bool.not_eq_true', decide_eq_true_eq] at h5
  obtain ⟨⟨⟨⟨⟨g1, g2⟩, g3⟩, g4⟩, g5⟩, g6⟩ := h5
  simp [Cond.before, Cond.holds, Cond.value, h1, h2, h3, h4, g1, g2, g3, g4, g5, g6]
def isCode : Jvm.Cond → Bool
  | .code _ _ _ _ => true
  | _ => false
theorem all_split {L : List Jvm.Cond} {P : Jvm.Cond → Bool} (h1 : L.all (fun c => isCode c || P c) = true) (h2 : ∀ c ∈ L.filter isCode, P c = true) : L.all P = true := by
  refine List.all_eq_true.mpr fun c hc => ?_
  have h := List.all_eq_true.mp h1 c hc
  rcases Bool.eq_false_or_eq_true (isCode c) with hi | hi
  · exact h2 c (List.mem_filter.mpr ⟨hc, hi⟩)
  · simpa [hi] using h
set_option maxRecDepth 65536 in
theorem w_c0 : (Jvm.Cond.code x code maxLocals ret).before args0 about1 = true := code_word (m := ⟨1, 1⟩) (meth := k1m1) (c := k1c1) (by decide +kernel) rfl rfl rfl (by decide +kernel)
set_option maxRecDepth 65536 in
theorem w_c1 : (Jvm.Cond.code ({ cls := "com/example/attest/attest/XmlWhiteSpace", name := "isWhiteSpace", desc := "(C)Z" } : Jvm.MethodName) prog_3_method_2_code (1 : Nat) (Option.some Jvm.ClassFile.FieldType.boolean)).before args0 about1 = true := code_word (m := ⟨2, 1⟩) (meth := k2m1) (c := k2c1) (by decide +kernel) rfl rfl rfl (by decide +kernel)
def codes1 : List Jvm.Cond := [Jvm.Cond.code x code maxLocals ret, Jvm.Cond.code ({ cls := "com/example/attest/attest/XmlWhiteSpace", name := "isWhiteSpace", desc := "(C)Z" } : Jvm.MethodName) prog_3_method_2_code (1 : Nat) (Option.some Jvm.ClassFile.FieldType.boolean)]
set_option maxRecDepth 65536 in
theorem codes_eq : words1.filter isCode = codes1 := rfl
theorem w_codes : ∀ c ∈ words1.filter isCode, c.before args0 about1 = true := by
  rw [codes_eq]
  intro c hc
  simp only [codes1, List.mem_cons, List.not_mem_nil, or_false] at hc
  rcases hc with rfl | rfl
  · exact w_c0
  · exact w_c1
set_option maxRecDepth 65536 in
theorem w_t1 : words1.all (fun c => isCode c || c.before args0 about1) = true := by decide +kernel
theorem w_tables : (allAtoms (Jvm.Cond.code x code maxLocals ret :: tables_1)).before args0 about1 = true := by
  rw [allAtoms_all]
  show words1.all (fun c => c.before args0 about1) = true
  refine all_split ?_ w_codes
  rw [w_t1]
set_option maxRecDepth 65536 in
theorem w_case : (Jvm.Cond.and given_1 narrow_1).before args0 about1 = true := by decide +kernel
theorem w_applies : (headSpec (Jvm.Cond.code x code maxLocals ret :: tables_1) room_1).applies x e0.platform about1 = true :=
  (Spec.applies_iff w_frames).mpr ⟨w_running, w_runnable, w_alone, w_named, w_hears, w_ripe, w_room, w_tables⟩
theorem atStart : AtStart classFile x code maxLocals ret World_1 tables_1 room_1 Calls_1 rest_1 Pre_1 launch0 p0 e0 about1 theMethod args0 below0 :=
  ⟨lists_1, trivial, launch0.admits_env _ _ _, launch0.least_env, fairChoices_fair.cas, fairChoices_fair.clock, w_frames, w_args, w_heap, w_applies, trivial, trivial, w_case⟩
end start1
theorem witness_1 : WitnessClaimed_1 := ⟨start1.p0, start1.e0, start1.about1, start1.theMethod, start1.args0, start1.below0, start1.atStart⟩
end Jvm.Pilot.@@N@@
