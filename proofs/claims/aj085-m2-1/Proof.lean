import JvmDerived
import JvmDerived.Pilot.@@N@@Statement
import JvmDerived.Pilot.@@N@@Code
set_option linter.unusedVariables false
set_option linter.unusedSimpArgs false
namespace Jvm.RoadKit
open Sem ClassFile Op Lib Jvm.Stand Jvm.Free Jvm.LawKit
abbrev vI (x : Int32) : Slot := .val (.int x)
abbrev vJ (x : Int64) : Slot := .val (.long x)
abbrev vR (a : Addr) : Slot := .val (.ref a)
/-- from S0 the run comes to T with g on top -/
def Go (tb : Tables) (e : Env) (below : List Frame) (S0 T : State) (g : JFrame) : Prop := ∀ t, Steps tb e below (T.setTop g) t → Steps tb e below S0 t
theorem Go.fin {tb : Tables} {e : Env} {below : List Frame} {S0 S T t : State} {g : JFrame} (h : Go tb e below S0 T g) (q : S0 = S) (k : Steps tb e below (T.setTop g) t) : Steps tb e below S t := q ▸ h t k
section New
variable {p : Program} {l : Launch} {e : Env} {R : Room} {s : State} {m : MethodId} {args : Array Value} {below : List Frame} {meth : Method} {c : Code} {T : State} {locs : List Loc} {cells slots : Nat}
end New
end Jvm.RoadKit
namespace Jvm.Pilot.@@N@@
open Jvm Jvm.ClassFile Sem Op Lib Jvm.Free Jvm.Stand Jvm.LawKit Jvm.RoadKit Bundle Jvm.Pilot.@@N@@.Jvm.D
theorem ef_1 (m : MethodId) (x0 : Addr) (x1 : Int32) : entryFrame m #[(.ref x0), (.int x1)] 2 = mkF m 0 #[.val (.ref x0), .val (.int x1)] [] := by first | (simp [entryFrame, mkF, argsToLocals, Value.category]; done) | rfl
theorem pn_0 : plainName "com/example/tariff_riders/tariffriders/TermLength" = true := by first | (simp [plainName, overriddenIn]; done) | decide +kernel
theorem d1_0 : decode prog_39_method_1_code 0 = .ok (.aload_n 0, 1) := by decide +kernel
theorem d1_1 : decode prog_39_method_1_code 1 = .ok (.invokespecial 1, 3) := by decide +kernel
theorem d1_4 : decode prog_39_method_1_code 4 = .ok (.aload_n 0, 1) := by decide +kernel
theorem d1_5 : decode prog_39_method_1_code 5 = .ok (.iload_n 1, 1) := by decide +kernel
theorem d1_6 : decode prog_39_method_1_code 6 = .ok (.putfield 7, 3) := by decide +kernel
theorem d1_9 : decode prog_39_method_1_code 9 = .ok (.return_, 1) := by decide +kernel
def Q1 (Z : State) (a0 : Addr) (p1 : Int32) (h0 : Heap) (n0 : Nat) (v : Option Value) (h : Heap) (L : List Loc) : Prop := v = none ∧ Fr n0 L ∧ Keep h0 h [a0] ∧ (Exa Z h a0 "com/example/tariff_riders/tariffriders/TermLength") ∧ (Fld Z h a0 "com/example/tariff_riders/tariffriders/TermLength" "length" "I" (.int p1))
set_option maxRecDepth 65536 in
set_option maxHeartbeats 40000000 in
theorem rm1 (l : Launch) (Z : State) (A0 : Array Value) (hw : ∀ d ∈ tables_1, d.before A0 Z = true) (ws : List Jvm.Cond) (a0 : Addr) (p1 : Int32)  (h0 : Heap) (n0 : Nat) (Z0 : n0 ≤ h0.size) (E0 : Exa Z h0 a0 "com/example/tariff_riders/tariffriders/TermLength") (F_length : Fld Z h0 a0 "com/example/tariff_riders/tariffriders/TermLength" "length" "I" (.int (0 : Int32))) (g0 : n0 ≤ a0) :
    MetFree l (⟨"com/example/tariff_riders/tariffriders/TermLength", "<init>", "(I)V"⟩ : MethodName) (head1 (Jvm.Cond.code (⟨"com/example/tariff_riders/tariffriders/TermLength", "<init>", "(I)V"⟩ : MethodName) prog_39_method_1_code 2 none :: ws) ({ frames := 1, cells := 0, slots := 0, locals := 12 } : Room)) (fun a U => a = #[(.ref a0), (.int p1)] ∧ Z.Warmed39 U.vm ∧ U.heap = h0) (fun _ _ _ _ _ => True) (fun _ U o U' => ∃ v L, o = .returned v ∧ Q1 Z a0 p1 h0 n0 v U'.heap L ∧ FrameEnd U o U' L ({ frames := 1, cells := 0, slots := 0, locals := 12 } : Room).cells ({ frames := 1, cells := 0, slots := 0, locals := 12 } : Room).slots) := by
  refine MetFree.of_bodySF (plainFor_of_name pn_0) hisR ?_
  intro p e s m args below meth c s₁ Bd hml0 hP hK
  obtain ⟨rfl, hZ, hh⟩ := hP
  have hx := Bd.exec
  have hby := Bd.bytes
  have hml : c.maxLocals = 2 := hml0
  have hown : s.vm.findClass "com/example/tariff_riders/tariffriders/TermLength" = some m.cls := findClass_of_methodNamed Bd.named
  have hnm := (name_of_methodNamed Bd.named Bd.method).1
  have X0 : Stand p l e ({ frames := 1, cells := 0, slots := 0, locals := 12 } : Room) s m #[(.ref a0), (.int p1)] below meth c s₁ [] 0 0 := Stand.of_body Bd
  have e0 : s₁.heap = h0 := by rw [← hh, Bd.state]; rfl
  have N0 := Fr.nil n0
  have kp0 : Keep h0 h0 [a0] := Keep.refl _ _
  obtain ⟨S0, hS0⟩ : ∃ z, z = s₁.setTop (entryFrame m #[(.ref a0), (.int p1)] 2) := ⟨_, rfl⟩
  have pre0 : Go p.tables e below S0 s₁ (mkF m 0 #[vR a0, vI p1] []) := fun t k => by rw [hS0]; exact castTop (ef_1 m a0 p1) k
  have pre1 : Go p.tables e below S0 s₁ (mkF m 1 #[vR a0, vI p1] [(.ref a0)]) := fun t k => pre0 t (by
    refine XS.aloadN X0.here hx rfl (hb hby d1_0) rfl rfl ?_
    show Steps p.tables e below (s₁.setTop (mkF m 1 #[vR a0, vI p1] [(.ref a0)])) _
    exact k)
  obtain ⟨T2, X2, e2, st2⟩ := initO X0 hx hZ hown (hw _ (List.mem_of_getElem? (i := 7) rfl)) (hw _ (List.mem_of_getElem? (i := 8) rfl)) (hw _ (List.mem_of_getElem? (i := 9) rfl)) e0 (g := (mkF m 1 #[vR a0, vI p1] [(.ref a0)])) rfl (by rw [hml]; rfl) rfl (hb hby d1_1) (by decide) (W := 0) (by show 2 * 0 + _ ≤ _; exact Nat.le_of_eq rfl) (by decide)
  have pre2 : Go p.tables e below S0 T2 (mkF m 4 #[vR a0, vI p1] []) := fun t k => pre1 t (st2 t k)
  have pre3 : Go p.tables e below S0 T2 (mkF m 6 #[vR a0, vI p1] [(.int p1), (.ref a0)]) := fun t k => pre2 t (by
    refine XS.aloadN X2.here hx rfl (hb hby d1_4) rfl rfl ?_
    show Steps p.tables e below (T2.setTop (mkF m 5 #[vR a0, vI p1] [(.ref a0)])) _
    refine XS.iloadN X2.here hx rfl (hb hby d1_5) rfl ?_
    show Steps p.tables e below (T2.setTop (mkF m 6 #[vR a0, vI p1] [(.int p1), (.ref a0)])) _
    exact k)
  obtain ⟨T4, h4, X4, e4, W4, st4⟩ := putF X2 hx hZ hown (host := "") (Or.inl (hw _ (List.mem_of_getElem? (i := 10) rfl))) Via.refl e2 F_length E0 (Or.inr ⟨(hw _ (List.mem_of_getElem? (i := 11) rfl)), rfl, hnm⟩) (hw _ (List.mem_of_getElem? (i := 2) rfl)) (ty := .int) (by decide) rfl rfl (g := (mkF m 6 #[vR a0, vI p1] [(.int p1), (.ref a0)])) rfl rfl (hb hby d1_6)
  have pre4 : Go p.tables e below S0 T4 (mkF m 9 #[vR a0, vI p1] []) := fun t k => pre3 t (st4 t k)
  have N4 := Fr.snoc X4 N0 g0
  have fw4 : Fld Z h4 a0 "com/example/tariff_riders/tariffriders/TermLength" "length" "I" (.int p1) := Fld.same W4 F_length
  have f5_1 := Exa.wr W4 E0
  have zz6 : n0 ≤ h4.size := Nat.le_trans Z0 (Keep.of_wr W4).1
  have kp7 : Keep h0 h4 [a0] := kp0.wr W4 (Or.inl (List.mem_of_getElem? (i := 0) rfl))
  obtain ⟨fs, hr, hrun, hended, hW, hsame⟩ := X4.leave (v := none) (fun _ => rfl)
  exact ⟨_, _, pre4.fin hS0 (X4.returnOut hx Bd.returns (hb hby d1_9) hr), hrun, hended, _, _, rfl, (by
    show Q1 Z a0 p1 h0 n0 _ T4.heap _
    rw [e4]
    exact ⟨rfl, N4, kp7, f5_1, fw4⟩), ⟨_, rfl⟩, hW, hsame.mono (by decide) (by decide)⟩
def own_begins (w u : Int32) : Int32 := if u % w = (0 : Int32) then 1 else 0
theorem ef_3 (m : MethodId) (x0 : Addr) (x1 : Int32) : entryFrame m #[(.ref x0), (.int x1)] 2 = mkF m 0 #[.val (.ref x0), .val (.int x1)] [] := by first | (simp [entryFrame, mkF, argsToLocals, Value.category]; done) | rfl
theorem d3_0 : decode prog_39_method_3_code 0 = .ok (.iload_n 1, 1) := by decide +kernel
theorem d3_1 : decode prog_39_method_3_code 1 = .ok (.aload_n 0, 1) := by decide +kernel
theorem d3_2 : decode prog_39_method_3_code 2 = .ok (.getfield 7, 3) := by decide +kernel
theorem d3_5 : decode prog_39_method_3_code 5 = .ok (.irem, 1) := by decide +kernel
theorem d3_6 : decode prog_39_method_3_code 6 = .ok (.ifCond .ne 7, 3) := by decide +kernel
theorem d3_9 : decode prog_39_method_3_code 9 = .ok (.iconst 1, 1) := by decide +kernel
theorem d3_10 : decode prog_39_method_3_code 10 = .ok (.goto 4, 3) := by decide +kernel
theorem d3_13 : decode prog_39_method_3_code 13 = .ok (.iconst 0, 1) := by decide +kernel
theorem d3_14 : decode prog_39_method_3_code 14 = .ok (.ireturn, 1) := by decide +kernel
def Q3 (Z : State) (a0 : Addr) (p1 : Int32) (w_length : Int32) (h0 : Heap) (n0 : Nat) (v : Option Value) (h : Heap) (L : List Loc) : Prop := v = some (.int (own_begins w_length p1)) ∧ Fr n0 L ∧ h = h0
set_option maxRecDepth 65536 in
set_option maxHeartbeats 40000000 in
theorem rm3 (l : Launch) (Z : State) (A0 : Array Value) (hw : ∀ d ∈ tables_1, d.before A0 Z = true) (ws : List Jvm.Cond) (a0 : Addr) (p1 : Int32) (w_length : Int32) (h0 : Heap) (n0 : Nat) (Z0 : n0 ≤ h0.size) (F_length : Fld Z h0 a0 "com/example/tariff_riders/tariffriders/TermLength" "length" "I" (.int w_length)) (nz : w_length ≠ 0) :
    MetFree l (⟨"com/example/tariff_riders/tariffriders/TermLength", "beginsAfter", "(I)Z"⟩ : MethodName) (head1 (Jvm.Cond.code (⟨"com/example/tariff_riders/tariffriders/TermLength", "beginsAfter", "(I)Z"⟩ : MethodName) prog_39_method_3_code 2 (some .boolean) :: ws) ({ frames := 0, cells := 0, slots := 0, locals := 0 } : Room)) (fun a U => a = #[(.ref a0), (.int p1)] ∧ Z.Warmed39 U.vm ∧ U.heap = h0) (fun _ _ _ _ _ => True) (fun _ U o U' => ∃ v L, o = .returned v ∧ Q3 Z a0 p1 w_length h0 n0 v U'.heap L ∧ FrameEnd U o U' L ({ frames := 0, cells := 0, slots := 0, locals := 0 } : Room).cells ({ frames := 0, cells := 0, slots := 0, locals := 0 } : Room).slots) := by
  refine MetFree.of_bodySF (plainFor_of_name pn_0) hisR ?_
  intro p e s m args below meth c s₁ Bd hml0 hP hK
  obtain ⟨rfl, hZ, hh⟩ := hP
  have hx := Bd.exec
  have hby := Bd.bytes
  have hml : c.maxLocals = 2 := hml0
  have hown : s.vm.findClass "com/example/tariff_riders/tariffriders/TermLength" = some m.cls := findClass_of_methodNamed Bd.named
  have hnm := (name_of_methodNamed Bd.named Bd.method).1
  have X0 : Stand p l e ({ frames := 0, cells := 0, slots := 0, locals := 0 } : Room) s m #[(.ref a0), (.int p1)] below meth c s₁ [] 0 0 := Stand.of_body Bd
  have e0 : s₁.heap = h0 := by rw [← hh, Bd.state]; rfl
  have N0 := Fr.nil n0
  obtain ⟨S0, hS0⟩ : ∃ z, z = s₁.setTop (entryFrame m #[(.ref a0), (.int p1)] 2) := ⟨_, rfl⟩
  have pre0 : Go p.tables e below S0 s₁ (mkF m 0 #[vR a0, vI p1] []) := fun t k => by rw [hS0]; exact castTop (ef_3 m a0 p1) k
  have pre1 : Go p.tables e below S0 s₁ (mkF m 2 #[vR a0, vI p1] [(.ref a0), (.int p1)]) := fun t k => pre0 t (by
    refine XS.iloadN X0.here hx rfl (hb hby d3_0) rfl ?_
    show Steps p.tables e below (s₁.setTop (mkF m 1 #[vR a0, vI p1] [(.int p1)])) _
    refine XS.aloadN X0.here hx rfl (hb hby d3_1) rfl rfl ?_
    show Steps p.tables e below (s₁.setTop (mkF m 2 #[vR a0, vI p1] [(.ref a0), (.int p1)])) _
    exact k)
  obtain ⟨T2, X2, e2, st2⟩ := getF X0 hx hZ hown (host := "") (Or.inl (hw _ (List.mem_of_getElem? (i := 10) rfl))) Via.refl e0 F_length (g := (mkF m 2 #[vR a0, vI p1] [(.ref a0), (.int p1)])) rfl rfl (hb hby d3_2)
  have pre2 : Go p.tables e below S0 T2 (mkF m 5 #[vR a0, vI p1] [(.int w_length), (.int p1)]) := fun t k => pre1 t (st2 t k)
  have nz3 : w_length ≠ 0 := nz
  have pre4 : Go p.tables e below S0 T2 (mkF m 6 #[vR a0, vI p1] [(.int (p1 % w_length))]) := fun t k => pre2 t (by
    refine iremM X2 hx rfl (hb hby d3_5) rfl nz3 ?_
    show Steps p.tables e below (T2.setTop (mkF m 6 #[vR a0, vI p1] [(.int (p1 % w_length))])) _
    exact k)
  by_cases c6_5 : (p1 % w_length) = (0 : Int32)
  · skip
    have pre6 : Go p.tables e below S0 T2 (mkF m 14 #[vR a0, vI p1] [(.int (1 : Int32))]) := fun t k => pre4 t (by
      refine XS.ifNo X2.here hx rfl (hb hby d3_6) rfl ((if0 _ _).trans (teq c6_5).2) ?_
      show Steps p.tables e below (T2.setTop (mkF m 9 #[vR a0, vI p1] [])) _
      refine XS.iconst X2.here hx rfl (hb hby d3_9) ?_
      show Steps p.tables e below (T2.setTop (mkF m 10 #[vR a0, vI p1] [(.int (1 : Int32))])) _
      refine XS.goto X2.here hx rfl (pc0 := 10) (pc' := 14) rfl (hb hby d3_10) (by decide) (by decide) ?_
      show Steps p.tables e below (T2.setTop (mkF m 14 #[vR a0, vI p1] [(.int (1 : Int32))])) _
      exact k)
    obtain ⟨fs, hr, hrun, hended, hW, hsame⟩ := X2.leave (v := some (.int (1 : Int32))) (fun h => by rw [Bd.returns] at h; cases h)
    exact ⟨_, _, pre6.fin hS0 (retN X2 hx (t := .boolean) Bd.returns (by simp) (hb hby d3_14) hr), hrun, hended, _, _, rfl, (by
      show Q3 Z a0 p1 w_length h0 n0 _ T2.heap _
      rw [e2]
      exact ⟨congrArg (fun z => some (Value.int z)) (by simp [own_begins, c6_5]), N0, rfl⟩), ⟨_, rfl⟩, hW, hsame.mono (by decide) (by decide)⟩
  · skip
    have pre7 : Go p.tables e below S0 T2 (mkF m 14 #[vR a0, vI p1] [(.int (0 : Int32))]) := fun t k => pre4 t (by
      refine XS.ifYes X2.here hx rfl (pc0 := 6) (pc' := 13) rfl (hb hby d3_6) rfl ((if0 _ _).trans (feq c6_5).2) (by decide) (by decide) ?_
      show Steps p.tables e below (T2.setTop (mkF m 13 #[vR a0, vI p1] [])) _
      refine XS.iconst X2.here hx rfl (hb hby d3_13) ?_
      show Steps p.tables e below (T2.setTop (mkF m 14 #[vR a0, vI p1] [(.int (0 : Int32))])) _
      exact k)
    obtain ⟨fs, hr, hrun, hended, hW, hsame⟩ := X2.leave (v := some (.int (0 : Int32))) (fun h => by rw [Bd.returns] at h; cases h)
    exact ⟨_, _, pre7.fin hS0 (retN X2 hx (t := .boolean) Bd.returns (by simp) (hb hby d3_14) hr), hrun, hended, _, _, rfl, (by
      show Q3 Z a0 p1 w_length h0 n0 _ T2.heap _
      rw [e2]
      exact ⟨congrArg (fun z => some (Value.int z)) (by simp [own_begins, c6_5]), N0, rfl⟩), ⟨_, rfl⟩, hW, hsame.mono (by decide) (by decide)⟩
theorem own_and (a : Int32) : 0 ≤ (a &&& (2147483647 : Int32)).toInt := by
  rw [c_mask a (2147483647 : Int32) 31 (by decide) (by decide)]; omega
theorem own_n {a n : Int32} (h : n = (1 : Int32) + (a &&& (2147483647 : Int32)) % (2147483647 : Int32)) : 1 ≤ n.toInt := by
  have h1 := own_and a
  have h2 := (c_irem (a &&& (2147483647 : Int32)) (2147483647 : Int32) 2147483647 (by decide)).1 h1
  have h3 := c_iadd (1 : Int32) ((a &&& (2147483647 : Int32)) % (2147483647 : Int32))
  have h4 := rng32 n
  rw [← h, h2] at h3
  have : (1 : Int32).toInt = 1 := rfl
  omega
theorem own_nz {n : Int32} (h : 1 ≤ n.toInt) : n ≠ 0 := fun q => by
  rw [q] at h; exact absurd h (by decide)
theorem own_r {b n r : Int32} (h : r = (b &&& (2147483647 : Int32)) % n) (hn : 1 ≤ n.toInt) : 0 ≤ r.toInt ∧ r.toInt < n.toInt := by
  have := (c_iremV (b &&& (2147483647 : Int32)) n).1 (own_and b) (by omega)
  rw [← h] at this; omega
theorem own_kmax {n r k : Int32} (h : k = ((2147483647 : Int32) - r) / n) (hn : 1 ≤ n.toInt) (hr : 0 ≤ r.toInt ∧ r.toInt < n.toInt) : k.toInt = (2147483647 - r.toInt) / n.toInt := by
  have h1 := c_isub (2147483647 : Int32) r
  have h2 := rng32 ((2147483647 : Int32) - r)
  have h3 := rng32 r
  have t : (2147483647 : Int32).toInt = 2147483647 := by decide
  rw [t] at h1
  have h4 : ((2147483647 : Int32) - r).toInt = 2147483647 - r.toInt := by omega
  have ne : n ≠ -1 := fun q => by rw [q] at hn; exact absurd hn (by decide)
  have h5 := (c_idiv ((2147483647 : Int32) - r) n n.toInt rfl ne).1 (by omega)
  rw [h, h5, h4]
theorem own_knz {k : Int32} (h : 0 ≤ k.toInt) : (k + (1 : Int32)) ≠ 0 := fun q => by
  have h1 := c_iadd k (1 : Int32)
  rw [q] at h1
  have t : (1 : Int32).toInt = 1 := rfl
  have t0 : (0 : Int32).toInt = 0 := rfl
  have := rng32 k
  omega
theorem own_k {c k q : Int32} (h : q = (c &&& (2147483647 : Int32)) % (k + (1 : Int32))) (hk : 0 ≤ k.toInt) : 0 ≤ q.toInt ∧ q.toInt ≤ k.toInt := by
  have h1 := c_iadd k (1 : Int32)
  have h2 := rng32 (k + (1 : Int32))
  have h3 := rng32 k
  have t : (1 : Int32).toInt = 1 := rfl
  rw [t] at h1
  by_cases hm : k.toInt = 2147483647
  · have e : k + (1 : Int32) = (-2147483648 : Int32) := Int32.toInt_inj.mp (by
      have : (-2147483648 : Int32).toInt = -2147483648 := by decide
      omega)
    have h4 := (c_irem (c &&& (2147483647 : Int32)) (-2147483648 : Int32) (-2147483648) (by decide)).1 (own_and c)
    have h5 := own_and c
    have h6 := rng32 (c &&& (2147483647 : Int32))
    rw [h, e, h4, Int.emod_neg, Int.emod_eq_of_lt h5 (by omega)]
    omega
  · have e : (k + (1 : Int32)).toInt = k.toInt + 1 := by omega
    have := (c_iremV (c &&& (2147483647 : Int32)) (k + (1 : Int32))).1 (own_and c) (by omega)
    rw [← h] at this; omega
theorem own_units {n r kmax k u : Int32} (hn : 1 ≤ n.toInt) (hr : 0 ≤ r.toInt ∧ r.toInt < n.toInt) (hk : kmax.toInt = (2147483647 - r.toInt) / n.toInt) (hq : 0 ≤ k.toInt ∧ k.toInt ≤ kmax.toInt) (h : u = k * n + r) : u % n = r := by
  have h0 : k.toInt * n.toInt ≤ kmax.toInt * n.toInt := Int.mul_le_mul_of_nonneg_right hq.2 (by omega)
  have h1 : kmax.toInt * n.toInt ≤ 2147483647 - r.toInt := by rw [hk]; exact Int.ediv_mul_le _ (by omega)
  have h2 : 0 ≤ k.toInt * n.toInt := Int.mul_nonneg hq.1 (by omega)
  have h3 := c_imul k n
  have h4 := rng32 (k * n)
  have h5 := c_iadd (k * n) r
  have h6 := rng32 u
  rw [← h] at h5
  have e1 : (k * n).toInt = k.toInt * n.toInt := by omega
  have e2 : u.toInt = k.toInt * n.toInt + r.toInt := by omega
  apply Int32.toInt_inj.mp
  have h7 := (c_irem u n n.toInt rfl).1 (by omega)
  rw [h7, e2, Int.add_comm, Int.add_mul_emod_self_right]
  exact Int.emod_eq_of_lt hr.1 hr.2
theorem own_key {n r u j : Int32} (h : u % n = r) (hj : (j = (1 : Int32) ∧ r = (0 : Int32)) ∨ (j = (0 : Int32) ∧ ¬ (r = (0 : Int32)))) : own_begins n u = j := by
  unfold own_begins; rw [h]
  rcases hj with ⟨rfl, q⟩ | ⟨rfl, q⟩
  · rw [if_pos q]
  · rw [if_neg q]
theorem ef_0 (m : MethodId) (x0 : Int32) (x1 : Int32) (x2 : Int32) : entryFrame m #[(.int x0), (.int x1), (.int x2)] maxLocals = mkF m 0 #[.val (.int x0), .val (.int x1), .val (.int x2), .unset, .unset, .unset, .unset, .unset, .unset, .unset, .unset] [] := by first | (simp [entryFrame, mkF, argsToLocals, Value.category, maxLocals]; done) | rfl
theorem pn_1 : plainName "com/example/tariff_riders/tariffriders/TermLengthBeginsAfterPinLaw" = true := by first | (simp [plainName, overriddenIn]; done) | decide +kernel
theorem pd_0 : parseMethodDescriptor "(I)V" = some ⟨[.int], none⟩ := by decide +kernel
theorem pd_1 : parseMethodDescriptor "(I)Z" = some ⟨[.int], some .boolean⟩ := by decide +kernel
def Q0 (Z : State) (p0 p1 p2 : Int32) (h0 : Heap) (n0 : Nat) (v : Option Value) (h : Heap) (L : List Loc) : Prop := v = some (.int 1) ∧ Fr n0 L
set_option maxRecDepth 65536 in
set_option maxHeartbeats 40000000 in
theorem rm0 (l : Launch) (Z : State) (A0 : Array Value) (hw : ∀ d ∈ tables_1, d.before A0 Z = true) (ws : List Jvm.Cond) (p0 : Int32) (p1 : Int32) (p2 : Int32)  (h0 : Heap) (n0 : Nat) (Z0 : n0 ≤ h0.size)  :
    MetFree l x (head1 (Jvm.Cond.code x code maxLocals ret :: ws) room_1) (fun a U => a = #[(.int p0), (.int p1), (.int p2)] ∧ Z.Warmed39 U.vm ∧ U.heap = h0) (fun _ _ _ _ _ => True) (fun _ U o U' => ∃ v L, o = .returned v ∧ Q0 Z p0 p1 p2 h0 n0 v U'.heap L ∧ FrameEnd U o U' L 1 1) := by
  refine MetFree.of_bodySF (plainFor_of_name pn_1) hisR ?_
  intro p e s m args below meth c s₁ Bd hml0 hP hK
  obtain ⟨rfl, hZ, hh⟩ := hP
  have hx := Bd.exec
  have hby := Bd.bytes
  have hml : c.maxLocals = 11 := hml0
  have hown : s.vm.findClass "com/example/tariff_riders/tariffriders/TermLengthBeginsAfterPinLaw" = some m.cls := findClass_of_methodNamed Bd.named
  have hnm := (name_of_methodNamed Bd.named Bd.method).1
  have X0 : Stand p l e room_1 s m #[(.int p0), (.int p1), (.int p2)] below meth c s₁ [] 0 0 := Stand.of_body Bd
  have e0 : s₁.heap = h0 := by rw [← hh, Bd.state]; rfl
  have N0 := Fr.nil n0
  obtain ⟨S0, hS0⟩ : ∃ z, z = s₁.setTop (entryFrame m #[(.int p0), (.int p1), (.int p2)] maxLocals) := ⟨_, rfl⟩
  have pre0 : Go p.tables e below S0 s₁ (mkF m 0 #[vI p0, vI p1, vI p2, .unset, .unset, .unset, .unset, .unset, .unset, .unset, .unset] []) := fun t k => by rw [hS0]; exact castTop (ef_0 m p0 p1 p2) k
  obtain ⟨v1, hv1, pre1⟩ : ∃ z : Int32, z = ((1 : Int32) + ((p0 &&& (2147483647 : Int32)) % (2147483647 : Int32))) ∧ Go p.tables e below S0 s₁ (mkF m 10 #[vI p0, vI p1, vI p2, vI z, .unset, .unset, .unset, .unset, .unset, .unset, .unset] []) := ⟨_, rfl, fun t k => pre0 t (by
    refine XS.iconst X0.here hx rfl (hb hby at_0) ?_
    show Steps p.tables e below (s₁.setTop (mkF m 1 #[vI p0, vI p1, vI p2, .unset, .unset, .unset, .unset, .unset, .unset, .unset, .unset] [(.int (1 : Int32))])) _
    refine XS.iloadN X0.here hx rfl (hb hby at_1) rfl ?_
    show Steps p.tables e below (s₁.setTop (mkF m 2 #[vI p0, vI p1, vI p2, .unset, .unset, .unset, .unset, .unset, .unset, .unset, .unset] [(.int p0), (.int (1 : Int32))])) _
    refine X0.ldcInt hx hown (mvT hZ (hw _ (List.mem_of_getElem? (i := 0) rfl))) (g := (mkF m 2 #[vI p0, vI p1, vI p2, .unset, .unset, .unset, .unset, .unset, .unset, .unset, .unset] [(.int p0), (.int (1 : Int32))])) rfl (hb hby at_2) _ ?_
    show Steps p.tables e below (s₁.setTop (mkF m 4 #[vI p0, vI p1, vI p2, .unset, .unset, .unset, .unset, .unset, .unset, .unset, .unset] [(.int (2147483647 : Int32)), (.int p0), (.int (1 : Int32))])) _
    refine XS.iand X0.here hx rfl (hb hby at_4) rfl ?_
    show Steps p.tables e below (s₁.setTop (mkF m 5 #[vI p0, vI p1, vI p2, .unset, .unset, .unset, .unset, .unset, .unset, .unset, .unset] [(.int (p0 &&& (2147483647 : Int32))), (.int (1 : Int32))])) _
    refine X0.ldcInt hx hown (mvT hZ (hw _ (List.mem_of_getElem? (i := 0) rfl))) (g := (mkF m 5 #[vI p0, vI p1, vI p2, .unset, .unset, .unset, .unset, .unset, .unset, .unset, .unset] [(.int (p0 &&& (2147483647 : Int32))), (.int (1 : Int32))])) rfl (hb hby at_5) _ ?_
    show Steps p.tables e below (s₁.setTop (mkF m 7 #[vI p0, vI p1, vI p2, .unset, .unset, .unset, .unset, .unset, .unset, .unset, .unset] [(.int (2147483647 : Int32)), (.int (p0 &&& (2147483647 : Int32))), (.int (1 : Int32))])) _
    refine iremM X0 hx rfl (hb hby at_7) rfl (by decide) ?_
    show Steps p.tables e below (s₁.setTop (mkF m 8 #[vI p0, vI p1, vI p2, .unset, .unset, .unset, .unset, .unset, .unset, .unset, .unset] [(.int ((p0 &&& (2147483647 : Int32)) % (2147483647 : Int32))), (.int (1 : Int32))])) _
    refine XS.iadd X0.here hx rfl (hb hby at_8) rfl ?_
    show Steps p.tables e below (s₁.setTop (mkF m 9 #[vI p0, vI p1, vI p2, .unset, .unset, .unset, .unset, .unset, .unset, .unset, .unset] [(.int ((1 : Int32) + ((p0 &&& (2147483647 : Int32)) % (2147483647 : Int32))))])) _
    refine XS.istoreN X0.here hx rfl (hb hby at_9) rfl (l' := #[vI p0, vI p1, vI p2, vI ((1 : Int32) + ((p0 &&& (2147483647 : Int32)) % (2147483647 : Int32))), .unset, .unset, .unset, .unset, .unset, .unset, .unset]) rfl ?_
    show Steps p.tables e below (s₁.setTop (mkF m 10 #[vI p0, vI p1, vI p2, vI ((1 : Int32) + ((p0 &&& (2147483647 : Int32)) % (2147483647 : Int32))), .unset, .unset, .unset, .unset, .unset, .unset, .unset] [])) _
    exact k)⟩
  have n1 := own_n hv1
  have nzn := own_nz n1
  have pre2 : Go p.tables e below S0 s₁ (mkF m 15 #[vI p0, vI p1, vI p2, vI v1, .unset, .unset, .unset, .unset, .unset, .unset, .unset] [(.int v1), (.int (p1 &&& (2147483647 : Int32)))]) := fun t k => pre1 t (by
    refine XS.iloadN X0.here hx rfl (hb hby at_10) rfl ?_
    show Steps p.tables e below (s₁.setTop (mkF m 11 #[vI p0, vI p1, vI p2, vI v1, .unset, .unset, .unset, .unset, .unset, .unset, .unset] [(.int p1)])) _
    refine X0.ldcInt hx hown (mvT hZ (hw _ (List.mem_of_getElem? (i := 0) rfl))) (g := (mkF m 11 #[vI p0, vI p1, vI p2, vI v1, .unset, .unset, .unset, .unset, .unset, .unset, .unset] [(.int p1)])) rfl (hb hby at_11) _ ?_
    show Steps p.tables e below (s₁.setTop (mkF m 13 #[vI p0, vI p1, vI p2, vI v1, .unset, .unset, .unset, .unset, .unset, .unset, .unset] [(.int (2147483647 : Int32)), (.int p1)])) _
    refine XS.iand X0.here hx rfl (hb hby at_13) rfl ?_
    show Steps p.tables e below (s₁.setTop (mkF m 14 #[vI p0, vI p1, vI p2, vI v1, .unset, .unset, .unset, .unset, .unset, .unset, .unset] [(.int (p1 &&& (2147483647 : Int32)))])) _
    refine XS.iloadN X0.here hx rfl (hb hby at_14) rfl ?_
    show Steps p.tables e below (s₁.setTop (mkF m 15 #[vI p0, vI p1, vI p2, vI v1, .unset, .unset, .unset, .unset, .unset, .unset, .unset] [(.int v1), (.int (p1 &&& (2147483647 : Int32)))])) _
    exact k)
  have nz3 : v1 ≠ 0 := nzn
  obtain ⟨v4, hv4, pre4⟩ : ∃ z : Int32, z = ((p1 &&& (2147483647 : Int32)) % v1) ∧ Go p.tables e below S0 s₁ (mkF m 18 #[vI p0, vI p1, vI p2, vI v1, vI z, .unset, .unset, .unset, .unset, .unset, .unset] []) := ⟨_, rfl, fun t k => pre2 t (by
    refine iremM X0 hx rfl (hb hby at_15) rfl nz3 ?_
    show Steps p.tables e below (s₁.setTop (mkF m 16 #[vI p0, vI p1, vI p2, vI v1, .unset, .unset, .unset, .unset, .unset, .unset, .unset] [(.int ((p1 &&& (2147483647 : Int32)) % v1))])) _
    refine XS.istore X0.here hx rfl (hb hby at_16) rfl (l' := #[vI p0, vI p1, vI p2, vI v1, vI ((p1 &&& (2147483647 : Int32)) % v1), .unset, .unset, .unset, .unset, .unset, .unset]) rfl ?_
    show Steps p.tables e below (s₁.setTop (mkF m 18 #[vI p0, vI p1, vI p2, vI v1, vI ((p1 &&& (2147483647 : Int32)) % v1), .unset, .unset, .unset, .unset, .unset, .unset] [])) _
    exact k)⟩
  have r1 := own_r hv4 n1
  have pre5 : Go p.tables e below S0 s₁ (mkF m 24 #[vI p0, vI p1, vI p2, vI v1, vI v4, .unset, .unset, .unset, .unset, .unset, .unset] [(.int v1), (.int ((2147483647 : Int32) - v4))]) := fun t k => pre4 t (by
    refine X0.ldcInt hx hown (mvT hZ (hw _ (List.mem_of_getElem? (i := 0) rfl))) (g := (mkF m 18 #[vI p0, vI p1, vI p2, vI v1, vI v4, .unset, .unset, .unset, .unset, .unset, .unset] [])) rfl (hb hby at_18) _ ?_
    show Steps p.tables e below (s₁.setTop (mkF m 20 #[vI p0, vI p1, vI p2, vI v1, vI v4, .unset, .unset, .unset, .unset, .unset, .unset] [(.int (2147483647 : Int32))])) _
    refine XS.iload X0.here hx rfl (hb hby at_20) rfl ?_
    show Steps p.tables e below (s₁.setTop (mkF m 22 #[vI p0, vI p1, vI p2, vI v1, vI v4, .unset, .unset, .unset, .unset, .unset, .unset] [(.int v4), (.int (2147483647 : Int32))])) _
    refine XS.isub X0.here hx rfl (hb hby at_22) rfl ?_
    show Steps p.tables e below (s₁.setTop (mkF m 23 #[vI p0, vI p1, vI p2, vI v1, vI v4, .unset, .unset, .unset, .unset, .unset, .unset] [(.int ((2147483647 : Int32) - v4))])) _
    refine XS.iloadN X0.here hx rfl (hb hby at_23) rfl ?_
    show Steps p.tables e below (s₁.setTop (mkF m 24 #[vI p0, vI p1, vI p2, vI v1, vI v4, .unset, .unset, .unset, .unset, .unset, .unset] [(.int v1), (.int ((2147483647 : Int32) - v4))])) _
    exact k)
  have nz6 : v1 ≠ 0 := nzn
  obtain ⟨v7, hv7, pre7⟩ : ∃ z : Int32, z = (((2147483647 : Int32) - v4) / v1) ∧ Go p.tables e below S0 s₁ (mkF m 27 #[vI p0, vI p1, vI p2, vI v1, vI v4, vI z, .unset, .unset, .unset, .unset, .unset] []) := ⟨_, rfl, fun t k => pre5 t (by
    refine XS.idiv X0.here hx rfl (hb hby at_24) rfl nz6 ?_
    show Steps p.tables e below (s₁.setTop (mkF m 25 #[vI p0, vI p1, vI p2, vI v1, vI v4, .unset, .unset, .unset, .unset, .unset, .unset] [(.int (((2147483647 : Int32) - v4) / v1))])) _
    refine XS.istore X0.here hx rfl (hb hby at_25) rfl (l' := #[vI p0, vI p1, vI p2, vI v1, vI v4, vI (((2147483647 : Int32) - v4) / v1), .unset, .unset, .unset, .unset, .unset]) rfl ?_
    show Steps p.tables e below (s₁.setTop (mkF m 27 #[vI p0, vI p1, vI p2, vI v1, vI v4, vI (((2147483647 : Int32) - v4) / v1), .unset, .unset, .unset, .unset, .unset] [])) _
    exact k)⟩
  have k1 := own_kmax hv7 n1 r1
  have k2 : 0 ≤ v7.toInt := by rw [k1]; exact Int.ediv_nonneg (by have := rng32 v4; omega) (by omega)
  have pre8 : Go p.tables e below S0 s₁ (mkF m 35 #[vI p0, vI p1, vI p2, vI v1, vI v4, vI v7, .unset, .unset, .unset, .unset, .unset] [(.int (v7 + (1 : Int32))), (.int (p2 &&& (2147483647 : Int32)))]) := fun t k => pre7 t (by
    refine XS.iloadN X0.here hx rfl (hb hby at_27) rfl ?_
    show Steps p.tables e below (s₁.setTop (mkF m 28 #[vI p0, vI p1, vI p2, vI v1, vI v4, vI v7, .unset, .unset, .unset, .unset, .unset] [(.int p2)])) _
    refine X0.ldcInt hx hown (mvT hZ (hw _ (List.mem_of_getElem? (i := 0) rfl))) (g := (mkF m 28 #[vI p0, vI p1, vI p2, vI v1, vI v4, vI v7, .unset, .unset, .unset, .unset, .unset] [(.int p2)])) rfl (hb hby at_28) _ ?_
    show Steps p.tables e below (s₁.setTop (mkF m 30 #[vI p0, vI p1, vI p2, vI v1, vI v4, vI v7, .unset, .unset, .unset, .unset, .unset] [(.int (2147483647 : Int32)), (.int p2)])) _
    refine XS.iand X0.here hx rfl (hb hby at_30) rfl ?_
    show Steps p.tables e below (s₁.setTop (mkF m 31 #[vI p0, vI p1, vI p2, vI v1, vI v4, vI v7, .unset, .unset, .unset, .unset, .unset] [(.int (p2 &&& (2147483647 : Int32)))])) _
    refine XS.iload X0.here hx rfl (hb hby at_31) rfl ?_
    show Steps p.tables e below (s₁.setTop (mkF m 33 #[vI p0, vI p1, vI p2, vI v1, vI v4, vI v7, .unset, .unset, .unset, .unset, .unset] [(.int v7), (.int (p2 &&& (2147483647 : Int32)))])) _
    refine XS.iconst X0.here hx rfl (hb hby at_33) ?_
    show Steps p.tables e below (s₁.setTop (mkF m 34 #[vI p0, vI p1, vI p2, vI v1, vI v4, vI v7, .unset, .unset, .unset, .unset, .unset] [(.int (1 : Int32)), (.int v7), (.int (p2 &&& (2147483647 : Int32)))])) _
    refine XS.iadd X0.here hx rfl (hb hby at_34) rfl ?_
    show Steps p.tables e below (s₁.setTop (mkF m 35 #[vI p0, vI p1, vI p2, vI v1, vI v4, vI v7, .unset, .unset, .unset, .unset, .unset] [(.int (v7 + (1 : Int32))), (.int (p2 &&& (2147483647 : Int32)))])) _
    exact k)
  have nz9 : (v7 + (1 : Int32)) ≠ 0 := own_knz k2
  obtain ⟨v10, hv10, pre10⟩ : ∃ z : Int32, z = ((p2 &&& (2147483647 : Int32)) % (v7 + (1 : Int32))) ∧ Go p.tables e below S0 s₁ (mkF m 38 #[vI p0, vI p1, vI p2, vI v1, vI v4, vI v7, vI z, .unset, .unset, .unset, .unset] []) := ⟨_, rfl, fun t k => pre8 t (by
    refine iremM X0 hx rfl (hb hby at_35) rfl nz9 ?_
    show Steps p.tables e below (s₁.setTop (mkF m 36 #[vI p0, vI p1, vI p2, vI v1, vI v4, vI v7, .unset, .unset, .unset, .unset, .unset] [(.int ((p2 &&& (2147483647 : Int32)) % (v7 + (1 : Int32))))])) _
    refine XS.istore X0.here hx rfl (hb hby at_36) rfl (l' := #[vI p0, vI p1, vI p2, vI v1, vI v4, vI v7, vI ((p2 &&& (2147483647 : Int32)) % (v7 + (1 : Int32))), .unset, .unset, .unset, .unset]) rfl ?_
    show Steps p.tables e below (s₁.setTop (mkF m 38 #[vI p0, vI p1, vI p2, vI v1, vI v4, vI v7, vI ((p2 &&& (2147483647 : Int32)) % (v7 + (1 : Int32))), .unset, .unset, .unset, .unset] [])) _
    exact k)⟩
  have q1 := own_k hv10 k2
  obtain ⟨v11, hv11, pre11⟩ : ∃ z : Int32, z = ((v10 * v1) + v4) ∧ Go p.tables e below S0 s₁ (mkF m 47 #[vI p0, vI p1, vI p2, vI v1, vI v4, vI v7, vI v10, vI z, .unset, .unset, .unset] []) := ⟨_, rfl, fun t k => pre10 t (by
    refine XS.iload X0.here hx rfl (hb hby at_38) rfl ?_
    show Steps p.tables e below (s₁.setTop (mkF m 40 #[vI p0, vI p1, vI p2, vI v1, vI v4, vI v7, vI v10, .unset, .unset, .unset, .unset] [(.int v10)])) _
    refine XS.iloadN X0.here hx rfl (hb hby at_40) rfl ?_
    show Steps p.tables e below (s₁.setTop (mkF m 41 #[vI p0, vI p1, vI p2, vI v1, vI v4, vI v7, vI v10, .unset, .unset, .unset, .unset] [(.int v1), (.int v10)])) _
    refine XS.imul X0.here hx rfl (hb hby at_41) rfl ?_
    show Steps p.tables e below (s₁.setTop (mkF m 42 #[vI p0, vI p1, vI p2, vI v1, vI v4, vI v7, vI v10, .unset, .unset, .unset, .unset] [(.int (v10 * v1))])) _
    refine XS.iload X0.here hx rfl (hb hby at_42) rfl ?_
    show Steps p.tables e below (s₁.setTop (mkF m 44 #[vI p0, vI p1, vI p2, vI v1, vI v4, vI v7, vI v10, .unset, .unset, .unset, .unset] [(.int v4), (.int (v10 * v1))])) _
    refine XS.iadd X0.here hx rfl (hb hby at_44) rfl ?_
    show Steps p.tables e below (s₁.setTop (mkF m 45 #[vI p0, vI p1, vI p2, vI v1, vI v4, vI v7, vI v10, .unset, .unset, .unset, .unset] [(.int ((v10 * v1) + v4))])) _
    refine XS.istore X0.here hx rfl (hb hby at_45) rfl (l' := #[vI p0, vI p1, vI p2, vI v1, vI v4, vI v7, vI v10, vI ((v10 * v1) + v4), .unset, .unset, .unset]) rfl ?_
    show Steps p.tables e below (s₁.setTop (mkF m 47 #[vI p0, vI p1, vI p2, vI v1, vI v4, vI v7, vI v10, vI ((v10 * v1) + v4), .unset, .unset, .unset] [])) _
    exact k)⟩
  have u1 := own_units n1 r1 k1 q1 hv11
  obtain ⟨T12, h12, X12, e12, E12, A12, D12, -, st12⟩ := newO X0 hx hZ hown (hw _ (List.mem_of_getElem? (i := 1) rfl)) (hw _ (List.mem_of_getElem? (i := 2) rfl)) (hw _ (List.mem_of_getElem? (i := 3) rfl)) e0 (g := (mkF m 47 #[vI p0, vI p1, vI p2, vI v1, vI v4, vI v7, vI v10, vI v11, .unset, .unset, .unset] [])) rfl (hb hby at_47) (by decide) (by decide)
  obtain ⟨b12, g12⟩ : ∃ z, z = h0.size := ⟨_, rfl⟩
  rw [← g12] at A12 D12 st12
  have pre12 : Go p.tables e below S0 T12 (mkF m 50 #[vI p0, vI p1, vI p2, vI v1, vI v4, vI v7, vI v10, vI v11, .unset, .unset, .unset] [(.ref b12)]) := fun t k => pre11 t (st12 t k)
  have bo12 : n0 ≤ b12 := Nat.le_trans Z0 (Nat.le_of_eq g12.symm)
  have zz14 : n0 ≤ h12.size := Nat.le_trans Z0 E12.1
  have fn12_length : Fld Z h12 b12 "com/example/tariff_riders/tariffriders/TermLength" "length" "I" (.int (0 : Int32)) := D12 (Or.inr (hw _ (List.mem_of_getElem? (i := 11) rfl))) (ty := .int) (by decide)
  have pre15 : Go p.tables e below S0 T12 (mkF m 52 #[vI p0, vI p1, vI p2, vI v1, vI v4, vI v7, vI v10, vI v11, .unset, .unset, .unset] [(.int v1), (.ref b12), (.ref b12)]) := fun t k => pre12 t (by
    refine XS.dup X12.here hx rfl (hb hby at_50) rfl rfl ?_
    show Steps p.tables e below (T12.setTop (mkF m 51 #[vI p0, vI p1, vI p2, vI v1, vI v4, vI v7, vI v10, vI v11, .unset, .unset, .unset] [(.ref b12), (.ref b12)])) _
    refine XS.iloadN X12.here hx rfl (hb hby at_51) rfl ?_
    show Steps p.tables e below (T12.setTop (mkF m 52 #[vI p0, vI p1, vI p2, vI v1, vI v4, vI v7, vI v10, vI v11, .unset, .unset, .unset] [(.int v1), (.ref b12), (.ref b12)])) _
    exact k)
  obtain ⟨_, _, ⟨T16, L16, k16, n16⟩, -, X16, ⟨Lc16, hQ16, l16, y16, z16⟩, st16⟩ := X12.specialBack hx (y := (⟨"com/example/tariff_riders/tariffriders/TermLength", "<init>", "(I)V"⟩ : MethodName)) rfl hown (mvT hZ (hw _ (List.mem_of_getElem? (i := 4) rfl))) (mvT hZ (hw _ (List.mem_of_getElem? (i := 5) rfl))) (mvT hZ (hw _ (List.mem_of_getElem? (i := 6) rfl))) (by decide) (backOf (W := 1) (rm1 l Z A0 hw [] b12 v1 h12 n0 zz14 A12 fn12_length bo12) hZ (hw _ (List.mem_of_getElem? (i := 6) rfl)) (hw _ (List.mem_of_getElem? (i := 3) rfl)) (by decide) (by decide)) (g := (mkF m 52 #[vI p0, vI p1, vI p2, vI v1, vI v4, vI v7, vI v10, vI v11, .unset, .unset, .unset] [(.int v1), (.ref b12), (.ref b12)])) rfl (by rw [hml]; rfl) (Steps.refl _) (a := b12) (argsL := [(.int v1)]) (rest := [(.ref b12)]) (lenOf pd_0 rfl) rfl (by show 2 * 0 + _ ≤ _; exact Nat.le_of_eq rfl) (hb hby at_52) (fun _ _ => ⟨rfl, e12, (by decide : 1 + 0 ≤ _), (by decide : 1 + 0 ≤ _)⟩)
  dsimp only [Pt.U, Pt.locs, Pt.cells, Pt.slots] at X16 l16 y16 z16 st16 hQ16
  subst l16 y16 z16
  obtain ⟨rfl, Nq16, Kq16, nf16_0, nf16_1⟩ := hQ16
  have N16 := Fr.app N0 Nq16
  have pre16 : Go p.tables e below S0 T16 (mkF m 55 #[vI p0, vI p1, vI p2, vI v1, vI v4, vI v7, vI v10, vI v11, .unset, .unset, .unset] [(.ref b12)]) := fun t k => pre15 t (st16.trans k)
  have zz18 : n0 ≤ T16.heap.size := Nat.le_trans zz14 Kq16.1
  have pre19 : Go p.tables e below S0 T16 (mkF m 61 #[vI p0, vI p1, vI p2, vI v1, vI v4, vI v7, vI v10, vI v11, vR b12, .unset, .unset] [(.int v11), (.ref b12)]) := fun t k => pre16 t (by
    refine XS.astore X16.here hx rfl (hb hby at_55) rfl rfl (l' := #[vI p0, vI p1, vI p2, vI v1, vI v4, vI v7, vI v10, vI v11, vR b12, .unset, .unset]) rfl ?_
    show Steps p.tables e below (T16.setTop (mkF m 57 #[vI p0, vI p1, vI p2, vI v1, vI v4, vI v7, vI v10, vI v11, vR b12, .unset, .unset] [])) _
    refine XS.aload X16.here hx rfl (hb hby at_57) rfl rfl ?_
    show Steps p.tables e below (T16.setTop (mkF m 59 #[vI p0, vI p1, vI p2, vI v1, vI v4, vI v7, vI v10, vI v11, vR b12, .unset, .unset] [(.ref b12)])) _
    refine XS.iload X16.here hx rfl (hb hby at_59) rfl ?_
    show Steps p.tables e below (T16.setTop (mkF m 61 #[vI p0, vI p1, vI p2, vI v1, vI v4, vI v7, vI v10, vI v11, vR b12, .unset, .unset] [(.int v11), (.ref b12)])) _
    exact k)
  obtain ⟨cq20, kq20, qa20, qb20, qc20⟩ := isOf hZ rfl nf16_0
  obtain ⟨_, _, ⟨T20, L20, k20, n20⟩, -, X20, ⟨Lc20, hQ20, l20, y20, z20⟩, st20⟩ := X16.virtualBack hx (y := (⟨"com/example/tariff_riders/tariffriders/TermLength", "beginsAfter", "(I)Z"⟩ : MethodName)) (z := (⟨"com/example/tariff_riders/tariffriders/TermLength", "beginsAfter", "(I)Z"⟩ : MethodName)) hown (mvT hZ (hw _ (List.mem_of_getElem? (i := 12) rfl))) (mvT hZ (hw _ (List.mem_of_getElem? (i := 13) rfl))) (notFace_of_selects (args := #[]) (mvT hZ (hw _ (List.mem_of_getElem? (i := 15) rfl)))) (mvT hZ (hw _ (List.mem_of_getElem? (i := 15) rfl))) (mvT hZ (hw _ (List.mem_of_getElem? (i := 14) rfl))) (by decide) (backOf (W := 0) (rm3 l Z A0 hw [] b12 v11 v1 T16.heap n0 zz18 nf16_1 nzn) hZ (hw _ (List.mem_of_getElem? (i := 16) rfl)) (hw _ (List.mem_of_getElem? (i := 3) rfl)) (by decide) (by decide)) qa20 qc20 (g := (mkF m 61 #[vI p0, vI p1, vI p2, vI v1, vI v4, vI v7, vI v10, vI v11, vR b12, .unset, .unset] [(.int v11), (.ref b12)])) rfl (by rw [hml]; rfl) (Steps.refl _) (argsL := [(.int v11)]) (rest := []) (lenOf pd_1 rfl) rfl (by show 2 * 0 + _ ≤ _; exact Nat.le_of_eq rfl) (hb hby at_61) (fun _ _ => ⟨rfl, rfl, (by decide : 1 + 0 ≤ _), (by decide : 1 + 0 ≤ _)⟩)
  dsimp only [Pt.U, Pt.locs, Pt.cells, Pt.slots] at X20 l20 y20 z20 st20 hQ20
  subst l20 y20 z20
  obtain ⟨rfl, Nq20, eq20⟩ := hQ20
  have N20 := Fr.app N16 Nq20
  have pre20 : Go p.tables e below S0 T20 (mkF m 64 #[vI p0, vI p1, vI p2, vI v1, vI v4, vI v7, vI v10, vI v11, vR b12, .unset, .unset] [(.int (own_begins v1 v11))]) := fun t k => pre19 t (st20.trans k)
  have pre21 : Go p.tables e below S0 T20 (mkF m 68 #[vI p0, vI p1, vI p2, vI v1, vI v4, vI v7, vI v10, vI v11, vR b12, vI (own_begins v1 v11), .unset] [(.int v4)]) := fun t k => pre20 t (by
    refine XS.istore X20.here hx rfl (hb hby at_64) rfl (l' := #[vI p0, vI p1, vI p2, vI v1, vI v4, vI v7, vI v10, vI v11, vR b12, vI (own_begins v1 v11), .unset]) rfl ?_
    show Steps p.tables e below (T20.setTop (mkF m 66 #[vI p0, vI p1, vI p2, vI v1, vI v4, vI v7, vI v10, vI v11, vR b12, vI (own_begins v1 v11), .unset] [])) _
    refine XS.iload X20.here hx rfl (hb hby at_66) rfl ?_
    show Steps p.tables e below (T20.setTop (mkF m 68 #[vI p0, vI p1, vI p2, vI v1, vI v4, vI v7, vI v10, vI v11, vR b12, vI (own_begins v1 v11), .unset] [(.int v4)])) _
    exact k)
  refine cps (A := ∃ (j76_s0_25 : Int32), (((j76_s0_25 = (1 : Int32)) ∧ (v4 = (0 : Int32))) ∨ ((j76_s0_25 = (0 : Int32)) ∧ (¬ (v4 = (0 : Int32))))) ∧ (Go p.tables e below S0 T20 (mkF m 76 #[vI p0, vI p1, vI p2, vI v1, vI v4, vI v7, vI v10, vI v11, vR b12, vI (own_begins v1 v11), .unset] [(.int j76_s0_25)]))) (fun tail28 => ?_) ?_
  · skip
    by_cases c68_22 : v4 = (0 : Int32)
    · skip
      have pre23 : Go p.tables e below S0 T20 (mkF m 76 #[vI p0, vI p1, vI p2, vI v1, vI v4, vI v7, vI v10, vI v11, vR b12, vI (own_begins v1 v11), .unset] [(.int (1 : Int32))]) := fun t k => pre21 t (by
        refine XS.ifNo X20.here hx rfl (hb hby at_68) rfl ((if0 _ _).trans (teq c68_22).2) ?_
        show Steps p.tables e below (T20.setTop (mkF m 71 #[vI p0, vI p1, vI p2, vI v1, vI v4, vI v7, vI v10, vI v11, vR b12, vI (own_begins v1 v11), .unset] [])) _
        refine XS.iconst X20.here hx rfl (hb hby at_71) ?_
        show Steps p.tables e below (T20.setTop (mkF m 72 #[vI p0, vI p1, vI p2, vI v1, vI v4, vI v7, vI v10, vI v11, vR b12, vI (own_begins v1 v11), .unset] [(.int (1 : Int32))])) _
        refine XS.goto X20.here hx rfl (pc0 := 72) (pc' := 76) rfl (hb hby at_72) (by decide) (by decide) ?_
        show Steps p.tables e below (T20.setTop (mkF m 76 #[vI p0, vI p1, vI p2, vI v1, vI v4, vI v7, vI v10, vI v11, vR b12, vI (own_begins v1 v11), .unset] [(.int (1 : Int32))])) _
        exact k)
      exact tail28 ⟨(1 : Int32), (Or.inl ⟨rfl, c68_22⟩), pre23⟩
    · skip
      have pre24 : Go p.tables e below S0 T20 (mkF m 76 #[vI p0, vI p1, vI p2, vI v1, vI v4, vI v7, vI v10, vI v11, vR b12, vI (own_begins v1 v11), .unset] [(.int (0 : Int32))]) := fun t k => pre21 t (by
        refine XS.ifYes X20.here hx rfl (pc0 := 68) (pc' := 75) rfl (hb hby at_68) rfl ((if0 _ _).trans (feq c68_22).2) (by decide) (by decide) ?_
        show Steps p.tables e below (T20.setTop (mkF m 75 #[vI p0, vI p1, vI p2, vI v1, vI v4, vI v7, vI v10, vI v11, vR b12, vI (own_begins v1 v11), .unset] [])) _
        refine XS.iconst X20.here hx rfl (hb hby at_75) ?_
        show Steps p.tables e below (T20.setTop (mkF m 76 #[vI p0, vI p1, vI p2, vI v1, vI v4, vI v7, vI v10, vI v11, vR b12, vI (own_begins v1 v11), .unset] [(.int (0 : Int32))])) _
        exact k)
      exact tail28 ⟨(0 : Int32), (Or.inr ⟨rfl, c68_22⟩), pre24⟩
  rintro ⟨j76_s0_25, hj76_26, pre27⟩
  have key := own_key u1 hj76_26
  have pre29 : Go p.tables e below S0 T20 (mkF m 82 #[vI p0, vI p1, vI p2, vI v1, vI v4, vI v7, vI v10, vI v11, vR b12, vI (own_begins v1 v11), vI j76_s0_25] [(.int j76_s0_25), (.int (own_begins v1 v11))]) := fun t k => pre27 t (by
    refine XS.istore X20.here hx rfl (hb hby at_76) rfl (l' := #[vI p0, vI p1, vI p2, vI v1, vI v4, vI v7, vI v10, vI v11, vR b12, vI (own_begins v1 v11), vI j76_s0_25]) rfl ?_
    show Steps p.tables e below (T20.setTop (mkF m 78 #[vI p0, vI p1, vI p2, vI v1, vI v4, vI v7, vI v10, vI v11, vR b12, vI (own_begins v1 v11), vI j76_s0_25] [])) _
    refine XS.iload X20.here hx rfl (hb hby at_78) rfl ?_
    show Steps p.tables e below (T20.setTop (mkF m 80 #[vI p0, vI p1, vI p2, vI v1, vI v4, vI v7, vI v10, vI v11, vR b12, vI (own_begins v1 v11), vI j76_s0_25] [(.int (own_begins v1 v11))])) _
    refine XS.iload X20.here hx rfl (hb hby at_80) rfl ?_
    show Steps p.tables e below (T20.setTop (mkF m 82 #[vI p0, vI p1, vI p2, vI v1, vI v4, vI v7, vI v10, vI v11, vR b12, vI (own_begins v1 v11), vI j76_s0_25] [(.int j76_s0_25), (.int (own_begins v1 v11))])) _
    exact k)
  have cc30 : (own_begins v1 v11) = j76_s0_25 := key
  have pre31 : Go p.tables e below S0 T20 (mkF m 90 #[vI p0, vI p1, vI p2, vI v1, vI v4, vI v7, vI v10, vI v11, vR b12, vI (own_begins v1 v11), vI j76_s0_25] [(.int (1 : Int32))]) := fun t k => pre29 t (by
    refine XS.icmpNo X20.here hx rfl (hb hby at_82) rfl (teq cc30).2 ?_
    show Steps p.tables e below (T20.setTop (mkF m 85 #[vI p0, vI p1, vI p2, vI v1, vI v4, vI v7, vI v10, vI v11, vR b12, vI (own_begins v1 v11), vI j76_s0_25] [])) _
    refine XS.iconst X20.here hx rfl (hb hby at_85) ?_
    show Steps p.tables e below (T20.setTop (mkF m 86 #[vI p0, vI p1, vI p2, vI v1, vI v4, vI v7, vI v10, vI v11, vR b12, vI (own_begins v1 v11), vI j76_s0_25] [(.int (1 : Int32))])) _
    refine XS.goto X20.here hx rfl (pc0 := 86) (pc' := 90) rfl (hb hby at_86) (by decide) (by decide) ?_
    show Steps p.tables e below (T20.setTop (mkF m 90 #[vI p0, vI p1, vI p2, vI v1, vI v4, vI v7, vI v10, vI v11, vR b12, vI (own_begins v1 v11), vI j76_s0_25] [(.int (1 : Int32))])) _
    exact k)
  obtain ⟨fs, hr, hrun, hended, hW, hsame⟩ := X20.leave (v := some (.int (1 : Int32))) (fun h => by rw [Bd.returns] at h; cases h)
  exact ⟨_, _, pre31.fin hS0 (retN X20 hx (t := .boolean) Bd.returns (by simp) (hb hby at_90) hr), hrun, hended, _, _, rfl, (by
    show Q0 Z p0 p1 p2 h0 n0 _ T20.heap _
    rw [eq20]
    exact ⟨rfl, N20⟩), ⟨_, rfl⟩, hW, hsame.mono (by decide) (by decide)⟩
set_option maxRecDepth 65536 in
set_option maxHeartbeats 40000000 in
theorem comes_1 {Post : Tables → Env → Array Value → State → Outcome → State → Prop} (hpost : ∀ tb e args s v u, (limb_1_1.after args s (.returned v) u = true ∧ limb_1_2.after args s (.returned v) u = true ∧ True) → FrameEnd s (.returned v) u (Jvm.fieldLocs frame_1_writes args s ++ Jvm.arrayLocs frame_1_arrays args s ++ Jvm.staticLocs frame_1_statics s) 16 128 → Post tb e args s (.returned v) u) :
    ArmFor flags0 classFile x code maxLocals ret World_1 tables_1 room_1 Calls_1 rest_1 Pre_1 Post := by
  intro l hfl _ _ p e ha hc hk s m args below hf hA hF happ hP
  obtain ⟨hcalls, hrest, hpre⟩ := hP
  obtain ⟨-, -, -, hnamed, -, -, -, hat⟩ := (Spec.applies_iff hf).mp happ
  obtain ⟨hg, hn⟩ := and_e (Cond.before_iff.mp (show (Jvm.Cond.and given_1 narrow_1).before args s = true from hpre))
  obtain ⟨g0, r0⟩ := and_e hg
  obtain ⟨g1, r1⟩ := and_e r0
  obtain ⟨g2, r2⟩ := and_e r1
  obtain ⟨w0, w1, w2, rfl⟩ : ∃ w0 w1 w2 : Value, args = #[w0, w1, w2] := by
    have hs : args.size = 3 := by simpa [Cond.value, given_1] using g0
    obtain ⟨L⟩ := args
    match L, hs with
    | [w0, w1, w2], _ => exact ⟨w0, w1, w2, rfl⟩
  have hw := fun d (hd : d ∈ tables_1) => atoms_spec (ws := Jvm.Cond.code x code maxLocals ret :: tables_1) hat d (List.mem_cons_of_mem _ hd)
  obtain ⟨i0, ei0⟩ := is_v g1
  obtain rfl : w0 = (.int i0) := Option.some.inj ei0
  obtain ⟨i1, ei1⟩ := is_v g2
  obtain rfl : w1 = (.int i1) := Option.some.inj ei1
  obtain ⟨i2, ei2⟩ := is_v r2
  obtain rfl : w2 = (.int i2) := Option.some.inj ei2
  obtain ⟨n, o, h1, h2, h3, _, L, rfl, ⟨rfl, N⟩, hq⟩ := rm0 l s _ hw tables_1 i0 i1 i2  s.heap s.heap.size (Nat.le_refl _) p e ha hc hk s m _ below hf ((Spec.applies_iff_loose hf).mp happ).1 ⟨rfl, State.Warmed39.refl s, rfl⟩ trivial
  refine ⟨n, _, h1, h2, h3, hpost _ _ _ _ _ _ ⟨Cond.after_iff.mpr rfl, Cond.after_iff.mpr (eq_i res_at (Term.int_eval (1)) rfl), trivial⟩ ⟨hq.1, hq.2.1, (hq.2.2.sift fun y hy => Or.inr (N y hy)).mono (by decide) (by decide)⟩⟩
theorem main_1_1 : Claimed_1_1 := comes_1 fun _ _ _ _ _ _ h hF => ⟨h.1, hF⟩
theorem main_1_2 : Claimed_1_2 := comes_1 fun _ _ _ _ _ _ h hF => ⟨h.2.1, hF⟩
end Jvm.Pilot.@@N@@
namespace Jvm.Pilot.@@N@@
open Jvm Jvm.ClassFile Sem Op Lib Jvm.Free Jvm.Stand Jvm.Pilot.@@N@@.Jvm.D
/-! MADE BY PROGRAM (witnessworld.py) out of the Statement's table words and the real class files: 9 classes; the members and pool entries that the words name. The judged class is class 1, her method 1. -/
namespace start1
open Jvm.ClassFile
def u (s : String) : CpInfo := .utf8 (stringToUtf16 s)
/-- a pool by its gaps: so many unusable entries, then the entry; so many at the end -/
def gap : Nat → List CpInfo → List CpInfo
  | 0, r => r
  | n + 1, r => .unusable :: gap n r
def poolList (es : List (Nat × CpInfo)) (last : Nat) : List CpInfo := es.foldr (fun e r => gap e.1 (e.2 :: r)) (gap last [])
def pool (es : List (Nat × CpInfo)) (last : Nat) : Array CpInfo := ⟨poolList es last⟩
def fileOf (pool : Array CpInfo) (this : Nat) (attrs : Array Attribute := #[]) (ms : Array MethodInfo := #[]) (fl : Nat := 33) (sup : Nat := 0) (ifs : Array Nat := #[]) (fds : Array FieldInfo := #[]) : ClassFile where
  minorVersion := 0
  majorVersion := 65
  constantPool := pool
  accessFlags := fl
  thisClass := this
  superClass := sup
  interfaces := ifs
  fields := fds
  methods := ms
  attributes := attrs
def plain (name : String) (sup : Option ClassId) : Class where
  name := name
  kind := .ordinary
  loader := none
  accessFlags := 33
  super := sup
  interfaces := #[]
  cf := none
  fields := #[]
  methods := #[]
  instanceTypes := #[]
  staticTypes := #[]
  resolved := #[]
  callSites := []
  init := .initialized
  statics := none
  mirror := none

def pool0 : Array CpInfo := pool [(5, u "<init>"), (0, u "()V"), (1, .class_ 10), (1, u "java/lang/Object")] 113

def k0c0 : Code := { maxStack := 0, maxLocals := 1, code := object_method_1_code, exceptionTable := #[], attributes := #[] }
def k0m0 : Method := { name := "<init>", desc := "()V", sig := { parameters := [], returnType := none }, accessFlags := 1, code := some k0c0 }
/-- java/lang/Object -/
def k0 : Class := { plain "java/lang/Object" none with
  accessFlags := 33
  interfaces := #[]
  cf := some (fileOf pool0 8 #[] #[{ accessFlags := 1, nameIndex := 5, descriptorIndex := 6, attributes := #[] }] 33 0 #[] #[])
  fields := #[]
  methods := #[k0m0]
  instanceTypes := #[]
  staticTypes := #[]
  resolved := Array.replicate 124 none
  statics := none }

def pool1 : Array CpInfo := pool [(2, .class_ 4), (1, u "java/lang/Object"), (0, u "<init>"), (0, u "()V"), (0, .integer 2147483647), (2, .class_ 11), (0, u "com/example/tariff_riders/tariffriders/TermLength"), (0, .methodref 10 13), (0, .nameAndType 5 14), (0, u "(I)V"), (0, .methodref 10 16), (0, .nameAndType 17 18), (0, u "beginsAfter"), (0, u "(I)Z"), (0, .class_ 20), (0, u "com/example/tariff_riders/tariffriders/TermLengthBeginsAfterPinLaw"), (2, u "law"), (0, u "(III)Z")] 3

def k1m0 : Method := { name := "<init>", desc := "()V", sig := { parameters := [], returnType := none }, accessFlags := 1, code := none }
def k1c1 : Code := { maxStack := 3, maxLocals := 11, code := code, exceptionTable := #[], attributes := #[] }
def k1m1 : Method := { name := "law", desc := "(III)Z", sig := { parameters := [.int, .int, .int], returnType := some .boolean }, accessFlags := 9, code := some k1c1 }
/-- com/example/tariff_riders/tariffriders/TermLengthBeginsAfterPinLaw -/
def k1 : Class := { plain "com/example/tariff_riders/tariffriders/TermLengthBeginsAfterPinLaw" (some 0) with
  accessFlags := 49
  interfaces := #[]
  cf := some (fileOf pool1 19 #[] #[{ accessFlags := 1, nameIndex := 5, descriptorIndex := 6, attributes := #[] }, { accessFlags := 9, nameIndex := 23, descriptorIndex := 24, attributes := #[] }] 49 2 #[] #[])
  fields := #[]
  methods := #[k1m0, k1m1]
  instanceTypes := #[]
  staticTypes := #[]
  resolved := Array.replicate 28 none
  statics := none }

def pool2 : Array CpInfo := pool [(1, .methodref 2 3), (0, .class_ 4), (0, .nameAndType 5 6), (0, u "java/lang/Object"), (0, u "<init>"), (0, u "()V"), (0, .fieldref 8 9), (0, .class_ 10), (0, .nameAndType 11 12), (0, u "com/example/tariff_riders/tariffriders/TermLength"), (0, u "length"), (0, u "I"), (0, u "(I)V"), (3, u "beginsAfter"), (0, u "(I)Z")] 5

def k2c0 : Code := { maxStack := 2, maxLocals := 2, code := prog_39_method_1_code, exceptionTable := #[], attributes := #[] }
def k2m0 : Method := { name := "<init>", desc := "(I)V", sig := { parameters := [.int], returnType := none }, accessFlags := 0, code := some k2c0 }
def k2c1 : Code := { maxStack := 2, maxLocals := 2, code := prog_39_method_3_code, exceptionTable := #[], attributes := #[] }
def k2m1 : Method := { name := "beginsAfter", desc := "(I)Z", sig := { parameters := [.int], returnType := some .boolean }, accessFlags := 0, code := some k2c1 }
/-- com/example/tariff_riders/tariffriders/TermLength -/
def k2 : Class := { plain "com/example/tariff_riders/tariffriders/TermLength" (some 0) with
  accessFlags := 48
  interfaces := #[]
  cf := some (fileOf pool2 8 #[] #[{ accessFlags := 0, nameIndex := 5, descriptorIndex := 13, attributes := #[] }, { accessFlags := 0, nameIndex := 17, descriptorIndex := 18, attributes := #[] }] 48 2 #[] #[{ accessFlags := 18, nameIndex := 11, descriptorIndex := 12, attributes := #[] }])
  fields := #[{ name := "length", type := .int, accessFlags := 18, slot := 0, constantValue := 0 }]
  methods := #[k2m0, k2m1]
  instanceTypes := #[.int]
  staticTypes := #[]
  resolved := Array.replicate 24 none
  statics := none }

def pool3 : Array CpInfo := pool [(1, u "java/lang/Cloneable"), (0, .class_ 1), (0, u "java/lang/Object"), (0, .class_ 3)] 3

/-- java/lang/Cloneable -/
def k3 : Class := { plain "java/lang/Cloneable" (some 0) with
  accessFlags := 1537
  interfaces := #[]
  cf := some (fileOf pool3 2 #[] #[] 1537 4 #[] #[])
  fields := #[]
  methods := #[]
  instanceTypes := #[]
  staticTypes := #[]
  resolved := Array.replicate 8 none
  statics := none }

def pool4 : Array CpInfo := pool [(1, u "java/io/Serializable"), (0, .class_ 1), (0, u "java/lang/Object"), (0, .class_ 3)] 3

/-- java/io/Serializable -/
def k4 : Class := { plain "java/io/Serializable" (some 0) with
  accessFlags := 1537
  interfaces := #[]
  cf := some (fileOf pool4 2 #[] #[] 1537 4 #[] #[])
  fields := #[]
  methods := #[]
  instanceTypes := #[]
  staticTypes := #[]
  resolved := Array.replicate 8 none
  statics := none }

/-- the primitive byte -/
def k5 : Class := { plain "byte" none with kind := .primitive 'B', accessFlags := 0x411 }
/-- [B -/
def k6 : Class := { plain "[B" (some 0) with kind := .array 5 .byte, interfaces := #[3, 4], accessFlags := 1041 }

/-- the primitive int -/
def k7 : Class := { plain "int" none with kind := .primitive 'I', accessFlags := 0x411 }
/-- [I -/
def k8 : Class := { plain "[I" (some 0) with kind := .array 7 .int, interfaces := #[3, 4], accessFlags := 1041 }

def heap : Heap := #[]
def classes : Array Class := #[k0, k1, k2, k3, k4, k5, k6, k7, k8]
def interned : List (Array UInt16 × Addr) := []
def slotsUsed : Nat := 0
def theMethod : MethodId := ⟨1, 1⟩
def args0 : Array Value := #[.int 5, .int 6, .int 7]
def aboutOver (below : List Frame) : State where
  vm := { classes := classes, interned := interned.toArray }
  heap := heap
  slotsUsed := slotsUsed
  threads := #[{ frames := .invoking theMethod args0 :: below }]
def below0 : List Frame := [.native { method := ⟨0, 0⟩, args := #[] }]
def about1 : State := aboutOver below0
def p0 : Program := .bare "" "" ""
def e0 : Env := launch0.env 0 0 0
theorem w_frames : about1.frames = Frame.invoking theMethod args0 :: below0 := rfl
set_option maxRecDepth 65536 in
theorem w_args : argsFit about1.vm theMethod args0 = true := by decide +kernel
set_option maxRecDepth 65536 in
theorem w_heap : heapFits about1 = true := by decide +kernel
set_option maxRecDepth 65536 in
theorem w_runnable : about1.curStatus? = some .runnable := by decide +kernel
set_option maxRecDepth 65536 in
theorem w_alone : about1.alone = true := by decide +kernel
set_option maxRecDepth 65536 in
theorem w_named : about1.methodNamed? x = some theMethod := by decide +kernel
set_option maxRecDepth 65536 in
theorem w_hears : about1.hears theMethod below0 = true := by decide +kernel
set_option maxRecDepth 65536 in
theorem w_ripe : about1.ripe theMethod args0 below0 = true := by decide +kernel
theorem w_running : about1.status = .running := rfl
set_option maxRecDepth 65536 in
theorem w_room : about1.hasRoom e0.platform room_1 = true :=
  launch0.hasRoom_least _ room_1 (by decide +kernel) (by decide +kernel) (by decide +kernel) (by decide +kernel) (by decide +kernel) (by decide +kernel)
theorem allAtoms_all (ts : List Jvm.Cond) (a : Array Jvm.Value) (st : Jvm.State) : (allAtoms ts).before a st = ts.all (fun c => c.before a st) := by
  induction ts with
  | nil => rfl
  | cons c t ih =>
    show (Jvm.Cond.and c (allAtoms t)).before a st = _
    rw [Jvm.Cond.before_and, ih, List.all_cons]
def words1 : List Jvm.Cond := Jvm.Cond.code x code maxLocals ret :: tables_1
/-- a 'code' word, met by the world's own term for the bytes: nothing is compared byte by byte -/
theorem code_word {y : MethodName} {bytes : ByteArray} {mx : Nat} {rt : Option FieldType} {a : Array Value} {s : State} {m : MethodId} {meth : Method} {c : Code} (h1 : s.methodNamed? y = some m) (h2 : s.vm.method? m = some meth) (h3 : meth.code = some c) (h4 : c.code = bytes)
    (h5 : (c.maxLocals == mx && c.exceptionTable.isEmpty && decide (c.maxStack ≤ mostOperands) && decide (meth.sig.returnType = rt) && !meth.locks && decide (parseMethodDescriptor y.desc = some meth.sig)) = true) : (Jvm.Cond.code y bytes mx rt).before a s = true := by
  simp only [Bool.and_eq_true, beq_iff_eq, Bool.not_eq_true', decide_eq_true_eq] at h5
  obtain ⟨⟨⟨⟨⟨g1, g2⟩, g3⟩, g4⟩, g5⟩, g6⟩ := h5
  simp [Cond.before, Cond.holds, Cond.value, h1, h2, h3, h4, g1, g2, g3, g4, g5, g6]
def isCode : Jvm.Cond → Bool
  | .code _ _ _ _ => true
  | _ => false
theorem all_split {L : List Jvm.Cond} {P : Jvm.Cond → Bool} (h1 : L.all (fun c => isCode c || P c) = true) (h2 : ∀ c ∈ L.filter isCode, P c = true) : L.all P = true := by
  refine List.all_eq_true.mpr fun c hc => ?_
  have h := List.all_eq_true.mp h1 c hc
  rcases Bool.eq_false_or_eq_true (isCode c) with hi | hi
  · exact h2 c (List.mem_filter.mpr ⟨hc, hi⟩)
  · simpa [hi] using h
set_option maxRecDepth 65536 in
theorem w_c0 : (Jvm.Cond.code x code maxLocals ret).before args0 about1 = true := code_word (m := ⟨1, 1⟩) (meth := k1m1) (c := k1c1) (by decide +kernel) rfl rfl rfl (by decide +kernel)
set_option maxRecDepth 65536 in
theorem w_c1 : (Jvm.Cond.code ({ cls := "com/example/tariff_riders/tariffriders/TermLength", name := "<init>", desc := "(I)V" } : Jvm.MethodName) prog_39_method_1_code (2 : Nat) (Option.none : Option Jvm.ClassFile.FieldType)).before args0 about1 = true := code_word (m := ⟨2, 0⟩) (meth := k2m0) (c := k2c0) (by decide +kernel) rfl rfl rfl (by decide +kernel)
set_option maxRecDepth 65536 in
theorem w_c2 : (Jvm.Cond.code ({ cls := "java/lang/Object", name := "<init>", desc := "()V" } : Jvm.MethodName) object_method_1_code (1 : Nat) (Option.none : Option Jvm.ClassFile.FieldType)).before args0 about1 = true := code_word (m := ⟨0, 0⟩) (meth := k0m0) (c := k0c0) (by decide +kernel) rfl rfl rfl (by decide +kernel)
set_option maxRecDepth 65536 in
theorem w_c3 : (Jvm.Cond.code ({ cls := "com/example/tariff_riders/tariffriders/TermLength", name := "beginsAfter", desc := "(I)Z" } : Jvm.MethodName) prog_39_method_3_code (2 : Nat) (Option.some Jvm.ClassFile.FieldType.boolean)).before args0 about1 = true := code_word (m := ⟨2, 1⟩) (meth := k2m1) (c := k2c1) (by decide +kernel) rfl rfl rfl (by decide +kernel)
def codes1 : List Jvm.Cond := [Jvm.Cond.code x code maxLocals ret, Jvm.Cond.code ({ cls := "com/example/tariff_riders/tariffriders/TermLength", name := "<init>", desc := "(I)V" } : Jvm.MethodName) prog_39_method_1_code (2 : Nat) (Option.none : Option Jvm.ClassFile.FieldType), Jvm.Cond.code ({ cls := "java/lang/Object", name := "<init>", desc := "()V" } : Jvm.MethodName) object_method_1_code (1 : Nat) (Option.none : Option Jvm.ClassFile.FieldType), Jvm.Cond.code ({ cls := "com/example/tariff_riders/tariffriders/TermLength", name := "beginsAfter", desc := "(I)Z" } : Jvm.MethodName) prog_39_method_3_code (2 : Nat) (Option.some Jvm.ClassFile.FieldType.boolean)]
set_option maxRecDepth 65536 in
theorem codes_eq : words1.filter isCode = codes1 := rfl
theorem w_codes : ∀ c ∈ words1.filter isCode, c.before args0 about1 = true := by
  rw [codes_eq]
  intro c hc
  simp only [codes1, List.mem_cons, List.not_mem_nil, or_false] at hc
  rcases hc with rfl | rfl | rfl | rfl
  · exact w_c0
  · exact w_c1
  · exact w_c2
  · exact w_c3
set_option maxRecDepth 65536 in
theorem w_t1 : words1.all (fun c => isCode c || c.before args0 about1) = true := by decide +kernel
theorem w_tables : (allAtoms (Jvm.Cond.code x code maxLocals ret :: tables_1)).before args0 about1 = true := by
  rw [allAtoms_all]
  show words1.all (fun c => c.before args0 about1) = true
  refine all_split ?_ w_codes
  rw [w_t1]
set_option maxRecDepth 65536 in
theorem w_case : (Jvm.Cond.and given_1 narrow_1).before args0 about1 = true := by decide +kernel
theorem w_applies : (headSpec (Jvm.Cond.code x code maxLocals ret :: tables_1) room_1).applies x e0.platform about1 = true :=
  (Spec.applies_iff w_frames).mpr ⟨w_running, w_runnable, w_alone, w_named, w_hears, w_ripe, w_room, w_tables⟩
theorem atStart : AtStart classFile x code maxLocals ret World_1 tables_1 room_1 Calls_1 rest_1 Pre_1 launch0 p0 e0 about1 theMethod args0 below0 :=
  ⟨lists_1, trivial, launch0.admits_env _ _ _, launch0.least_env, fairChoices_fair.cas, fairChoices_fair.clock, w_frames, w_args, w_heap, w_applies, trivial, trivial, w_case⟩
end start1
theorem witness_1 : WitnessClaimed_1 := ⟨start1.p0, start1.e0, start1.about1, start1.theMethod, start1.args0, start1.below0, start1.atStart⟩
end Jvm.Pilot.@@N@@
