import JvmDerived
import JvmDerived.Pilot.@@N@@Statement
import JvmDerived.Pilot.@@N@@Code
set_option linter.unusedVariables false
set_option linter.unusedSimpArgs false
namespace Jvm.RoadKit
open Sem ClassFile Op Lib Jvm.Stand Jvm.Free Jvm.LawKit
abbrev vI (x : Int32) : Slot := .val (.int x)
abbrev vJ (x : Int64) : Slot := .val (.long x)
abbrev vR (a : Addr) : Slot := .val (.ref a)
/-- from S0 the run comes to T with g on top -/
def Go (tb : Tables) (e : Env) (below : List Frame) (S0 T : State) (g : JFrame) : Prop := ∀ t, Steps tb e below (T.setTop g) t → Steps tb e below S0 t
theorem Go.fin {tb : Tables} {e : Env} {below : List Frame} {S0 S T t : State} {g : JFrame} (h : Go tb e below S0 T g) (q : S0 = S) (k : Steps tb e below (T.setTop g) t) : Steps tb e below S t := q ▸ h t k
section New
variable {p : Program} {l : Launch} {e : Env} {R : Room} {s : State} {m : MethodId} {args : Array Value} {below : List Frame} {meth : Method} {c : Code} {T : State} {locs : List Loc} {cells slots : Nat}
theorem retI (X : Stand p l e R s m args below meth c T locs cells slots) (hx : p.tables.exec = Jvm.exec) {pc : Nat} {Ls : Array Slot} {z : Int32} {rest : List Value} (hret : meth.sig.returnType = some .int) (hd : decode c.code pc = .ok (.ireturn, 1)) {fs : List Frame}
    (hl : ∀ (f : JFrame) (acts : List Action), f.method = m → f.locked = none → f.entered = [] → (doReturn e (T.setTop f) acts (some (.int z))).1 = T.setFrames fs) : Steps p.tables e below (T.setTop (mkF m pc Ls (.int z :: rest))) (T.setFrames fs) := by
  have hm' : T.vm.method? m = some meth := X.method'
  have hn : narrow .int (.int z) = .int z := rfl
  show Steps p.tables e below (T.setTop { method := m, pc := pc, locals := Ls, stack := _ :: rest, locked := none }) _
  jvm_step X.here [X.here.top, hx, hd, hm', hret, hn]
  first | (intro acts; rw [hl _ acts rfl rfl rfl]) | rw [hl _ _ rfl rfl rfl]
  exact Steps.refl _
end New
end Jvm.RoadKit
namespace Jvm.Pilot.@@N@@
open Jvm Jvm.ClassFile Sem Op Lib Jvm.Free Jvm.Stand Jvm.LawKit Jvm.RoadKit Bundle Jvm.Pilot.@@N@@.Jvm.D
def own_put (q j : Int32) (w x : Int32) : Int32 := if q = j then w else x
def own_putL (q j : Int32) (w x : Int64) : Int64 := if q = j then w else x
theorem own_getI (xs : List Int32) (k : Nat) : (xs.map Value.int).getD k (.int (0 : Int32)) = .int (xs.getD k 0) := by
  induction xs generalizing k with
  | nil => rfl
  | cons a t ih => cases k with
    | zero => rfl
    | succ n => exact ih n
theorem own_getJ (xs : List Int64) (k : Nat) : (xs.map Value.long).getD k (.long (0 : Int64)) = .long (xs.getD k 0) := by
  induction xs generalizing k with
  | nil => rfl
  | cons a t ih => cases k with
    | zero => rfl
    | succ n => exact ih n
def own_cur (c u w : Int32) : Int32 := if (64 : Int32) < (u + w) then c + (1 : Int32) else c
def own_u0 (u w : Int32) : Int32 := if (64 : Int32) < (u + w) then (0 : Int32) else u
def own_mask (w : Int32) : Int64 := ((1 : Int64) <<< (w &&& 0x3f).toInt64) - (1 : Int64)
def own_oth (w u : Int32) : Int64 := ((((1 : Int64) <<< (w &&& 0x3f).toInt64) - (1 : Int64)) <<< (u &&& 0x3f).toInt64) ^^^ (-1 : Int64)
theorem own_no1 {w : Int32} (h : 0 ≤ w.toInt ∧ w.toInt ≤ 31) : ¬ ((64 : Int32) < ((0 : Int32) + w)) := by
  have a := c_iadd (0 : Int32) w
  have b := rng32 ((0 : Int32) + w)
  simp only [Int32.lt_iff_toInt_lt, Int32.reduceToInt] at *; omega
theorem own_no2 {w v : Int32} (h : 0 ≤ w.toInt ∧ w.toInt ≤ 31) (h2 : 0 ≤ v.toInt ∧ v.toInt ≤ 31) : ¬ ((64 : Int32) < (((0 : Int32) + w) + v)) := by
  have a := c_iadd (0 : Int32) w
  have b := rng32 ((0 : Int32) + w)
  have a2 := c_iadd ((0 : Int32) + w) v
  have b2 := rng32 (((0 : Int32) + w) + v)
  simp only [Int32.lt_iff_toInt_lt, Int32.reduceToInt] at *; omega
theorem own_setJ6 {q : Int32} {w x0 x1 x2 x3 x4 x5 : Int64} (hq : ¬ q < 0 ∧ q < (6 : Int32)) : q.toNatClampNeg < 6 ∧ [Value.long x0, Value.long x1, Value.long x2, Value.long x3, Value.long x4, Value.long x5].set q.toNatClampNeg (Value.long w) = [Value.long (own_putL q (0 : Int32) w x0), Value.long (own_putL q (1 : Int32) w x1), Value.long (own_putL q (2 : Int32) w x2), Value.long (own_putL q (3 : Int32) w x3), Value.long (own_putL q (4 : Int32) w x4), Value.long (own_putL q (5 : Int32) w x5)] := by
  have h : q = (0 : Int32) ∨ q = (1 : Int32) ∨ q = (2 : Int32) ∨ q = (3 : Int32) ∨ q = (4 : Int32) ∨ q = (5 : Int32) := by
    simp only [Int32.lt_iff_toInt_lt, ← Int32.toInt_inj, Int32.reduceToInt] at *
    omega
  rcases h with rfl | rfl | rfl | rfl | rfl | rfl <;> exact ⟨by decide, rfl⟩
theorem own_setJ3 {q : Int32} {w x0 x1 x2 : Int64} (hq : ¬ q < 0 ∧ q < (3 : Int32)) : q.toNatClampNeg < 3 ∧ [Value.long x0, Value.long x1, Value.long x2].set q.toNatClampNeg (Value.long w) = [Value.long (own_putL q (0 : Int32) w x0), Value.long (own_putL q (1 : Int32) w x1), Value.long (own_putL q (2 : Int32) w x2)] := by
  have h : q = (0 : Int32) ∨ q = (1 : Int32) ∨ q = (2 : Int32) := by
    simp only [Int32.lt_iff_toInt_lt, ← Int32.toInt_inj, Int32.reduceToInt] at *
    omega
  rcases h with rfl | rfl | rfl <;> exact ⟨by decide, rfl⟩
theorem own_st {c u w c' u' : Int32} (hw : 0 ≤ w.toInt ∧ w.toInt ≤ 31) (hu : 0 ≤ u.toInt ∧ u.toInt ≤ 64) (h : c' = own_cur c u w ∧ u' = own_u0 u w) :
    (u.toInt + w.toInt ≤ 64 ∧ c' = c ∧ u' = u) ∨ (64 < u.toInt + w.toInt ∧ c' = c + (1 : Int32) ∧ u' = (0 : Int32)) := by
  obtain ⟨rfl, rfl⟩ := h
  have a := c_iadd u w
  have b := rng32 (u + w)
  unfold own_cur own_u0
  by_cases q : (64 : Int32) < (u + w)
  · refine Or.inr ⟨?_, if_pos q, if_pos q⟩
    simp only [Int32.lt_iff_toInt_lt, Int32.reduceToInt] at q; omega
  · refine Or.inl ⟨?_, if_neg q, if_neg q⟩
    simp only [Int32.lt_iff_toInt_lt, Int32.reduceToInt] at q; omega
theorem own_sum {u w : Int32} (hw : 0 ≤ w.toInt ∧ w.toInt ≤ 31) (hu : 0 ≤ u.toInt ∧ u.toInt ≤ 64) : (u + w).toInt = u.toInt + w.toInt := by
  have a := c_iadd u w
  have b := rng32 (u + w)
  omega
theorem own_two {w0 w1 : Int32} (h0 : 0 ≤ w0.toInt ∧ w0.toInt ≤ 31) (h1 : 0 ≤ w1.toInt ∧ w1.toInt ≤ 31) : (((0 : Int32) + w0) + w1).toInt = w0.toInt + w1.toInt := by
  have a := c_iadd (0 : Int32) w0
  have b := rng32 ((0 : Int32) + w0)
  have a2 := c_iadd ((0 : Int32) + w0) w1
  have b2 := rng32 (((0 : Int32) + w0) + w1)
  have t : (0 : Int32).toInt = 0 := rfl
  omega
theorem own_pat4 {w0 w1 w2 w3 c2 u2 c3 u3 : Int32} (h0 : 0 ≤ w0.toInt ∧ w0.toInt ≤ 31) (h1 : 0 ≤ w1.toInt ∧ w1.toInt ≤ 31) (h2 : 0 ≤ w2.toInt ∧ w2.toInt ≤ 31) (h3 : 0 ≤ w3.toInt ∧ w3.toInt ≤ 31)
    (e2 : c2 = own_cur (0 : Int32) (((0 : Int32) + w0) + w1) w2 ∧ u2 = own_u0 (((0 : Int32) + w0) + w1) w2) (e3 : c3 = own_cur c2 (u2 + w2) w3 ∧ u3 = own_u0 (u2 + w2) w3) :
    (c2 = (0 : Int32) ∧ c3 = (0 : Int32) ∧ 0 ≤ u3.toInt ∧ u3.toInt + w3.toInt ≤ 64) ∨ (c2 = (0 : Int32) ∧ c3 = (1 : Int32) ∧ u3 = (0 : Int32)) ∨ (c2 = (1 : Int32) ∧ c3 = (1 : Int32) ∧ 0 ≤ u3.toInt ∧ u3.toInt + w3.toInt ≤ 64) := by
  have t := own_two h0 h1
  rcases own_st h2 (by omega) e2 with ⟨a, rfl, rfl⟩ | ⟨a, rfl, rfl⟩
  · have s2 := own_sum h2 (u := ((0 : Int32) + w0) + w1) (by omega)
    rcases own_st h3 (by omega) e3 with ⟨b, rfl, rfl⟩ | ⟨b, rfl, rfl⟩
    · exact Or.inl ⟨rfl, rfl, by omega, by omega⟩
    · exact Or.inr (Or.inl ⟨rfl, rfl, rfl⟩)
  · have s2 := own_sum h2 (u := (0 : Int32)) (by decide)
    have z : (0 : Int32).toInt = 0 := rfl
    rcases own_st h3 (by omega) e3 with ⟨b, rfl, rfl⟩ | ⟨b, rfl, rfl⟩
    · exact Or.inr (Or.inr ⟨rfl, rfl, by omega, by omega⟩)
    · exfalso; omega
theorem own_pat5 {w0 w1 w2 w3 w4 c2 u2 c3 u3 c4 u4 : Int32} (h0 : 0 ≤ w0.toInt ∧ w0.toInt ≤ 31) (h1 : 0 ≤ w1.toInt ∧ w1.toInt ≤ 31) (h2 : 0 ≤ w2.toInt ∧ w2.toInt ≤ 31) (h3 : 0 ≤ w3.toInt ∧ w3.toInt ≤ 31) (h4 : 0 ≤ w4.toInt ∧ w4.toInt ≤ 31)
    (e2 : c2 = own_cur (0 : Int32) (((0 : Int32) + w0) + w1) w2 ∧ u2 = own_u0 (((0 : Int32) + w0) + w1) w2) (e3 : c3 = own_cur c2 (u2 + w2) w3 ∧ u3 = own_u0 (u2 + w2) w3) (e4 : c4 = own_cur c3 (u3 + w3) w4 ∧ u4 = own_u0 (u3 + w3) w4) :
    (c2 = (0 : Int32) ∧ c3 = (0 : Int32) ∧ c4 = (0 : Int32)) ∨ (c2 = (0 : Int32) ∧ c3 = (0 : Int32) ∧ c4 = (1 : Int32)) ∨ (c2 = (0 : Int32) ∧ c3 = (1 : Int32) ∧ c4 = (1 : Int32)) ∨ (c2 = (1 : Int32) ∧ c3 = (1 : Int32) ∧ c4 = (1 : Int32)) ∨ (c2 = (1 : Int32) ∧ c3 = (1 : Int32) ∧ c4 = (2 : Int32)) := by
  have z : (0 : Int32).toInt = 0 := rfl
  rcases own_pat4 h0 h1 h2 h3 e2 e3 with ⟨rfl, rfl, q1, q2⟩ | ⟨rfl, rfl, rfl⟩ | ⟨rfl, rfl, q1, q2⟩
  · have s3 := own_sum h3 (u := u3) (by omega)
    rcases own_st h4 (by omega) e4 with ⟨b, rfl, rfl⟩ | ⟨b, rfl, rfl⟩
    · exact Or.inl ⟨rfl, rfl, rfl⟩
    · exact Or.inr (Or.inl ⟨rfl, rfl, rfl⟩)
  · have s3 := own_sum h3 (u := (0 : Int32)) (by decide)
    rcases own_st h4 (by omega) e4 with ⟨b, rfl, rfl⟩ | ⟨b, rfl, rfl⟩
    · exact Or.inr (Or.inr (Or.inl ⟨rfl, rfl, rfl⟩))
    · exfalso; omega
  · have s3 := own_sum h3 (u := u3) (by omega)
    rcases own_st h4 (by omega) e4 with ⟨b, rfl, rfl⟩ | ⟨b, rfl, rfl⟩
    · exact Or.inr (Or.inr (Or.inr (Or.inl ⟨rfl, rfl, rfl⟩)))
    · exact Or.inr (Or.inr (Or.inr (Or.inr ⟨rfl, rfl, rfl⟩)))
def own_width (p0 : Int32) (p1 : Int32) : Int32 := (((((p0.toUInt32 >>> (p1 &&& 31).toUInt32).toInt32) &&& (31 : Int32)) % (31 : Int32)) + (1 : Int32))
theorem ef_1 (m : MethodId) (x0 : Int32) (x1 : Int32) : entryFrame m #[(.int x0), (.int x1)] 2 = mkF m 0 #[.val (.int x0), .val (.int x1)] [] := by first | (simp [entryFrame, mkF, argsToLocals, Value.category]; done) | rfl
theorem pn_0 : plainName "com/example/garantia/garantia/engine/StateLayoutPackPinLaw" = true := by first | (simp [plainName, overriddenIn]; done) | decide +kernel
theorem d1_0 : decode method_3_code 0 = .ok (.iload_n 0, 1) := by decide +kernel
theorem d1_1 : decode method_3_code 1 = .ok (.iload_n 1, 1) := by decide +kernel
theorem d1_2 : decode method_3_code 2 = .ok (.iushr, 1) := by decide +kernel
theorem d1_3 : decode method_3_code 3 = .ok (.bipush 31, 2) := by decide +kernel
theorem d1_5 : decode method_3_code 5 = .ok (.iand, 1) := by decide +kernel
theorem d1_6 : decode method_3_code 6 = .ok (.bipush 31, 2) := by decide +kernel
theorem d1_8 : decode method_3_code 8 = .ok (.irem, 1) := by decide +kernel
theorem d1_9 : decode method_3_code 9 = .ok (.iconst 1, 1) := by decide +kernel
theorem d1_10 : decode method_3_code 10 = .ok (.iadd, 1) := by decide +kernel
theorem d1_11 : decode method_3_code 11 = .ok (.ireturn, 1) := by decide +kernel
def Q1 (Z : State) (p0 : Int32) (p1 : Int32) (h0 : Heap) (n0 : Nat) (v : Option Value) (h : Heap) (L : List Loc) : Prop := v = some (.int (own_width p0 p1)) ∧ Fr n0 L ∧ h = h0
set_option maxRecDepth 65536 in
set_option maxHeartbeats 40000000 in
theorem rm1 (l : Launch) (Z : State) (A0 : Array Value) (hw : ∀ d ∈ tables_1, d.before A0 Z = true) (ws : List Jvm.Cond) (p0 : Int32) (p1 : Int32)  (h0 : Heap) (n0 : Nat) (Z0 : n0 ≤ h0.size)  :
    MetFree l (⟨"com/example/garantia/garantia/engine/StateLayoutPackPinLaw", "width", "(II)I"⟩ : MethodName) (head1 (Jvm.Cond.code (⟨"com/example/garantia/garantia/engine/StateLayoutPackPinLaw", "width", "(II)I"⟩ : MethodName) method_3_code 2 (some .int) :: ws) ({ frames := 0, cells := 0, slots := 0, locals := 0 } : Room)) (fun a U => a = #[(.int p0), (.int p1)] ∧ Z.Warmed39 U.vm ∧ U.heap = h0) (fun _ _ _ _ _ => True) (fun _ U o U' => ∃ v L, o = .returned v ∧ Q1 Z p0 p1 h0 n0 v U'.heap L ∧ FrameEnd U o U' L ({ frames := 0, cells := 0, slots := 0, locals := 0 } : Room).cells ({ frames := 0, cells := 0, slots := 0, locals := 0 } : Room).slots) := by
  refine MetFree.of_bodySF (plainFor_of_name pn_0) hisR ?_
  intro p e s m args below meth c s₁ Bd hml0 hP hK
  obtain ⟨rfl, hZ, hh⟩ := hP
  have hx := Bd.exec
  have hby := Bd.bytes
  have hml : c.maxLocals = 2 := hml0
  have hown : s.vm.findClass "com/example/garantia/garantia/engine/StateLayoutPackPinLaw" = some m.cls := findClass_of_methodNamed Bd.named
  have hnm := (name_of_methodNamed Bd.named Bd.method).1
  have X0 : Stand p l e ({ frames := 0, cells := 0, slots := 0, locals := 0 } : Room) s m #[(.int p0), (.int p1)] below meth c s₁ [] 0 0 := Stand.of_body Bd
  have e0 : s₁.heap = h0 := by rw [← hh, Bd.state]; rfl
  have N0 := Fr.nil n0
  obtain ⟨S0, hS0⟩ : ∃ z, z = s₁.setTop (entryFrame m #[(.int p0), (.int p1)] 2) := ⟨_, rfl⟩
  have pre0 : Go p.tables e below S0 s₁ (mkF m 0 #[vI p0, vI p1] []) := fun t k => by rw [hS0]; exact castTop (ef_1 m p0 p1) k
  have pre1 : Go p.tables e below S0 s₁ (mkF m 11 #[vI p0, vI p1] [(.int (((((p0.toUInt32 >>> (p1 &&& 31).toUInt32).toInt32) &&& (31 : Int32)) % (31 : Int32)) + (1 : Int32)))]) := fun t k => pre0 t (by
    refine XS.iloadN X0.here hx rfl (hb hby d1_0) rfl ?_
    refine XS.iloadN X0.here hx rfl (hb hby d1_1) rfl ?_
    refine XS.iushr X0.here hx rfl (hb hby d1_2) rfl ?_
    show Steps p.tables e below (s₁.setTop (mkF m 3 #[vI p0, vI p1] [(.int ((p0.toUInt32 >>> (p1 &&& 31).toUInt32).toInt32))])) _
    refine XS.bipush X0.here hx rfl (hb hby d1_3) ?_
    refine XS.iand X0.here hx rfl (hb hby d1_5) rfl ?_
    refine XS.bipush X0.here hx rfl (hb hby d1_6) ?_
    show Steps p.tables e below (s₁.setTop (mkF m 8 #[vI p0, vI p1] [(.int (31 : Int32)), (.int (((p0.toUInt32 >>> (p1 &&& 31).toUInt32).toInt32) &&& (31 : Int32)))])) _
    refine iremM X0 hx rfl (hb hby d1_8) rfl (by decide) ?_
    refine XS.iconst X0.here hx rfl (hb hby d1_9) ?_
    refine XS.iadd X0.here hx rfl (hb hby d1_10) rfl ?_
    show Steps p.tables e below (s₁.setTop (mkF m 11 #[vI p0, vI p1] [(.int (((((p0.toUInt32 >>> (p1 &&& 31).toUInt32).toInt32) &&& (31 : Int32)) % (31 : Int32)) + (1 : Int32)))])) _
    exact k)
  obtain ⟨fs, hr, hrun, hended, hW, hsame⟩ := X0.leave (v := some (.int (((((p0.toUInt32 >>> (p1 &&& 31).toUInt32).toInt32) &&& (31 : Int32)) % (31 : Int32)) + (1 : Int32)))) (fun h => by rw [Bd.returns] at h; cases h)
  exact ⟨_, _, pre1.fin hS0 (retI X0 hx Bd.returns (hb hby d1_11) hr), hrun, hended, _, _, rfl, (by
    show Q1 Z p0 p1 h0 n0 _ s₁.heap _
    rw [e0]
    exact ⟨congrArg (fun z => some (Value.int z)) (by rfl), N0, rfl⟩), ⟨_, rfl⟩, hW, hsame.mono (by decide) (by decide)⟩
def own_low (p0 : Int32) : Int32 := ((((1 : Int64) <<< (p0 &&& 0x3f).toInt64) - (1 : Int64)).toInt32)
theorem ef_2 (m : MethodId) (x0 : Int32) : entryFrame m #[(.int x0)] 1 = mkF m 0 #[.val (.int x0)] [] := by first | (simp [entryFrame, mkF, argsToLocals, Value.category]; done) | rfl
theorem d2_0 : decode method_4_code 0 = .ok (.lconst 1, 1) := by decide +kernel
theorem d2_1 : decode method_4_code 1 = .ok (.iload_n 0, 1) := by decide +kernel
theorem d2_2 : decode method_4_code 2 = .ok (.lshl, 1) := by decide +kernel
theorem d2_3 : decode method_4_code 3 = .ok (.lconst 1, 1) := by decide +kernel
theorem d2_4 : decode method_4_code 4 = .ok (.lsub, 1) := by decide +kernel
theorem d2_5 : decode method_4_code 5 = .ok (.l2i, 1) := by decide +kernel
theorem d2_6 : decode method_4_code 6 = .ok (.ireturn, 1) := by decide +kernel
def Q2 (Z : State) (p0 : Int32) (h0 : Heap) (n0 : Nat) (v : Option Value) (h : Heap) (L : List Loc) : Prop := v = some (.int (own_low p0)) ∧ Fr n0 L ∧ h = h0
set_option maxRecDepth 65536 in
set_option maxHeartbeats 40000000 in
theorem rm2 (l : Launch) (Z : State) (A0 : Array Value) (hw : ∀ d ∈ tables_1, d.before A0 Z = true) (ws : List Jvm.Cond) (p0 : Int32)  (h0 : Heap) (n0 : Nat) (Z0 : n0 ≤ h0.size)  :
    MetFree l (⟨"com/example/garantia/garantia/engine/StateLayoutPackPinLaw", "low", "(I)I"⟩ : MethodName) (head1 (Jvm.Cond.code (⟨"com/example/garantia/garantia/engine/StateLayoutPackPinLaw", "low", "(I)I"⟩ : MethodName) method_4_code 1 (some .int) :: ws) ({ frames := 0, cells := 0, slots := 0, locals := 0 } : Room)) (fun a U => a = #[(.int p0)] ∧ Z.Warmed39 U.vm ∧ U.heap = h0) (fun _ _ _ _ _ => True) (fun _ U o U' => ∃ v L, o = .returned v ∧ Q2 Z p0 h0 n0 v U'.heap L ∧ FrameEnd U o U' L ({ frames := 0, cells := 0, slots := 0, locals := 0 } : Room).cells ({ frames := 0, cells := 0, slots := 0, locals := 0 } : Room).slots) := by
  refine MetFree.of_bodySF (plainFor_of_name pn_0) hisR ?_
  intro p e s m args below meth c s₁ Bd hml0 hP hK
  obtain ⟨rfl, hZ, hh⟩ := hP
  have hx := Bd.exec
  have hby := Bd.bytes
  have hml : c.maxLocals = 1 := hml0
  have hown : s.vm.findClass "com/example/garantia/garantia/engine/StateLayoutPackPinLaw" = some m.cls := findClass_of_methodNamed Bd.named
  have hnm := (name_of_methodNamed Bd.named Bd.method).1
  have X0 : Stand p l e ({ frames := 0, cells := 0, slots := 0, locals := 0 } : Room) s m #[(.int p0)] below meth c s₁ [] 0 0 := Stand.of_body Bd
  have e0 : s₁.heap = h0 := by rw [← hh, Bd.state]; rfl
  have N0 := Fr.nil n0
  obtain ⟨S0, hS0⟩ : ∃ z, z = s₁.setTop (entryFrame m #[(.int p0)] 1) := ⟨_, rfl⟩
  have pre0 : Go p.tables e below S0 s₁ (mkF m 0 #[vI p0] []) := fun t k => by rw [hS0]; exact castTop (ef_2 m p0) k
  have pre1 : Go p.tables e below S0 s₁ (mkF m 6 #[vI p0] [(.int ((((1 : Int64) <<< (p0 &&& 0x3f).toInt64) - (1 : Int64)).toInt32))]) := fun t k => pre0 t (by
    refine XS.lconst X0.here hx rfl (hb hby d2_0) ?_
    refine XS.iloadN X0.here hx rfl (hb hby d2_1) rfl ?_
    refine XS.lshl X0.here hx rfl (hb hby d2_2) rfl ?_
    show Steps p.tables e below (s₁.setTop (mkF m 3 #[vI p0] [(.long ((1 : Int64) <<< (p0 &&& 0x3f).toInt64))])) _
    refine XS.lconst X0.here hx rfl (hb hby d2_3) ?_
    refine XS.lsub X0.here hx rfl (hb hby d2_4) rfl ?_
    refine XS.l2i X0.here hx rfl (hb hby d2_5) rfl ?_
    show Steps p.tables e below (s₁.setTop (mkF m 6 #[vI p0] [(.int ((((1 : Int64) <<< (p0 &&& 0x3f).toInt64) - (1 : Int64)).toInt32))])) _
    exact k)
  obtain ⟨fs, hr, hrun, hended, hW, hsame⟩ := X0.leave (v := some (.int ((((1 : Int64) <<< (p0 &&& 0x3f).toInt64) - (1 : Int64)).toInt32))) (fun h => by rw [Bd.returns] at h; cases h)
  exact ⟨_, _, pre1.fin hS0 (retI X0 hx Bd.returns (hb hby d2_6) hr), hrun, hended, _, _, rfl, (by
    show Q2 Z p0 h0 n0 _ s₁.heap _
    rw [e0]
    exact ⟨congrArg (fun z => some (Value.int z)) (by rfl), N0, rfl⟩), ⟨_, rfl⟩, hW, hsame.mono (by decide) (by decide)⟩
def own_orL (q j : Int32) (w x : Int64) : Int64 := if q = j then x ||| w else x
theorem own_or3 {q : Int32} {w x0 x1 x2 : Int64} (hq : ¬ q < 0 ∧ q < (3 : Int32)) : own_putL q (0 : Int32) ([x0, x1, x2].getD (q).toNatClampNeg 0 ||| w) x0 = own_orL q (0 : Int32) w x0 ∧ own_putL q (1 : Int32) ([x0, x1, x2].getD (q).toNatClampNeg 0 ||| w) x1 = own_orL q (1 : Int32) w x1 ∧ own_putL q (2 : Int32) ([x0, x1, x2].getD (q).toNatClampNeg 0 ||| w) x2 = own_orL q (2 : Int32) w x2 := by
  have h : q = (0 : Int32) ∨ q = (1 : Int32) ∨ q = (2 : Int32) := by
    simp only [Int32.lt_iff_toInt_lt, ← Int32.toInt_inj, Int32.reduceToInt] at *
    omega
  rcases h with rfl | rfl | rfl <;> exact ⟨rfl, rfl, rfl⟩
theorem own_cell1_0 {o : Int32} (ho : o = (0 : Int32) ∨ o = (1 : Int32) ∨ o = (2 : Int32) ∨ o = (3 : Int32)) {B0 s t0 t1 t2 z : Int64} (hz : z = own_putL o (0 : Int32) B0 (s)) (e0 : t0 = B0) : (¬ ((0 : Int32) < o) → (0 : Int32) < (o + (1 : Int32)) → ¬ ((0 : Int32) - o) < 0 ∧ ((0 : Int32) - o) < (3 : Int32)) ∧ (¬ ((0 : Int32) < o) → (0 : Int32) < (o + (1 : Int32)) → z = ([t0, t1, t2].getD ((0 : Int32) - o).toNatClampNeg 0)) ∧ (((0 : Int32) < o ∨ ¬ ((0 : Int32) < (o + (1 : Int32)))) → z = s) := by
  subst hz e0
  rcases ho with rfl | rfl | rfl | rfl
  · exact ⟨fun a b => by decide, fun a b => rfl, fun q => absurd q (by decide)⟩
  · exact ⟨fun a b => absurd (And.intro a b) (by decide), fun a b => absurd (And.intro a b) (by decide), fun q => rfl⟩
  · exact ⟨fun a b => absurd (And.intro a b) (by decide), fun a b => absurd (And.intro a b) (by decide), fun q => rfl⟩
  · exact ⟨fun a b => absurd (And.intro a b) (by decide), fun a b => absurd (And.intro a b) (by decide), fun q => rfl⟩
theorem own_cell1_1 {o : Int32} (ho : o = (0 : Int32) ∨ o = (1 : Int32) ∨ o = (2 : Int32) ∨ o = (3 : Int32)) {B0 s t0 t1 t2 z : Int64} (hz : z = own_putL o (1 : Int32) B0 (s)) (e0 : t0 = B0) : (¬ ((1 : Int32) < o) → (1 : Int32) < (o + (1 : Int32)) → ¬ ((1 : Int32) - o) < 0 ∧ ((1 : Int32) - o) < (3 : Int32)) ∧ (¬ ((1 : Int32) < o) → (1 : Int32) < (o + (1 : Int32)) → z = ([t0, t1, t2].getD ((1 : Int32) - o).toNatClampNeg 0)) ∧ (((1 : Int32) < o ∨ ¬ ((1 : Int32) < (o + (1 : Int32)))) → z = s) := by
  subst hz e0
  rcases ho with rfl | rfl | rfl | rfl
  · exact ⟨fun a b => absurd (And.intro a b) (by decide), fun a b => absurd (And.intro a b) (by decide), fun q => rfl⟩
  · exact ⟨fun a b => by decide, fun a b => rfl, fun q => absurd q (by decide)⟩
  · exact ⟨fun a b => absurd (And.intro a b) (by decide), fun a b => absurd (And.intro a b) (by decide), fun q => rfl⟩
  · exact ⟨fun a b => absurd (And.intro a b) (by decide), fun a b => absurd (And.intro a b) (by decide), fun q => rfl⟩
theorem own_cell1_2 {o : Int32} (ho : o = (0 : Int32) ∨ o = (1 : Int32) ∨ o = (2 : Int32) ∨ o = (3 : Int32)) {B0 s t0 t1 t2 z : Int64} (hz : z = own_putL o (2 : Int32) B0 (s)) (e0 : t0 = B0) : (¬ ((2 : Int32) < o) → (2 : Int32) < (o + (1 : Int32)) → ¬ ((2 : Int32) - o) < 0 ∧ ((2 : Int32) - o) < (3 : Int32)) ∧ (¬ ((2 : Int32) < o) → (2 : Int32) < (o + (1 : Int32)) → z = ([t0, t1, t2].getD ((2 : Int32) - o).toNatClampNeg 0)) ∧ (((2 : Int32) < o ∨ ¬ ((2 : Int32) < (o + (1 : Int32)))) → z = s) := by
  subst hz e0
  rcases ho with rfl | rfl | rfl | rfl
  · exact ⟨fun a b => absurd (And.intro a b) (by decide), fun a b => absurd (And.intro a b) (by decide), fun q => rfl⟩
  · exact ⟨fun a b => absurd (And.intro a b) (by decide), fun a b => absurd (And.intro a b) (by decide), fun q => rfl⟩
  · exact ⟨fun a b => by decide, fun a b => rfl, fun q => absurd q (by decide)⟩
  · exact ⟨fun a b => absurd (And.intro a b) (by decide), fun a b => absurd (And.intro a b) (by decide), fun q => rfl⟩
theorem own_cell1_3 {o : Int32} (ho : o = (0 : Int32) ∨ o = (1 : Int32) ∨ o = (2 : Int32) ∨ o = (3 : Int32)) {B0 s t0 t1 t2 z : Int64} (hz : z = own_putL o (3 : Int32) B0 (s)) (e0 : t0 = B0) : (¬ ((3 : Int32) < o) → (3 : Int32) < (o + (1 : Int32)) → ¬ ((3 : Int32) - o) < 0 ∧ ((3 : Int32) - o) < (3 : Int32)) ∧ (¬ ((3 : Int32) < o) → (3 : Int32) < (o + (1 : Int32)) → z = ([t0, t1, t2].getD ((3 : Int32) - o).toNatClampNeg 0)) ∧ (((3 : Int32) < o ∨ ¬ ((3 : Int32) < (o + (1 : Int32)))) → z = s) := by
  subst hz e0
  rcases ho with rfl | rfl | rfl | rfl
  · exact ⟨fun a b => absurd (And.intro a b) (by decide), fun a b => absurd (And.intro a b) (by decide), fun q => rfl⟩
  · exact ⟨fun a b => absurd (And.intro a b) (by decide), fun a b => absurd (And.intro a b) (by decide), fun q => rfl⟩
  · exact ⟨fun a b => absurd (And.intro a b) (by decide), fun a b => absurd (And.intro a b) (by decide), fun q => rfl⟩
  · exact ⟨fun a b => by decide, fun a b => rfl, fun q => absurd q (by decide)⟩
theorem own_cell1_4 {o : Int32} (ho : o = (0 : Int32) ∨ o = (1 : Int32) ∨ o = (2 : Int32) ∨ o = (3 : Int32)) {B0 s t0 t1 t2 z : Int64} (hz : z = own_putL o (4 : Int32) B0 (s)) (e0 : t0 = B0) : (¬ ((4 : Int32) < o) → (4 : Int32) < (o + (1 : Int32)) → ¬ ((4 : Int32) - o) < 0 ∧ ((4 : Int32) - o) < (3 : Int32)) ∧ (¬ ((4 : Int32) < o) → (4 : Int32) < (o + (1 : Int32)) → z = ([t0, t1, t2].getD ((4 : Int32) - o).toNatClampNeg 0)) ∧ (((4 : Int32) < o ∨ ¬ ((4 : Int32) < (o + (1 : Int32)))) → z = s) := by
  subst hz e0
  rcases ho with rfl | rfl | rfl | rfl
  · exact ⟨fun a b => absurd (And.intro a b) (by decide), fun a b => absurd (And.intro a b) (by decide), fun q => rfl⟩
  · exact ⟨fun a b => absurd (And.intro a b) (by decide), fun a b => absurd (And.intro a b) (by decide), fun q => rfl⟩
  · exact ⟨fun a b => absurd (And.intro a b) (by decide), fun a b => absurd (And.intro a b) (by decide), fun q => rfl⟩
  · exact ⟨fun a b => absurd (And.intro a b) (by decide), fun a b => absurd (And.intro a b) (by decide), fun q => rfl⟩
theorem own_cell1_5 {o : Int32} (ho : o = (0 : Int32) ∨ o = (1 : Int32) ∨ o = (2 : Int32) ∨ o = (3 : Int32)) {B0 s t0 t1 t2 z : Int64} (hz : z = own_putL o (5 : Int32) B0 (s)) (e0 : t0 = B0) : (¬ ((5 : Int32) < o) → (5 : Int32) < (o + (1 : Int32)) → ¬ ((5 : Int32) - o) < 0 ∧ ((5 : Int32) - o) < (3 : Int32)) ∧ (¬ ((5 : Int32) < o) → (5 : Int32) < (o + (1 : Int32)) → z = ([t0, t1, t2].getD ((5 : Int32) - o).toNatClampNeg 0)) ∧ (((5 : Int32) < o ∨ ¬ ((5 : Int32) < (o + (1 : Int32)))) → z = s) := by
  subst hz e0
  rcases ho with rfl | rfl | rfl | rfl
  · exact ⟨fun a b => absurd (And.intro a b) (by decide), fun a b => absurd (And.intro a b) (by decide), fun q => rfl⟩
  · exact ⟨fun a b => absurd (And.intro a b) (by decide), fun a b => absurd (And.intro a b) (by decide), fun q => rfl⟩
  · exact ⟨fun a b => absurd (And.intro a b) (by decide), fun a b => absurd (And.intro a b) (by decide), fun q => rfl⟩
  · exact ⟨fun a b => absurd (And.intro a b) (by decide), fun a b => absurd (And.intro a b) (by decide), fun q => rfl⟩
theorem own_cell2_0 {o : Int32} (ho : o = (0 : Int32) ∨ o = (1 : Int32) ∨ o = (2 : Int32) ∨ o = (3 : Int32)) {B0 B1 s t0 t1 t2 z : Int64} (hz : z = own_putL (o + (1 : Int32)) (0 : Int32) B1 (own_putL (o + (0 : Int32)) (0 : Int32) B0 (s))) (e0 : t0 = B0) (e1 : t1 = B1) : (¬ ((0 : Int32) < o) → (0 : Int32) < (o + (2 : Int32)) → ¬ ((0 : Int32) - o) < 0 ∧ ((0 : Int32) - o) < (3 : Int32)) ∧ (¬ ((0 : Int32) < o) → (0 : Int32) < (o + (2 : Int32)) → z = ([t0, t1, t2].getD ((0 : Int32) - o).toNatClampNeg 0)) ∧ (((0 : Int32) < o ∨ ¬ ((0 : Int32) < (o + (2 : Int32)))) → z = s) := by
  subst hz e0 e1
  rcases ho with rfl | rfl | rfl | rfl
  · exact ⟨fun a b => by decide, fun a b => rfl, fun q => absurd q (by decide)⟩
  · exact ⟨fun a b => absurd (And.intro a b) (by decide), fun a b => absurd (And.intro a b) (by decide), fun q => rfl⟩
  · exact ⟨fun a b => absurd (And.intro a b) (by decide), fun a b => absurd (And.intro a b) (by decide), fun q => rfl⟩
  · exact ⟨fun a b => absurd (And.intro a b) (by decide), fun a b => absurd (And.intro a b) (by decide), fun q => rfl⟩
theorem own_cell2_1 {o : Int32} (ho : o = (0 : Int32) ∨ o = (1 : Int32) ∨ o = (2 : Int32) ∨ o = (3 : Int32)) {B0 B1 s t0 t1 t2 z : Int64} (hz : z = own_putL (o + (1 : Int32)) (1 : Int32) B1 (own_putL (o + (0 : Int32)) (1 : Int32) B0 (s))) (e0 : t0 = B0) (e1 : t1 = B1) : (¬ ((1 : Int32) < o) → (1 : Int32) < (o + (2 : Int32)) → ¬ ((1 : Int32) - o) < 0 ∧ ((1 : Int32) - o) < (3 : Int32)) ∧ (¬ ((1 : Int32) < o) → (1 : Int32) < (o + (2 : Int32)) → z = ([t0, t1, t2].getD ((1 : Int32) - o).toNatClampNeg 0)) ∧ (((1 : Int32) < o ∨ ¬ ((1 : Int32) < (o + (2 : Int32)))) → z = s) := by
  subst hz e0 e1
  rcases ho with rfl | rfl | rfl | rfl
  · exact ⟨fun a b => by decide, fun a b => rfl, fun q => absurd q (by decide)⟩
  · exact ⟨fun a b => by decide, fun a b => rfl, fun q => absurd q (by decide)⟩
  · exact ⟨fun a b => absurd (And.intro a b) (by decide), fun a b => absurd (And.intro a b) (by decide), fun q => rfl⟩
  · exact ⟨fun a b => absurd (And.intro a b) (by decide), fun a b => absurd (And.intro a b) (by decide), fun q => rfl⟩
theorem own_cell2_2 {o : Int32} (ho : o = (0 : Int32) ∨ o = (1 : Int32) ∨ o = (2 : Int32) ∨ o = (3 : Int32)) {B0 B1 s t0 t1 t2 z : Int64} (hz : z = own_putL (o + (1 : Int32)) (2 : Int32) B1 (own_putL (o + (0 : Int32)) (2 : Int32) B0 (s))) (e0 : t0 = B0) (e1 : t1 = B1) : (¬ ((2 : Int32) < o) → (2 : Int32) < (o + (2 : Int32)) → ¬ ((2 : Int32) - o) < 0 ∧ ((2 : Int32) - o) < (3 : Int32)) ∧ (¬ ((2 : Int32) < o) → (2 : Int32) < (o + (2 : Int32)) → z = ([t0, t1, t2].getD ((2 : Int32) - o).toNatClampNeg 0)) ∧ (((2 : Int32) < o ∨ ¬ ((2 : Int32) < (o + (2 : Int32)))) → z = s) := by
  subst hz e0 e1
  rcases ho with rfl | rfl | rfl | rfl
  · exact ⟨fun a b => absurd (And.intro a b) (by decide), fun a b => absurd (And.intro a b) (by decide), fun q => rfl⟩
  · exact ⟨fun a b => by decide, fun a b => rfl, fun q => absurd q (by decide)⟩
  · exact ⟨fun a b => by decide, fun a b => rfl, fun q => absurd q (by decide)⟩
  · exact ⟨fun a b => absurd (And.intro a b) (by decide), fun a b => absurd (And.intro a b) (by decide), fun q => rfl⟩
theorem own_cell2_3 {o : Int32} (ho : o = (0 : Int32) ∨ o = (1 : Int32) ∨ o = (2 : Int32) ∨ o = (3 : Int32)) {B0 B1 s t0 t1 t2 z : Int64} (hz : z = own_putL (o + (1 : Int32)) (3 : Int32) B1 (own_putL (o + (0 : Int32)) (3 : Int32) B0 (s))) (e0 : t0 = B0) (e1 : t1 = B1) : (¬ ((3 : Int32) < o) → (3 : Int32) < (o + (2 : Int32)) → ¬ ((3 : Int32) - o) < 0 ∧ ((3 : Int32) - o) < (3 : Int32)) ∧ (¬ ((3 : Int32) < o) → (3 : Int32) < (o + (2 : Int32)) → z = ([t0, t1, t2].getD ((3 : Int32) - o).toNatClampNeg 0)) ∧ (((3 : Int32) < o ∨ ¬ ((3 : Int32) < (o + (2 : Int32)))) → z = s) := by
  subst hz e0 e1
  rcases ho with rfl | rfl | rfl | rfl
  · exact ⟨fun a b => absurd (And.intro a b) (by decide), fun a b => absurd (And.intro a b) (by decide), fun q => rfl⟩
  · exact ⟨fun a b => absurd (And.intro a b) (by decide), fun a b => absurd (And.intro a b) (by decide), fun q => rfl⟩
  · exact ⟨fun a b => by decide, fun a b => rfl, fun q => absurd q (by decide)⟩
  · exact ⟨fun a b => by decide, fun a b => rfl, fun q => absurd q (by decide)⟩
theorem own_cell2_4 {o : Int32} (ho : o = (0 : Int32) ∨ o = (1 : Int32) ∨ o = (2 : Int32) ∨ o = (3 : Int32)) {B0 B1 s t0 t1 t2 z : Int64} (hz : z = own_putL (o + (1 : Int32)) (4 : Int32) B1 (own_putL (o + (0 : Int32)) (4 : Int32) B0 (s))) (e0 : t0 = B0) (e1 : t1 = B1) : (¬ ((4 : Int32) < o) → (4 : Int32) < (o + (2 : Int32)) → ¬ ((4 : Int32) - o) < 0 ∧ ((4 : Int32) - o) < (3 : Int32)) ∧ (¬ ((4 : Int32) < o) → (4 : Int32) < (o + (2 : Int32)) → z = ([t0, t1, t2].getD ((4 : Int32) - o).toNatClampNeg 0)) ∧ (((4 : Int32) < o ∨ ¬ ((4 : Int32) < (o + (2 : Int32)))) → z = s) := by
  subst hz e0 e1
  rcases ho with rfl | rfl | rfl | rfl
  · exact ⟨fun a b => absurd (And.intro a b) (by decide), fun a b => absurd (And.intro a b) (by decide), fun q => rfl⟩
  · exact ⟨fun a b => absurd (And.intro a b) (by decide), fun a b => absurd (And.intro a b) (by decide), fun q => rfl⟩
  · exact ⟨fun a b => absurd (And.intro a b) (by decide), fun a b => absurd (And.intro a b) (by decide), fun q => rfl⟩
  · exact ⟨fun a b => by decide, fun a b => rfl, fun q => absurd q (by decide)⟩
theorem own_cell2_5 {o : Int32} (ho : o = (0 : Int32) ∨ o = (1 : Int32) ∨ o = (2 : Int32) ∨ o = (3 : Int32)) {B0 B1 s t0 t1 t2 z : Int64} (hz : z = own_putL (o + (1 : Int32)) (5 : Int32) B1 (own_putL (o + (0 : Int32)) (5 : Int32) B0 (s))) (e0 : t0 = B0) (e1 : t1 = B1) : (¬ ((5 : Int32) < o) → (5 : Int32) < (o + (2 : Int32)) → ¬ ((5 : Int32) - o) < 0 ∧ ((5 : Int32) - o) < (3 : Int32)) ∧ (¬ ((5 : Int32) < o) → (5 : Int32) < (o + (2 : Int32)) → z = ([t0, t1, t2].getD ((5 : Int32) - o).toNatClampNeg 0)) ∧ (((5 : Int32) < o ∨ ¬ ((5 : Int32) < (o + (2 : Int32)))) → z = s) := by
  subst hz e0 e1
  rcases ho with rfl | rfl | rfl | rfl
  · exact ⟨fun a b => absurd (And.intro a b) (by decide), fun a b => absurd (And.intro a b) (by decide), fun q => rfl⟩
  · exact ⟨fun a b => absurd (And.intro a b) (by decide), fun a b => absurd (And.intro a b) (by decide), fun q => rfl⟩
  · exact ⟨fun a b => absurd (And.intro a b) (by decide), fun a b => absurd (And.intro a b) (by decide), fun q => rfl⟩
  · exact ⟨fun a b => absurd (And.intro a b) (by decide), fun a b => absurd (And.intro a b) (by decide), fun q => rfl⟩
theorem own_cell3_0 {o : Int32} (ho : o = (0 : Int32) ∨ o = (1 : Int32) ∨ o = (2 : Int32) ∨ o = (3 : Int32)) {B0 B1 B2 s t0 t1 t2 z : Int64} (hz : z = own_putL (o + (2 : Int32)) (0 : Int32) B2 (own_putL (o + (1 : Int32)) (0 : Int32) B1 (own_putL (o + (0 : Int32)) (0 : Int32) B0 (s)))) (e0 : t0 = B0) (e1 : t1 = B1) (e2 : t2 = B2) : (¬ ((0 : Int32) < o) → (0 : Int32) < (o + (3 : Int32)) → ¬ ((0 : Int32) - o) < 0 ∧ ((0 : Int32) - o) < (3 : Int32)) ∧ (¬ ((0 : Int32) < o) → (0 : Int32) < (o + (3 : Int32)) → z = ([t0, t1, t2].getD ((0 : Int32) - o).toNatClampNeg 0)) ∧ (((0 : Int32) < o ∨ ¬ ((0 : Int32) < (o + (3 : Int32)))) → z = s) := by
  subst hz e0 e1 e2
  rcases ho with rfl | rfl | rfl | rfl
  · exact ⟨fun a b => by decide, fun a b => rfl, fun q => absurd q (by decide)⟩
  · exact ⟨fun a b => absurd (And.intro a b) (by decide), fun a b => absurd (And.intro a b) (by decide), fun q => rfl⟩
  · exact ⟨fun a b => absurd (And.intro a b) (by decide), fun a b => absurd (And.intro a b) (by decide), fun q => rfl⟩
  · exact ⟨fun a b => absurd (And.intro a b) (by decide), fun a b => absurd (And.intro a b) (by decide), fun q => rfl⟩
theorem own_cell3_1 {o : Int32} (ho : o = (0 : Int32) ∨ o = (1 : Int32) ∨ o = (2 : Int32) ∨ o = (3 : Int32)) {B0 B1 B2 s t0 t1 t2 z : Int64} (hz : z = own_putL (o + (2 : Int32)) (1 : Int32) B2 (own_putL (o + (1 : Int32)) (1 : Int32) B1 (own_putL (o + (0 : Int32)) (1 : Int32) B0 (s)))) (e0 : t0 = B0) (e1 : t1 = B1) (e2 : t2 = B2) : (¬ ((1 : Int32) < o) → (1 : Int32) < (o + (3 : Int32)) → ¬ ((1 : Int32) - o) < 0 ∧ ((1 : Int32) - o) < (3 : Int32)) ∧ (¬ ((1 : Int32) < o) → (1 : Int32) < (o + (3 : Int32)) → z = ([t0, t1, t2].getD ((1 : Int32) - o).toNatClampNeg 0)) ∧ (((1 : Int32) < o ∨ ¬ ((1 : Int32) < (o + (3 : Int32)))) → z = s) := by
  subst hz e0 e1 e2
  rcases ho with rfl | rfl | rfl | rfl
  · exact ⟨fun a b => by decide, fun a b => rfl, fun q => absurd q (by decide)⟩
  · exact ⟨fun a b => by decide, fun a b => rfl, fun q => absurd q (by decide)⟩
  · exact ⟨fun a b => absurd (And.intro a b) (by decide), fun a b => absurd (And.intro a b) (by decide), fun q => rfl⟩
  · exact ⟨fun a b => absurd (And.intro a b) (by decide), fun a b => absurd (And.intro a b) (by decide), fun q => rfl⟩
theorem own_cell3_2 {o : Int32} (ho : o = (0 : Int32) ∨ o = (1 : Int32) ∨ o = (2 : Int32) ∨ o = (3 : Int32)) {B0 B1 B2 s t0 t1 t2 z : Int64} (hz : z = own_putL (o + (2 : Int32)) (2 : Int32) B2 (own_putL (o + (1 : Int32)) (2 : Int32) B1 (own_putL (o + (0 : Int32)) (2 : Int32) B0 (s)))) (e0 : t0 = B0) (e1 : t1 = B1) (e2 : t2 = B2) : (¬ ((2 : Int32) < o) → (2 : Int32) < (o + (3 : Int32)) → ¬ ((2 : Int32) - o) < 0 ∧ ((2 : Int32) - o) < (3 : Int32)) ∧ (¬ ((2 : Int32) < o) → (2 : Int32) < (o + (3 : Int32)) → z = ([t0, t1, t2].getD ((2 : Int32) - o).toNatClampNeg 0)) ∧ (((2 : Int32) < o ∨ ¬ ((2 : Int32) < (o + (3 : Int32)))) → z = s) := by
  subst hz e0 e1 e2
  rcases ho with rfl | rfl | rfl | rfl
  · exact ⟨fun a b => by decide, fun a b => rfl, fun q => absurd q (by decide)⟩
  · exact ⟨fun a b => by decide, fun a b => rfl, fun q => absurd q (by decide)⟩
  · exact ⟨fun a b => by decide, fun a b => rfl, fun q => absurd q (by decide)⟩
  · exact ⟨fun a b => absurd (And.intro a b) (by decide), fun a b => absurd (And.intro a b) (by decide), fun q => rfl⟩
theorem own_cell3_3 {o : Int32} (ho : o = (0 : Int32) ∨ o = (1 : Int32) ∨ o = (2 : Int32) ∨ o = (3 : Int32)) {B0 B1 B2 s t0 t1 t2 z : Int64} (hz : z = own_putL (o + (2 : Int32)) (3 : Int32) B2 (own_putL (o + (1 : Int32)) (3 : Int32) B1 (own_putL (o + (0 : Int32)) (3 : Int32) B0 (s)))) (e0 : t0 = B0) (e1 : t1 = B1) (e2 : t2 = B2) : (¬ ((3 : Int32) < o) → (3 : Int32) < (o + (3 : Int32)) → ¬ ((3 : Int32) - o) < 0 ∧ ((3 : Int32) - o) < (3 : Int32)) ∧ (¬ ((3 : Int32) < o) → (3 : Int32) < (o + (3 : Int32)) → z = ([t0, t1, t2].getD ((3 : Int32) - o).toNatClampNeg 0)) ∧ (((3 : Int32) < o ∨ ¬ ((3 : Int32) < (o + (3 : Int32)))) → z = s) := by
  subst hz e0 e1 e2
  rcases ho with rfl | rfl | rfl | rfl
  · exact ⟨fun a b => absurd (And.intro a b) (by decide), fun a b => absurd (And.intro a b) (by decide), fun q => rfl⟩
  · exact ⟨fun a b => by decide, fun a b => rfl, fun q => absurd q (by decide)⟩
  · exact ⟨fun a b => by decide, fun a b => rfl, fun q => absurd q (by decide)⟩
  · exact ⟨fun a b => by decide, fun a b => rfl, fun q => absurd q (by decide)⟩
theorem own_cell3_4 {o : Int32} (ho : o = (0 : Int32) ∨ o = (1 : Int32) ∨ o = (2 : Int32) ∨ o = (3 : Int32)) {B0 B1 B2 s t0 t1 t2 z : Int64} (hz : z = own_putL (o + (2 : Int32)) (4 : Int32) B2 (own_putL (o + (1 : Int32)) (4 : Int32) B1 (own_putL (o + (0 : Int32)) (4 : Int32) B0 (s)))) (e0 : t0 = B0) (e1 : t1 = B1) (e2 : t2 = B2) : (¬ ((4 : Int32) < o) → (4 : Int32) < (o + (3 : Int32)) → ¬ ((4 : Int32) - o) < 0 ∧ ((4 : Int32) - o) < (3 : Int32)) ∧ (¬ ((4 : Int32) < o) → (4 : Int32) < (o + (3 : Int32)) → z = ([t0, t1, t2].getD ((4 : Int32) - o).toNatClampNeg 0)) ∧ (((4 : Int32) < o ∨ ¬ ((4 : Int32) < (o + (3 : Int32)))) → z = s) := by
  subst hz e0 e1 e2
  rcases ho with rfl | rfl | rfl | rfl
  · exact ⟨fun a b => absurd (And.intro a b) (by decide), fun a b => absurd (And.intro a b) (by decide), fun q => rfl⟩
  · exact ⟨fun a b => absurd (And.intro a b) (by decide), fun a b => absurd (And.intro a b) (by decide), fun q => rfl⟩
  · exact ⟨fun a b => by decide, fun a b => rfl, fun q => absurd q (by decide)⟩
  · exact ⟨fun a b => by decide, fun a b => rfl, fun q => absurd q (by decide)⟩
theorem own_cell3_5 {o : Int32} (ho : o = (0 : Int32) ∨ o = (1 : Int32) ∨ o = (2 : Int32) ∨ o = (3 : Int32)) {B0 B1 B2 s t0 t1 t2 z : Int64} (hz : z = own_putL (o + (2 : Int32)) (5 : Int32) B2 (own_putL (o + (1 : Int32)) (5 : Int32) B1 (own_putL (o + (0 : Int32)) (5 : Int32) B0 (s)))) (e0 : t0 = B0) (e1 : t1 = B1) (e2 : t2 = B2) : (¬ ((5 : Int32) < o) → (5 : Int32) < (o + (3 : Int32)) → ¬ ((5 : Int32) - o) < 0 ∧ ((5 : Int32) - o) < (3 : Int32)) ∧ (¬ ((5 : Int32) < o) → (5 : Int32) < (o + (3 : Int32)) → z = ([t0, t1, t2].getD ((5 : Int32) - o).toNatClampNeg 0)) ∧ (((5 : Int32) < o ∨ ¬ ((5 : Int32) < (o + (3 : Int32)))) → z = s) := by
  subst hz e0 e1 e2
  rcases ho with rfl | rfl | rfl | rfl
  · exact ⟨fun a b => absurd (And.intro a b) (by decide), fun a b => absurd (And.intro a b) (by decide), fun q => rfl⟩
  · exact ⟨fun a b => absurd (And.intro a b) (by decide), fun a b => absurd (And.intro a b) (by decide), fun q => rfl⟩
  · exact ⟨fun a b => absurd (And.intro a b) (by decide), fun a b => absurd (And.intro a b) (by decide), fun q => rfl⟩
  · exact ⟨fun a b => by decide, fun a b => rfl, fun q => absurd q (by decide)⟩
def own_cells (o W : Int32) (z0 z1 z2 z3 z4 z5 t0 t1 t2 s : Int64) : Prop := ((¬ ((0 : Int32) < o) → (0 : Int32) < (o + W) → ¬ ((0 : Int32) - o) < 0 ∧ ((0 : Int32) - o) < (3 : Int32)) ∧ (¬ ((0 : Int32) < o) → (0 : Int32) < (o + W) → z0 = ([t0, t1, t2].getD ((0 : Int32) - o).toNatClampNeg 0)) ∧ (((0 : Int32) < o ∨ ¬ ((0 : Int32) < (o + W))) → z0 = s)) ∧ ((¬ ((1 : Int32) < o) → (1 : Int32) < (o + W) → ¬ ((1 : Int32) - o) < 0 ∧ ((1 : Int32) - o) < (3 : Int32)) ∧ (¬ ((1 : Int32) < o) → (1 : Int32) < (o + W) → z1 = ([t0, t1, t2].getD ((1 : Int32) - o).toNatClampNeg 0)) ∧ (((1 : Int32) < o ∨ ¬ ((1 : Int32) < (o + W))) → z1 = s)) ∧ ((¬ ((2 : Int32) < o) → (2 : Int32) < (o + W) → ¬ ((2 : Int32) - o) < 0 ∧ ((2 : Int32) - o) < (3 : Int32)) ∧ (¬ ((2 : Int32) < o) → (2 : Int32) < (o + W) → z2 = ([t0, t1, t2].getD ((2 : Int32) - o).toNatClampNeg 0)) ∧ (((2 : Int32) < o ∨ ¬ ((2 : Int32) < (o + W))) → z2 = s)) ∧ ((¬ ((3 : Int32) < o) → (3 : Int32) < (o + W) → ¬ ((3 : Int32) - o) < 0 ∧ ((3 : Int32) - o) < (3 : Int32)) ∧ (¬ ((3 : Int32) < o) → (3 : Int32) < (o + W) → z3 = ([t0, t1, t2].getD ((3 : Int32) - o).toNatClampNeg 0)) ∧ (((3 : Int32) < o ∨ ¬ ((3 : Int32) < (o + W))) → z3 = s)) ∧ ((¬ ((4 : Int32) < o) → (4 : Int32) < (o + W) → ¬ ((4 : Int32) - o) < 0 ∧ ((4 : Int32) - o) < (3 : Int32)) ∧ (¬ ((4 : Int32) < o) → (4 : Int32) < (o + W) → z4 = ([t0, t1, t2].getD ((4 : Int32) - o).toNatClampNeg 0)) ∧ (((4 : Int32) < o ∨ ¬ ((4 : Int32) < (o + W))) → z4 = s)) ∧ ((¬ ((5 : Int32) < o) → (5 : Int32) < (o + W) → ¬ ((5 : Int32) - o) < 0 ∧ ((5 : Int32) - o) < (3 : Int32)) ∧ (¬ ((5 : Int32) < o) → (5 : Int32) < (o + W) → z5 = ([t0, t1, t2].getD ((5 : Int32) - o).toNatClampNeg 0)) ∧ (((5 : Int32) < o ∨ ¬ ((5 : Int32) < (o + W))) → z5 = s))
theorem own_all1 {o : Int32} (ho : o = (0 : Int32) ∨ o = (1 : Int32) ∨ o = (2 : Int32) ∨ o = (3 : Int32)) {B0 s t0 t1 t2 z0 z1 z2 z3 z4 z5 : Int64} (hz : z0 = own_putL o (0 : Int32) B0 (s) ∧ z1 = own_putL o (1 : Int32) B0 (s) ∧ z2 = own_putL o (2 : Int32) B0 (s) ∧ z3 = own_putL o (3 : Int32) B0 (s) ∧ z4 = own_putL o (4 : Int32) B0 (s) ∧ z5 = own_putL o (5 : Int32) B0 (s)) (e0 : t0 = B0) : own_cells o (1 : Int32) z0 z1 z2 z3 z4 z5 t0 t1 t2 s := ⟨own_cell1_0 ho hz.1 e0, own_cell1_1 ho hz.2.1 e0, own_cell1_2 ho hz.2.2.1 e0, own_cell1_3 ho hz.2.2.2.1 e0, own_cell1_4 ho hz.2.2.2.2.1 e0, own_cell1_5 ho hz.2.2.2.2.2 e0⟩
theorem own_all2 {o : Int32} (ho : o = (0 : Int32) ∨ o = (1 : Int32) ∨ o = (2 : Int32) ∨ o = (3 : Int32)) {B0 B1 s t0 t1 t2 z0 z1 z2 z3 z4 z5 : Int64} (hz : z0 = own_putL (o + (1 : Int32)) (0 : Int32) B1 (own_putL (o + (0 : Int32)) (0 : Int32) B0 (s)) ∧ z1 = own_putL (o + (1 : Int32)) (1 : Int32) B1 (own_putL (o + (0 : Int32)) (1 : Int32) B0 (s)) ∧ z2 = own_putL (o + (1 : Int32)) (2 : Int32) B1 (own_putL (o + (0 : Int32)) (2 : Int32) B0 (s)) ∧ z3 = own_putL (o + (1 : Int32)) (3 : Int32) B1 (own_putL (o + (0 : Int32)) (3 : Int32) B0 (s)) ∧ z4 = own_putL (o + (1 : Int32)) (4 : Int32) B1 (own_putL (o + (0 : Int32)) (4 : Int32) B0 (s)) ∧ z5 = own_putL (o + (1 : Int32)) (5 : Int32) B1 (own_putL (o + (0 : Int32)) (5 : Int32) B0 (s))) (e0 : t0 = B0) (e1 : t1 = B1) : own_cells o (2 : Int32) z0 z1 z2 z3 z4 z5 t0 t1 t2 s := ⟨own_cell2_0 ho hz.1 e0 e1, own_cell2_1 ho hz.2.1 e0 e1, own_cell2_2 ho hz.2.2.1 e0 e1, own_cell2_3 ho hz.2.2.2.1 e0 e1, own_cell2_4 ho hz.2.2.2.2.1 e0 e1, own_cell2_5 ho hz.2.2.2.2.2 e0 e1⟩
theorem own_all3 {o : Int32} (ho : o = (0 : Int32) ∨ o = (1 : Int32) ∨ o = (2 : Int32) ∨ o = (3 : Int32)) {B0 B1 B2 s t0 t1 t2 z0 z1 z2 z3 z4 z5 : Int64} (hz : z0 = own_putL (o + (2 : Int32)) (0 : Int32) B2 (own_putL (o + (1 : Int32)) (0 : Int32) B1 (own_putL (o + (0 : Int32)) (0 : Int32) B0 (s))) ∧ z1 = own_putL (o + (2 : Int32)) (1 : Int32) B2 (own_putL (o + (1 : Int32)) (1 : Int32) B1 (own_putL (o + (0 : Int32)) (1 : Int32) B0 (s))) ∧ z2 = own_putL (o + (2 : Int32)) (2 : Int32) B2 (own_putL (o + (1 : Int32)) (2 : Int32) B1 (own_putL (o + (0 : Int32)) (2 : Int32) B0 (s))) ∧ z3 = own_putL (o + (2 : Int32)) (3 : Int32) B2 (own_putL (o + (1 : Int32)) (3 : Int32) B1 (own_putL (o + (0 : Int32)) (3 : Int32) B0 (s))) ∧ z4 = own_putL (o + (2 : Int32)) (4 : Int32) B2 (own_putL (o + (1 : Int32)) (4 : Int32) B1 (own_putL (o + (0 : Int32)) (4 : Int32) B0 (s))) ∧ z5 = own_putL (o + (2 : Int32)) (5 : Int32) B2 (own_putL (o + (1 : Int32)) (5 : Int32) B1 (own_putL (o + (0 : Int32)) (5 : Int32) B0 (s)))) (e0 : t0 = B0) (e1 : t1 = B1) (e2 : t2 = B2) : own_cells o (3 : Int32) z0 z1 z2 z3 z4 z5 t0 t1 t2 s := ⟨own_cell3_0 ho hz.1 e0 e1 e2, own_cell3_1 ho hz.2.1 e0 e1 e2, own_cell3_2 ho hz.2.2.1 e0 e1 e2, own_cell3_3 ho hz.2.2.2.1 e0 e1 e2, own_cell3_4 ho hz.2.2.2.2.1 e0 e1 e2, own_cell3_5 ho hz.2.2.2.2.2 e0 e1 e2⟩
theorem ef_3 (m : MethodId) (x0 : Addr) (x1 : Addr) (x2 : Int32) (x3 : Int32) : entryFrame m #[(.ref x0), (.ref x1), (.int x2), (.int x3)] 4 = mkF m 0 #[.val (.ref x0), .val (.ref x1), .val (.int x2), .val (.int x3)] [] := by first | (simp [entryFrame, mkF, argsToLocals, Value.category]; done) | rfl
theorem d3_0 : decode method_5_code 0 = .ok (.aload_n 1, 1) := by decide +kernel
theorem d3_1 : decode method_5_code 1 = .ok (.iconst 1, 1) := by decide +kernel
theorem d3_2 : decode method_5_code 2 = .ok (.iaload, 1) := by decide +kernel
theorem d3_3 : decode method_5_code 3 = .ok (.iload_n 2, 1) := by decide +kernel
theorem d3_4 : decode method_5_code 4 = .ok (.iadd, 1) := by decide +kernel
theorem d3_5 : decode method_5_code 5 = .ok (.bipush 64, 2) := by decide +kernel
theorem d3_7 : decode method_5_code 7 = .ok (.if_icmp .le 15, 3) := by decide +kernel
theorem d3_10 : decode method_5_code 10 = .ok (.aload_n 1, 1) := by decide +kernel
theorem d3_11 : decode method_5_code 11 = .ok (.iconst 0, 1) := by decide +kernel
theorem d3_12 : decode method_5_code 12 = .ok (.aload_n 1, 1) := by decide +kernel
theorem d3_13 : decode method_5_code 13 = .ok (.iconst 0, 1) := by decide +kernel
theorem d3_14 : decode method_5_code 14 = .ok (.iaload, 1) := by decide +kernel
theorem d3_15 : decode method_5_code 15 = .ok (.iconst 1, 1) := by decide +kernel
theorem d3_16 : decode method_5_code 16 = .ok (.iadd, 1) := by decide +kernel
theorem d3_17 : decode method_5_code 17 = .ok (.iastore, 1) := by decide +kernel
theorem d3_18 : decode method_5_code 18 = .ok (.aload_n 1, 1) := by decide +kernel
theorem d3_19 : decode method_5_code 19 = .ok (.iconst 1, 1) := by decide +kernel
theorem d3_20 : decode method_5_code 20 = .ok (.iconst 0, 1) := by decide +kernel
theorem d3_21 : decode method_5_code 21 = .ok (.iastore, 1) := by decide +kernel
theorem d3_22 : decode method_5_code 22 = .ok (.aload_n 0, 1) := by decide +kernel
theorem d3_23 : decode method_5_code 23 = .ok (.aload_n 1, 1) := by decide +kernel
theorem d3_24 : decode method_5_code 24 = .ok (.iconst 0, 1) := by decide +kernel
theorem d3_25 : decode method_5_code 25 = .ok (.iaload, 1) := by decide +kernel
theorem d3_26 : decode method_5_code 26 = .ok (.aload_n 0, 1) := by decide +kernel
theorem d3_27 : decode method_5_code 27 = .ok (.aload_n 1, 1) := by decide +kernel
theorem d3_28 : decode method_5_code 28 = .ok (.iconst 0, 1) := by decide +kernel
theorem d3_29 : decode method_5_code 29 = .ok (.iaload, 1) := by decide +kernel
theorem d3_30 : decode method_5_code 30 = .ok (.laload, 1) := by decide +kernel
theorem d3_31 : decode method_5_code 31 = .ok (.iload_n 3, 1) := by decide +kernel
theorem d3_32 : decode method_5_code 32 = .ok (.i2l, 1) := by decide +kernel
theorem d3_33 : decode method_5_code 33 = .ok (.aload_n 1, 1) := by decide +kernel
theorem d3_34 : decode method_5_code 34 = .ok (.iconst 1, 1) := by decide +kernel
theorem d3_35 : decode method_5_code 35 = .ok (.iaload, 1) := by decide +kernel
theorem d3_36 : decode method_5_code 36 = .ok (.lshl, 1) := by decide +kernel
theorem d3_37 : decode method_5_code 37 = .ok (.lor, 1) := by decide +kernel
theorem d3_38 : decode method_5_code 38 = .ok (.lastore, 1) := by decide +kernel
theorem d3_39 : decode method_5_code 39 = .ok (.aload_n 1, 1) := by decide +kernel
theorem d3_40 : decode method_5_code 40 = .ok (.iconst 1, 1) := by decide +kernel
theorem d3_41 : decode method_5_code 41 = .ok (.aload_n 1, 1) := by decide +kernel
theorem d3_42 : decode method_5_code 42 = .ok (.iconst 1, 1) := by decide +kernel
theorem d3_43 : decode method_5_code 43 = .ok (.iaload, 1) := by decide +kernel
theorem d3_44 : decode method_5_code 44 = .ok (.iload_n 2, 1) := by decide +kernel
theorem d3_45 : decode method_5_code 45 = .ok (.iadd, 1) := by decide +kernel
theorem d3_46 : decode method_5_code 46 = .ok (.iastore, 1) := by decide +kernel
theorem d3_47 : decode method_5_code 47 = .ok (.return_, 1) := by decide +kernel
def Q3 (Z : State) (a0 a1 : Addr) (p2 p3 : Int32) (k0 k1 : ClassId) (e0_ e1_ e2_ : Int64) (cc uu : Int32) (h0 : Heap) (n0 : Nat) (v : Option Value) (h : Heap) (L : List Loc) : Prop := v = none ∧ Fr n0 L ∧ ∃ (c' u' : Int32) (t0 t1 t2 : Int64), (c' = own_cur cc uu p2 ∧ u' = own_u0 uu p2) ∧ (t0 = own_orL c' (0 : Int32) ((p3.toInt64) <<< (u' &&& 0x3f).toInt64) e0_ ∧ t1 = own_orL c' (1 : Int32) ((p3.toInt64) <<< (u' &&& 0x3f).toInt64) e1_ ∧ t2 = own_orL c' (2 : Int32) ((p3.toInt64) <<< (u' &&& 0x3f).toInt64) e2_) ∧ Keep h0 h [a0, a1] ∧ (Arv Z h a0 k0 .long (3 : Int32) [(.long t0), (.long t1), (.long t2)] (.long (0 : Int64))) ∧ (Arv Z h a1 k1 .int (2 : Int32) [(.int c'), (.int (u' + p2))] (.int (0 : Int32)))
set_option maxRecDepth 65536 in
set_option maxHeartbeats 40000000 in
theorem rm3 (l : Launch) (Z : State) (A0 : Array Value) (hw : ∀ d ∈ tables_1, d.before A0 Z = true) (ws : List Jvm.Cond) (a0 : Addr) (a1 : Addr) (p2 : Int32) (p3 : Int32) (k0 k1 : ClassId) (e0_ e1_ e2_ : Int64) (cc uu : Int32) (h0 : Heap) (n0 : Nat) (Z0 : n0 ≤ h0.size) (V0 : Arv Z h0 a0 k0 .long (3 : Int32) [(.long e0_), (.long e1_), (.long e2_)] (.long (0 : Int64))) (V1 : Arv Z h0 a1 k1 .int (2 : Int32) [(.int cc), (.int uu)] (.int (0 : Int32))) (xe0 : a0 ≠ a1) (g0 : n0 ≤ a0) (xg1 : n0 ≤ a1) (hc : ¬ own_cur cc uu p2 < 0 ∧ own_cur cc uu p2 < (3 : Int32)) :
    MetFree l (⟨"com/example/garantia/garantia/engine/StateLayoutPackPinLaw", "place", "([J[III)V"⟩ : MethodName) (head1 (Jvm.Cond.code (⟨"com/example/garantia/garantia/engine/StateLayoutPackPinLaw", "place", "([J[III)V"⟩ : MethodName) method_5_code 4 none :: ws) ({ frames := 0, cells := 0, slots := 0, locals := 0 } : Room)) (fun a U => a = #[(.ref a0), (.ref a1), (.int p2), (.int p3)] ∧ Z.Warmed39 U.vm ∧ U.heap = h0) (fun _ _ _ _ _ => True) (fun _ U o U' => ∃ v L, o = .returned v ∧ Q3 Z a0 a1 p2 p3 k0 k1 e0_ e1_ e2_ cc uu h0 n0 v U'.heap L ∧ FrameEnd U o U' L ({ frames := 0, cells := 0, slots := 0, locals := 0 } : Room).cells ({ frames := 0, cells := 0, slots := 0, locals := 0 } : Room).slots) := by
  refine MetFree.of_bodySF (plainFor_of_name pn_0) hisR ?_
  intro p e s m args below meth c s₁ Bd hml0 hP hK
  obtain ⟨rfl, hZ, hh⟩ := hP
  have hx := Bd.exec
  have hby := Bd.bytes
  have hml : c.maxLocals = 4 := hml0
  have hown : s.vm.findClass "com/example/garantia/garantia/engine/StateLayoutPackPinLaw" = some m.cls := findClass_of_methodNamed Bd.named
  have hnm := (name_of_methodNamed Bd.named Bd.method).1
  have X0 : Stand p l e ({ frames := 0, cells := 0, slots := 0, locals := 0 } : Room) s m #[(.ref a0), (.ref a1), (.int p2), (.int p3)] below meth c s₁ [] 0 0 := Stand.of_body Bd
  have e0 : s₁.heap = h0 := by rw [← hh, Bd.state]; rfl
  have N0 := Fr.nil n0
  have kp0 : Keep h0 h0 [a0, a1] := Keep.refl _ _
  obtain ⟨S0, hS0⟩ : ∃ z, z = s₁.setTop (entryFrame m #[(.ref a0), (.ref a1), (.int p2), (.int p3)] 4) := ⟨_, rfl⟩
  have pre0 : Go p.tables e below S0 s₁ (mkF m 0 #[vR a0, vR a1, vI p2, vI p3] []) := fun t k => by rw [hS0]; exact castTop (ef_3 m a0 a1 p2 p3) k
  have pre1 : Go p.tables e below S0 s₁ (mkF m 2 #[vR a0, vR a1, vI p2, vI p3] [(.int (1 : Int32)), (.ref a1)]) := fun t k => pre0 t (by
    refine XS.aloadN X0.here hx rfl (hb hby d3_0) rfl rfl ?_
    refine XS.iconst X0.here hx rfl (hb hby d3_1) ?_
    exact k)
  obtain ⟨cl2, Ar2, q2, S2, M2, H2, G2⟩ := id V1
  have in2 : ¬ ((1 : Int32) < 0 ∨ cl2.slots.size ≤ ((1 : Int32)).toNatClampNeg) := inb_of S2 ⟨by decide, by decide⟩
  have at2 : cl2.slots[((1 : Int32)).toNatClampNeg]? = some (.int uu) := H2.at in2 rfl
  have pre3 : Go p.tables e below S0 s₁ (mkF m 7 #[vR a0, vR a1, vI p2, vI p3] [(.int (64 : Int32)), (.int (uu + p2))]) := fun t k => pre1 t (by
    refine X0.iaload hx (j := (1 : Int32)) (v := (.int uu)) (by rw [e0]; exact Ar2.1) (State.isArrayOf_alike hZ.alike Ar2.2.1) Ar2.2.2 in2 at2 (g := (mkF m 2 #[vR a0, vR a1, vI p2, vI p3] [(.int (1 : Int32)), (.ref a1)])) rfl rfl (hb hby d3_2) _ ?_
    refine XS.iloadN X0.here hx rfl (hb hby d3_3) rfl ?_
    refine XS.iadd X0.here hx rfl (hb hby d3_4) rfl ?_
    show Steps p.tables e below (s₁.setTop (mkF m 5 #[vR a0, vR a1, vI p2, vI p3] [(.int (uu + p2))])) _
    refine XS.bipush X0.here hx rfl (hb hby d3_5) ?_
    exact k)
  refine cps (A := ∃ (T18 : State) (Lo18 : List Loc) (h18 : Heap) (j22_a1_0_19 : Int32) (j22_a1_1_20 : Int32), (Stand p l e ({ frames := 0, cells := 0, slots := 0, locals := 0 } : Room) s m #[(.ref a0), (.ref a1), (.int p2), (.int p3)] below meth c T18 Lo18 0 0) ∧ (T18.heap = h18) ∧ (Fr n0 Lo18) ∧ (n0 ≤ h18.size) ∧ (Keep h0 h18 [a0, a1]) ∧ (Arv Z h18 a0 k0 .long (3 : Int32) [(.long e0_), (.long e1_), (.long e2_)] (.long (0 : Int64))) ∧ (Arv Z h18 a1 k1 .int (2 : Int32) [(.int j22_a1_0_19), (.int j22_a1_1_20)] (.int (0 : Int32))) ∧ (j22_a1_0_19 = own_cur cc uu p2 ∧ j22_a1_1_20 = own_u0 uu p2) ∧ (Go p.tables e below S0 T18 (mkF m 22 #[vR a0, vR a1, vI p2, vI p3] []))) (fun tail23 => ?_) ?_
  · skip
    by_cases c7_4 : (64 : Int32) < (uu + p2)
    · skip
      have pre5 : Go p.tables e below S0 s₁ (mkF m 14 #[vR a0, vR a1, vI p2, vI p3] [(.int (0 : Int32)), (.ref a1), (.int (0 : Int32)), (.ref a1)]) := fun t k => pre3 t (by
        refine XS.icmpNo X0.here hx rfl (hb hby d3_7) rfl (tlt c7_4).2.2.2 ?_
        refine XS.aloadN X0.here hx rfl (hb hby d3_10) rfl rfl ?_
        refine XS.iconst X0.here hx rfl (hb hby d3_11) ?_
        show Steps p.tables e below (s₁.setTop (mkF m 12 #[vR a0, vR a1, vI p2, vI p3] [(.int (0 : Int32)), (.ref a1)])) _
        refine XS.aloadN X0.here hx rfl (hb hby d3_12) rfl rfl ?_
        refine XS.iconst X0.here hx rfl (hb hby d3_13) ?_
        exact k)
      obtain ⟨cl6, Ar6, q6, S6, M6, H6, G6⟩ := id V1
      have in6 : ¬ ((0 : Int32) < 0 ∨ cl6.slots.size ≤ ((0 : Int32)).toNatClampNeg) := inb_of S6 ⟨by decide, by decide⟩
      have at6 : cl6.slots[((0 : Int32)).toNatClampNeg]? = some (.int cc) := H6.at in6 rfl
      have pre7 : Go p.tables e below S0 s₁ (mkF m 17 #[vR a0, vR a1, vI p2, vI p3] [(.int (cc + (1 : Int32))), (.int (0 : Int32)), (.ref a1)]) := fun t k => pre5 t (by
        refine X0.iaload hx (j := (0 : Int32)) (v := (.int cc)) (by rw [e0]; exact Ar6.1) (State.isArrayOf_alike hZ.alike Ar6.2.1) Ar6.2.2 in6 at6 (g := (mkF m 14 #[vR a0, vR a1, vI p2, vI p3] [(.int (0 : Int32)), (.ref a1), (.int (0 : Int32)), (.ref a1)])) rfl rfl (hb hby d3_14) _ ?_
        refine XS.iconst X0.here hx rfl (hb hby d3_15) ?_
        refine XS.iadd X0.here hx rfl (hb hby d3_16) rfl ?_
        show Steps p.tables e below (s₁.setTop (mkF m 17 #[vR a0, vR a1, vI p2, vI p3] [(.int (cc + (1 : Int32))), (.int (0 : Int32)), (.ref a1)])) _
        exact k)
      obtain ⟨cl8, Ar8, q8, S8, M8, H8, G8⟩ := id V1
      have in8 : ¬ ((0 : Int32) < 0 ∨ cl8.slots.size ≤ ((0 : Int32)).toNatClampNeg) := inb_of S8 ⟨by decide, by decide⟩
      obtain ⟨T8, h8, X8, e8, W8, st8⟩ := stI X0 hx hZ e0 Ar8 (j := (0 : Int32)) in8 (g := (mkF m 17 #[vR a0, vR a1, vI p2, vI p3] [(.int (cc + (1 : Int32))), (.int (0 : Int32)), (.ref a1)])) rfl rfl (hb hby d3_17)
      have pre8 : Go p.tables e below S0 T8 (mkF m 18 #[vR a0, vR a1, vI p2, vI p3] []) := fun t k => pre7 t (st8 t k)
      obtain ⟨lo8, N8, X8⟩ : ∃ lo, Fr n0 lo ∧ Stand p l e ({ frames := 0, cells := 0, slots := 0, locals := 0 } : Room) s m #[(.ref a0), (.ref a1), (.int p2), (.int p3)] below meth c T8 lo 0 0 := ⟨_, Fr.snoc X8 N0 xg1, X8⟩
      have av8 : Arv Z h8 a1 k1 .int (2 : Int32) [(.int (cc + (1 : Int32))), (.int uu)] (.int (0 : Int32)) := Arv.set Ar8 q8 S8 M8 H8 G8 rfl W8 0 rfl (Nat.le_of_ble_eq_true rfl)
      have f9_1 := V0.other W8 xe0
      have zz10 : n0 ≤ h8.size := Nat.le_trans Z0 (Keep.of_wr W8).1
      have kp11 : Keep h0 h8 [a0, a1] := kp0.wr W8 (Or.inl (List.mem_of_getElem? (i := 1) rfl))
      have pre12 : Go p.tables e below S0 T8 (mkF m 21 #[vR a0, vR a1, vI p2, vI p3] [(.int (0 : Int32)), (.int (1 : Int32)), (.ref a1)]) := fun t k => pre8 t (by
        refine XS.aloadN X8.here hx rfl (hb hby d3_18) rfl rfl ?_
        refine XS.iconst X8.here hx rfl (hb hby d3_19) ?_
        refine XS.iconst X8.here hx rfl (hb hby d3_20) ?_
        show Steps p.tables e below (T8.setTop (mkF m 21 #[vR a0, vR a1, vI p2, vI p3] [(.int (0 : Int32)), (.int (1 : Int32)), (.ref a1)])) _
        exact k)
      obtain ⟨cl13, Ar13, q13, S13, M13, H13, G13⟩ := id av8
      have in13 : ¬ ((1 : Int32) < 0 ∨ cl13.slots.size ≤ ((1 : Int32)).toNatClampNeg) := inb_of S13 ⟨by decide, by decide⟩
      obtain ⟨T13, h13, X13, e13, W13, st13⟩ := stI X8 hx hZ e8 Ar13 (j := (1 : Int32)) in13 (g := (mkF m 21 #[vR a0, vR a1, vI p2, vI p3] [(.int (0 : Int32)), (.int (1 : Int32)), (.ref a1)])) rfl rfl (hb hby d3_21)
      have pre13 : Go p.tables e below S0 T13 (mkF m 22 #[vR a0, vR a1, vI p2, vI p3] []) := fun t k => pre12 t (st13 t k)
      obtain ⟨lo13, N13, X13⟩ : ∃ lo, Fr n0 lo ∧ Stand p l e ({ frames := 0, cells := 0, slots := 0, locals := 0 } : Room) s m #[(.ref a0), (.ref a1), (.int p2), (.int p3)] below meth c T13 lo 0 0 := ⟨_, Fr.snoc X13 N8 xg1, X13⟩
      have av13 : Arv Z h13 a1 k1 .int (2 : Int32) [(.int (cc + (1 : Int32))), (.int (0 : Int32))] (.int (0 : Int32)) := Arv.set Ar13 q13 S13 M13 H13 G13 rfl W13 1 rfl (Nat.le_of_ble_eq_true rfl)
      have f14_1 := f9_1.other W13 xe0
      have zz15 : n0 ≤ h13.size := Nat.le_trans zz10 (Keep.of_wr W13).1
      have kp16 : Keep h0 h13 [a0, a1] := kp11.wr W13 (Or.inl (List.mem_of_getElem? (i := 1) rfl))
      exact tail23 ⟨T13, _, h13, (cc + (1 : Int32)), (0 : Int32), X13.more (by decide) (by decide), e13, N13, zz15, kp16, f14_1, av13, (by exact ⟨(if_pos c7_4).symm, (if_pos c7_4).symm⟩), pre13⟩
    · skip
      have pre17 : Go p.tables e below S0 s₁ (mkF m 22 #[vR a0, vR a1, vI p2, vI p3] []) := fun t k => pre3 t (by
        refine XS.icmpYes X0.here hx rfl (pc0 := 7) (pc' := 22) rfl (hb hby d3_7) rfl (flt c7_4).2.2.2 (by decide) (by decide) ?_
        exact k)
      exact tail23 ⟨s₁, _, h0, cc, uu, X0.more (by decide) (by decide), e0, N0, Z0, kp0, V0, V1, (by exact ⟨(if_neg c7_4).symm, (if_neg c7_4).symm⟩), pre17⟩
  rintro ⟨T18, Lo18, h18, j22_a1_0_19, j22_a1_1_20, X18, e18, N18, zz18, kp18, f18_0, f18_1, hj22_21, pre22⟩
  have hin : ¬ j22_a1_0_19 < 0 ∧ j22_a1_0_19 < (3 : Int32) := by rw [hj22_21.1]; exact hc
  have pre24 : Go p.tables e below S0 T18 (mkF m 25 #[vR a0, vR a1, vI p2, vI p3] [(.int (0 : Int32)), (.ref a1), (.ref a0)]) := fun t k => pre22 t (by
    refine XS.aloadN X18.here hx rfl (hb hby d3_22) rfl rfl ?_
    refine XS.aloadN X18.here hx rfl (hb hby d3_23) rfl rfl ?_
    refine XS.iconst X18.here hx rfl (hb hby d3_24) ?_
    show Steps p.tables e below (T18.setTop (mkF m 25 #[vR a0, vR a1, vI p2, vI p3] [(.int (0 : Int32)), (.ref a1), (.ref a0)])) _
    exact k)
  obtain ⟨cl25, Ar25, q25, S25, M25, H25, G25⟩ := id f18_1
  have in25 : ¬ ((0 : Int32) < 0 ∨ cl25.slots.size ≤ ((0 : Int32)).toNatClampNeg) := inb_of S25 ⟨by decide, by decide⟩
  have at25 : cl25.slots[((0 : Int32)).toNatClampNeg]? = some (.int j22_a1_0_19) := H25.at in25 rfl
  have pre26 : Go p.tables e below S0 T18 (mkF m 29 #[vR a0, vR a1, vI p2, vI p3] [(.int (0 : Int32)), (.ref a1), (.ref a0), (.int j22_a1_0_19), (.ref a0)]) := fun t k => pre24 t (by
    refine X18.iaload hx (j := (0 : Int32)) (v := (.int j22_a1_0_19)) (by rw [e18]; exact Ar25.1) (State.isArrayOf_alike hZ.alike Ar25.2.1) Ar25.2.2 in25 at25 (g := (mkF m 25 #[vR a0, vR a1, vI p2, vI p3] [(.int (0 : Int32)), (.ref a1), (.ref a0)])) rfl rfl (hb hby d3_25) _ ?_
    refine XS.aloadN X18.here hx rfl (hb hby d3_26) rfl rfl ?_
    refine XS.aloadN X18.here hx rfl (hb hby d3_27) rfl rfl ?_
    show Steps p.tables e below (T18.setTop (mkF m 28 #[vR a0, vR a1, vI p2, vI p3] [(.ref a1), (.ref a0), (.int j22_a1_0_19), (.ref a0)])) _
    refine XS.iconst X18.here hx rfl (hb hby d3_28) ?_
    exact k)
  obtain ⟨cl27, Ar27, q27, S27, M27, H27, G27⟩ := id f18_1
  have in27 : ¬ ((0 : Int32) < 0 ∨ cl27.slots.size ≤ ((0 : Int32)).toNatClampNeg) := inb_of S27 ⟨by decide, by decide⟩
  have at27 : cl27.slots[((0 : Int32)).toNatClampNeg]? = some (.int j22_a1_0_19) := H27.at in27 rfl
  have pre28 : Go p.tables e below S0 T18 (mkF m 30 #[vR a0, vR a1, vI p2, vI p3] [(.int j22_a1_0_19), (.ref a0), (.int j22_a1_0_19), (.ref a0)]) := fun t k => pre26 t (by
    refine X18.iaload hx (j := (0 : Int32)) (v := (.int j22_a1_0_19)) (by rw [e18]; exact Ar27.1) (State.isArrayOf_alike hZ.alike Ar27.2.1) Ar27.2.2 in27 at27 (g := (mkF m 29 #[vR a0, vR a1, vI p2, vI p3] [(.int (0 : Int32)), (.ref a1), (.ref a0), (.int j22_a1_0_19), (.ref a0)])) rfl rfl (hb hby d3_29) _ ?_
    exact k)
  obtain ⟨cl29, Ar29, q29, S29, M29, H29, G29⟩ := id f18_0
  have in29 : ¬ (j22_a1_0_19 < 0 ∨ cl29.slots.size ≤ (j22_a1_0_19).toNatClampNeg) := inb_of S29 hin
  have at29 : cl29.slots[(j22_a1_0_19).toNatClampNeg]? = some (.long ([e0_, e1_, e2_].getD (j22_a1_0_19).toNatClampNeg 0)) := H29.at in29 (own_getJ [e0_, e1_, e2_] _)
  have pre30 : Go p.tables e below S0 T18 (mkF m 35 #[vR a0, vR a1, vI p2, vI p3] [(.int (1 : Int32)), (.ref a1), (.long (p3.toInt64)), (.long ([e0_, e1_, e2_].getD (j22_a1_0_19).toNatClampNeg 0)), (.int j22_a1_0_19), (.ref a0)]) := fun t k => pre28 t (by
    refine X18.laload hx (j := j22_a1_0_19) (v := (.long ([e0_, e1_, e2_].getD (j22_a1_0_19).toNatClampNeg 0))) (by rw [e18]; exact Ar29.1) (State.isArrayOf_alike hZ.alike Ar29.2.1) Ar29.2.2 in29 at29 (g := (mkF m 30 #[vR a0, vR a1, vI p2, vI p3] [(.int j22_a1_0_19), (.ref a0), (.int j22_a1_0_19), (.ref a0)])) rfl rfl (hb hby d3_30) _ ?_
    refine XS.iloadN X18.here hx rfl (hb hby d3_31) rfl ?_
    refine XS.i2l X18.here hx rfl (hb hby d3_32) rfl ?_
    show Steps p.tables e below (T18.setTop (mkF m 33 #[vR a0, vR a1, vI p2, vI p3] [(.long (p3.toInt64)), (.long ([e0_, e1_, e2_].getD (j22_a1_0_19).toNatClampNeg 0)), (.int j22_a1_0_19), (.ref a0)])) _
    refine XS.aloadN X18.here hx rfl (hb hby d3_33) rfl rfl ?_
    refine XS.iconst X18.here hx rfl (hb hby d3_34) ?_
    exact k)
  obtain ⟨cl31, Ar31, q31, S31, M31, H31, G31⟩ := id f18_1
  have in31 : ¬ ((1 : Int32) < 0 ∨ cl31.slots.size ≤ ((1 : Int32)).toNatClampNeg) := inb_of S31 ⟨by decide, by decide⟩
  have at31 : cl31.slots[((1 : Int32)).toNatClampNeg]? = some (.int j22_a1_1_20) := H31.at in31 rfl
  have pre32 : Go p.tables e below S0 T18 (mkF m 38 #[vR a0, vR a1, vI p2, vI p3] [(.long (([e0_, e1_, e2_].getD (j22_a1_0_19).toNatClampNeg 0) ||| ((p3.toInt64) <<< (j22_a1_1_20 &&& 0x3f).toInt64))), (.int j22_a1_0_19), (.ref a0)]) := fun t k => pre30 t (by
    refine X18.iaload hx (j := (1 : Int32)) (v := (.int j22_a1_1_20)) (by rw [e18]; exact Ar31.1) (State.isArrayOf_alike hZ.alike Ar31.2.1) Ar31.2.2 in31 at31 (g := (mkF m 35 #[vR a0, vR a1, vI p2, vI p3] [(.int (1 : Int32)), (.ref a1), (.long (p3.toInt64)), (.long ([e0_, e1_, e2_].getD (j22_a1_0_19).toNatClampNeg 0)), (.int j22_a1_0_19), (.ref a0)])) rfl rfl (hb hby d3_35) _ ?_
    refine XS.lshl X18.here hx rfl (hb hby d3_36) rfl ?_
    refine XS.lor X18.here hx rfl (hb hby d3_37) rfl ?_
    show Steps p.tables e below (T18.setTop (mkF m 38 #[vR a0, vR a1, vI p2, vI p3] [(.long (([e0_, e1_, e2_].getD (j22_a1_0_19).toNatClampNeg 0) ||| ((p3.toInt64) <<< (j22_a1_1_20 &&& 0x3f).toInt64))), (.int j22_a1_0_19), (.ref a0)])) _
    exact k)
  obtain ⟨cl33, Ar33, q33, S33, M33, H33, G33⟩ := id f18_0
  have in33 : ¬ (j22_a1_0_19 < 0 ∨ cl33.slots.size ≤ (j22_a1_0_19).toNatClampNeg) := inb_of S33 hin
  obtain ⟨T33, h33, X33, e33, W33, st33⟩ := stJ X18 hx hZ e18 Ar33 (j := j22_a1_0_19) in33 (g := (mkF m 38 #[vR a0, vR a1, vI p2, vI p3] [(.long (([e0_, e1_, e2_].getD (j22_a1_0_19).toNatClampNeg 0) ||| ((p3.toInt64) <<< (j22_a1_1_20 &&& 0x3f).toInt64))), (.int j22_a1_0_19), (.ref a0)])) rfl rfl (hb hby d3_38)
  have pre33 : Go p.tables e below S0 T33 (mkF m 39 #[vR a0, vR a1, vI p2, vI p3] []) := fun t k => pre32 t (st33 t k)
  obtain ⟨lo33, N33, X33⟩ : ∃ lo, Fr n0 lo ∧ Stand p l e ({ frames := 0, cells := 0, slots := 0, locals := 0 } : Room) s m #[(.ref a0), (.ref a1), (.int p2), (.int p3)] below meth c T33 lo 0 0 := ⟨_, Fr.snoc X33 N18 g0, X33⟩
  have av33 : Arv Z h33 a0 k0 .long (3 : Int32) [(.long (own_putL j22_a1_0_19 (0 : Int32) (([e0_, e1_, e2_].getD (j22_a1_0_19).toNatClampNeg 0) ||| ((p3.toInt64) <<< (j22_a1_1_20 &&& 0x3f).toInt64)) e0_)), (.long (own_putL j22_a1_0_19 (1 : Int32) (([e0_, e1_, e2_].getD (j22_a1_0_19).toNatClampNeg 0) ||| ((p3.toInt64) <<< (j22_a1_1_20 &&& 0x3f).toInt64)) e1_)), (.long (own_putL j22_a1_0_19 (2 : Int32) (([e0_, e1_, e2_].getD (j22_a1_0_19).toNatClampNeg 0) ||| ((p3.toInt64) <<< (j22_a1_1_20 &&& 0x3f).toInt64)) e2_))] (.long (0 : Int64)) := by
    have q := Arv.set Ar33 q33 S33 M33 H33 G33 rfl W33 _ rfl (own_setJ3 (w := 0) (x0 := 0) (x1 := 0) (x2 := 0) hin).1
    rw [(own_setJ3 hin).2] at q
    exact q
  have f34_1 := f18_1.other W33 (Ne.symm xe0)
  have zz35 : n0 ≤ h33.size := Nat.le_trans zz18 (Keep.of_wr W33).1
  have kp36 : Keep h0 h33 [a0, a1] := kp18.wr W33 (Or.inl (List.mem_of_getElem? (i := 0) rfl))
  have pre37 : Go p.tables e below S0 T33 (mkF m 43 #[vR a0, vR a1, vI p2, vI p3] [(.int (1 : Int32)), (.ref a1), (.int (1 : Int32)), (.ref a1)]) := fun t k => pre33 t (by
    refine XS.aloadN X33.here hx rfl (hb hby d3_39) rfl rfl ?_
    refine XS.iconst X33.here hx rfl (hb hby d3_40) ?_
    refine XS.aloadN X33.here hx rfl (hb hby d3_41) rfl rfl ?_
    show Steps p.tables e below (T33.setTop (mkF m 42 #[vR a0, vR a1, vI p2, vI p3] [(.ref a1), (.int (1 : Int32)), (.ref a1)])) _
    refine XS.iconst X33.here hx rfl (hb hby d3_42) ?_
    exact k)
  obtain ⟨cl38, Ar38, q38, S38, M38, H38, G38⟩ := id f34_1
  have in38 : ¬ ((1 : Int32) < 0 ∨ cl38.slots.size ≤ ((1 : Int32)).toNatClampNeg) := inb_of S38 ⟨by decide, by decide⟩
  have at38 : cl38.slots[((1 : Int32)).toNatClampNeg]? = some (.int j22_a1_1_20) := H38.at in38 rfl
  have pre39 : Go p.tables e below S0 T33 (mkF m 46 #[vR a0, vR a1, vI p2, vI p3] [(.int (j22_a1_1_20 + p2)), (.int (1 : Int32)), (.ref a1)]) := fun t k => pre37 t (by
    refine X33.iaload hx (j := (1 : Int32)) (v := (.int j22_a1_1_20)) (by rw [e33]; exact Ar38.1) (State.isArrayOf_alike hZ.alike Ar38.2.1) Ar38.2.2 in38 at38 (g := (mkF m 43 #[vR a0, vR a1, vI p2, vI p3] [(.int (1 : Int32)), (.ref a1), (.int (1 : Int32)), (.ref a1)])) rfl rfl (hb hby d3_43) _ ?_
    refine XS.iloadN X33.here hx rfl (hb hby d3_44) rfl ?_
    refine XS.iadd X33.here hx rfl (hb hby d3_45) rfl ?_
    show Steps p.tables e below (T33.setTop (mkF m 46 #[vR a0, vR a1, vI p2, vI p3] [(.int (j22_a1_1_20 + p2)), (.int (1 : Int32)), (.ref a1)])) _
    exact k)
  obtain ⟨cl40, Ar40, q40, S40, M40, H40, G40⟩ := id f34_1
  have in40 : ¬ ((1 : Int32) < 0 ∨ cl40.slots.size ≤ ((1 : Int32)).toNatClampNeg) := inb_of S40 ⟨by decide, by decide⟩
  obtain ⟨T40, h40, X40, e40, W40, st40⟩ := stI X33 hx hZ e33 Ar40 (j := (1 : Int32)) in40 (g := (mkF m 46 #[vR a0, vR a1, vI p2, vI p3] [(.int (j22_a1_1_20 + p2)), (.int (1 : Int32)), (.ref a1)])) rfl rfl (hb hby d3_46)
  have pre40 : Go p.tables e below S0 T40 (mkF m 47 #[vR a0, vR a1, vI p2, vI p3] []) := fun t k => pre39 t (st40 t k)
  obtain ⟨lo40, N40, X40⟩ : ∃ lo, Fr n0 lo ∧ Stand p l e ({ frames := 0, cells := 0, slots := 0, locals := 0 } : Room) s m #[(.ref a0), (.ref a1), (.int p2), (.int p3)] below meth c T40 lo 0 0 := ⟨_, Fr.snoc X40 N33 xg1, X40⟩
  have av40 : Arv Z h40 a1 k1 .int (2 : Int32) [(.int j22_a1_0_19), (.int (j22_a1_1_20 + p2))] (.int (0 : Int32)) := Arv.set Ar40 q40 S40 M40 H40 G40 rfl W40 1 rfl (Nat.le_of_ble_eq_true rfl)
  have f41_1 := av33.other W40 xe0
  have zz42 : n0 ≤ h40.size := Nat.le_trans zz35 (Keep.of_wr W40).1
  have kp43 : Keep h0 h40 [a0, a1] := kp36.wr W40 (Or.inl (List.mem_of_getElem? (i := 1) rfl))
  obtain ⟨fs, hr, hrun, hended, hW, hsame⟩ := X40.leave (v := none) (fun _ => rfl)
  exact ⟨_, _, pre40.fin hS0 (X40.returnOut hx Bd.returns (hb hby d3_47) hr), hrun, hended, _, _, rfl, (by
    show Q3 Z a0 a1 p2 p3 k0 k1 e0_ e1_ e2_ cc uu h0 n0 _ T40.heap _
    rw [e40]
    exact ⟨rfl, N40, _, _, _, _, _, hj22_21, own_or3 hin, kp43, f41_1, av40⟩), ⟨_, rfl⟩, hW, hsame.mono (by decide) (by decide)⟩
theorem ef_4 (m : MethodId) (x0 : Addr) (x1 : Addr) : entryFrame m #[(.ref x0), (.ref x1)] 5 = mkF m 0 #[.val (.ref x0), .val (.ref x1), .unset, .unset, .unset] [] := by first | (simp [entryFrame, mkF, argsToLocals, Value.category]; done) | rfl
theorem pn_1 : plainName "com/example/garantia/garantia/engine/StateLayout" = true := by first | (simp [plainName, overriddenIn]; done) | decide +kernel
theorem d4_0 : decode prog_46_method_1_code 0 = .ok (.aload_n 0, 1) := by decide +kernel
theorem d4_1 : decode prog_46_method_1_code 1 = .ok (.invokespecial 1, 3) := by decide +kernel
theorem d4_4 : decode prog_46_method_1_code 4 = .ok (.aload_n 0, 1) := by decide +kernel
theorem d4_5 : decode prog_46_method_1_code 5 = .ok (.aload_n 1, 1) := by decide +kernel
theorem d4_6 : decode prog_46_method_1_code 6 = .ok (.arraylength, 1) := by decide +kernel
theorem d4_7 : decode prog_46_method_1_code 7 = .ok (.newarray .int, 2) := by decide +kernel
theorem d4_9 : decode prog_46_method_1_code 9 = .ok (.putfield 7, 3) := by decide +kernel
theorem d4_12 : decode prog_46_method_1_code 12 = .ok (.aload_n 0, 1) := by decide +kernel
theorem d4_13 : decode prog_46_method_1_code 13 = .ok (.aload_n 1, 1) := by decide +kernel
theorem d4_14 : decode prog_46_method_1_code 14 = .ok (.arraylength, 1) := by decide +kernel
theorem d4_15 : decode prog_46_method_1_code 15 = .ok (.newarray .int, 2) := by decide +kernel
theorem d4_17 : decode prog_46_method_1_code 17 = .ok (.putfield 13, 3) := by decide +kernel
theorem d4_20 : decode prog_46_method_1_code 20 = .ok (.aload_n 0, 1) := by decide +kernel
theorem d4_21 : decode prog_46_method_1_code 21 = .ok (.aload_n 1, 1) := by decide +kernel
theorem d4_22 : decode prog_46_method_1_code 22 = .ok (.arraylength, 1) := by decide +kernel
theorem d4_23 : decode prog_46_method_1_code 23 = .ok (.newarray .long, 2) := by decide +kernel
theorem d4_25 : decode prog_46_method_1_code 25 = .ok (.putfield 16, 3) := by decide +kernel
theorem d4_28 : decode prog_46_method_1_code 28 = .ok (.aload_n 0, 1) := by decide +kernel
theorem d4_29 : decode prog_46_method_1_code 29 = .ok (.aload_n 1, 1) := by decide +kernel
theorem d4_30 : decode prog_46_method_1_code 30 = .ok (.arraylength, 1) := by decide +kernel
theorem d4_31 : decode prog_46_method_1_code 31 = .ok (.newarray .long, 2) := by decide +kernel
theorem d4_33 : decode prog_46_method_1_code 33 = .ok (.putfield 20, 3) := by decide +kernel
theorem d4_36 : decode prog_46_method_1_code 36 = .ok (.iconst 0, 1) := by decide +kernel
theorem d4_37 : decode prog_46_method_1_code 37 = .ok (.istore_n 2, 1) := by decide +kernel
theorem d4_38 : decode prog_46_method_1_code 38 = .ok (.iconst 0, 1) := by decide +kernel
theorem d4_39 : decode prog_46_method_1_code 39 = .ok (.istore_n 3, 1) := by decide +kernel
theorem d4_40 : decode prog_46_method_1_code 40 = .ok (.iconst 0, 1) := by decide +kernel
theorem d4_41 : decode prog_46_method_1_code 41 = .ok (.istore 4, 2) := by decide +kernel
theorem d4_43 : decode prog_46_method_1_code 43 = .ok (.iload 4, 2) := by decide +kernel
theorem d4_45 : decode prog_46_method_1_code 45 = .ok (.aload_n 1, 1) := by decide +kernel
theorem d4_46 : decode prog_46_method_1_code 46 = .ok (.arraylength, 1) := by decide +kernel
theorem d4_47 : decode prog_46_method_1_code 47 = .ok (.if_icmp .ge 83, 3) := by decide +kernel
theorem d4_50 : decode prog_46_method_1_code 50 = .ok (.iload_n 2, 1) := by decide +kernel
theorem d4_51 : decode prog_46_method_1_code 51 = .ok (.aload_n 1, 1) := by decide +kernel
theorem d4_52 : decode prog_46_method_1_code 52 = .ok (.iload 4, 2) := by decide +kernel
theorem d4_54 : decode prog_46_method_1_code 54 = .ok (.iaload, 1) := by decide +kernel
theorem d4_55 : decode prog_46_method_1_code 55 = .ok (.iadd, 1) := by decide +kernel
theorem d4_56 : decode prog_46_method_1_code 56 = .ok (.bipush 64, 2) := by decide +kernel
theorem d4_58 : decode prog_46_method_1_code 58 = .ok (.if_icmp .le 8, 3) := by decide +kernel
theorem d4_61 : decode prog_46_method_1_code 61 = .ok (.iinc 3 1, 3) := by decide +kernel
theorem d4_64 : decode prog_46_method_1_code 64 = .ok (.iconst 0, 1) := by decide +kernel
theorem d4_65 : decode prog_46_method_1_code 65 = .ok (.istore_n 2, 1) := by decide +kernel
theorem d4_66 : decode prog_46_method_1_code 66 = .ok (.aload_n 0, 1) := by decide +kernel
theorem d4_67 : decode prog_46_method_1_code 67 = .ok (.getfield 7, 3) := by decide +kernel
theorem d4_70 : decode prog_46_method_1_code 70 = .ok (.iload 4, 2) := by decide +kernel
theorem d4_72 : decode prog_46_method_1_code 72 = .ok (.iload_n 3, 1) := by decide +kernel
theorem d4_73 : decode prog_46_method_1_code 73 = .ok (.iastore, 1) := by decide +kernel
theorem d4_74 : decode prog_46_method_1_code 74 = .ok (.aload_n 0, 1) := by decide +kernel
theorem d4_75 : decode prog_46_method_1_code 75 = .ok (.getfield 13, 3) := by decide +kernel
theorem d4_78 : decode prog_46_method_1_code 78 = .ok (.iload 4, 2) := by decide +kernel
theorem d4_80 : decode prog_46_method_1_code 80 = .ok (.iload_n 2, 1) := by decide +kernel
theorem d4_81 : decode prog_46_method_1_code 81 = .ok (.iastore, 1) := by decide +kernel
theorem d4_82 : decode prog_46_method_1_code 82 = .ok (.aload_n 0, 1) := by decide +kernel
theorem d4_83 : decode prog_46_method_1_code 83 = .ok (.getfield 16, 3) := by decide +kernel
theorem d4_86 : decode prog_46_method_1_code 86 = .ok (.iload 4, 2) := by decide +kernel
theorem d4_88 : decode prog_46_method_1_code 88 = .ok (.lconst 1, 1) := by decide +kernel
theorem d4_89 : decode prog_46_method_1_code 89 = .ok (.aload_n 1, 1) := by decide +kernel
theorem d4_90 : decode prog_46_method_1_code 90 = .ok (.iload 4, 2) := by decide +kernel
theorem d4_92 : decode prog_46_method_1_code 92 = .ok (.iaload, 1) := by decide +kernel
theorem d4_93 : decode prog_46_method_1_code 93 = .ok (.lshl, 1) := by decide +kernel
theorem d4_94 : decode prog_46_method_1_code 94 = .ok (.lconst 1, 1) := by decide +kernel
theorem d4_95 : decode prog_46_method_1_code 95 = .ok (.lsub, 1) := by decide +kernel
theorem d4_96 : decode prog_46_method_1_code 96 = .ok (.lastore, 1) := by decide +kernel
theorem d4_97 : decode prog_46_method_1_code 97 = .ok (.aload_n 0, 1) := by decide +kernel
theorem d4_98 : decode prog_46_method_1_code 98 = .ok (.getfield 20, 3) := by decide +kernel
theorem d4_101 : decode prog_46_method_1_code 101 = .ok (.iload 4, 2) := by decide +kernel
theorem d4_103 : decode prog_46_method_1_code 103 = .ok (.aload_n 0, 1) := by decide +kernel
theorem d4_104 : decode prog_46_method_1_code 104 = .ok (.getfield 16, 3) := by decide +kernel
theorem d4_107 : decode prog_46_method_1_code 107 = .ok (.iload 4, 2) := by decide +kernel
theorem d4_109 : decode prog_46_method_1_code 109 = .ok (.laload, 1) := by decide +kernel
theorem d4_110 : decode prog_46_method_1_code 110 = .ok (.iload_n 2, 1) := by decide +kernel
theorem d4_111 : decode prog_46_method_1_code 111 = .ok (.lshl, 1) := by decide +kernel
theorem d4_112 : decode prog_46_method_1_code 112 = .ok (.ldc2_w 25, 3) := by decide +kernel
theorem d4_115 : decode prog_46_method_1_code 115 = .ok (.lxor, 1) := by decide +kernel
theorem d4_116 : decode prog_46_method_1_code 116 = .ok (.lastore, 1) := by decide +kernel
theorem d4_117 : decode prog_46_method_1_code 117 = .ok (.iload_n 2, 1) := by decide +kernel
theorem d4_118 : decode prog_46_method_1_code 118 = .ok (.aload_n 1, 1) := by decide +kernel
theorem d4_119 : decode prog_46_method_1_code 119 = .ok (.iload 4, 2) := by decide +kernel
theorem d4_121 : decode prog_46_method_1_code 121 = .ok (.iaload, 1) := by decide +kernel
theorem d4_122 : decode prog_46_method_1_code 122 = .ok (.iadd, 1) := by decide +kernel
theorem d4_123 : decode prog_46_method_1_code 123 = .ok (.istore_n 2, 1) := by decide +kernel
theorem d4_124 : decode prog_46_method_1_code 124 = .ok (.iinc 4 1, 3) := by decide +kernel
theorem d4_127 : decode prog_46_method_1_code 127 = .ok (.goto (-84), 3) := by decide +kernel
theorem d4_130 : decode prog_46_method_1_code 130 = .ok (.aload_n 0, 1) := by decide +kernel
theorem d4_131 : decode prog_46_method_1_code 131 = .ok (.iload_n 3, 1) := by decide +kernel
theorem d4_132 : decode prog_46_method_1_code 132 = .ok (.iconst 1, 1) := by decide +kernel
theorem d4_133 : decode prog_46_method_1_code 133 = .ok (.iadd, 1) := by decide +kernel
theorem d4_134 : decode prog_46_method_1_code 134 = .ok (.putfield 27, 3) := by decide +kernel
theorem d4_137 : decode prog_46_method_1_code 137 = .ok (.aload_n 0, 1) := by decide +kernel
theorem d4_138 : decode prog_46_method_1_code 138 = .ok (.aload_n 0, 1) := by decide +kernel
theorem d4_139 : decode prog_46_method_1_code 139 = .ok (.getfield 27, 3) := by decide +kernel
theorem d4_142 : decode prog_46_method_1_code 142 = .ok (.iconst 1, 1) := by decide +kernel
theorem d4_143 : decode prog_46_method_1_code 143 = .ok (.if_icmp .ne 13, 3) := by decide +kernel
theorem d4_146 : decode prog_46_method_1_code 146 = .ok (.iload_n 2, 1) := by decide +kernel
theorem d4_147 : decode prog_46_method_1_code 147 = .ok (.bipush 32, 2) := by decide +kernel
theorem d4_149 : decode prog_46_method_1_code 149 = .ok (.if_icmp .gt 7, 3) := by decide +kernel
theorem d4_152 : decode prog_46_method_1_code 152 = .ok (.iconst 1, 1) := by decide +kernel
theorem d4_153 : decode prog_46_method_1_code 153 = .ok (.goto 4, 3) := by decide +kernel
theorem d4_156 : decode prog_46_method_1_code 156 = .ok (.iconst 0, 1) := by decide +kernel
theorem d4_157 : decode prog_46_method_1_code 157 = .ok (.putfield 33, 3) := by decide +kernel
theorem d4_160 : decode prog_46_method_1_code 160 = .ok (.return_, 1) := by decide +kernel
def Q4 (Z : State) (a0 a1 : Addr) (k1 : ClassId) (w0 : Int32) (w1 : Int32) (w2 : Int32) (w3 : Int32) (w4 : Int32) (h0 : Heap) (n0 : Nat) (v : Option Value) (h : Heap) (L : List Loc) : Prop := v = none ∧ Fr n0 L ∧ ∃ (aw as am ao : Addr) (kw ks km ko : ClassId) (c2 u2 c3 u3 c4 u4 : Int32), ((c2 = own_cur (0 : Int32) (((0 : Int32) + w0) + w1) w2 ∧ u2 = own_u0 (((0 : Int32) + w0) + w1) w2) ∧ (c3 = own_cur c2 (u2 + w2) w3 ∧ u3 = own_u0 (u2 + w2) w3) ∧ (c4 = own_cur c3 (u3 + w3) w4 ∧ u4 = own_u0 (u3 + w3) w4)) ∧ (h0.size ≤ aw ∧ h0.size ≤ as ∧ h0.size ≤ am ∧ h0.size ≤ ao) ∧ (aw ≠ as ∧ aw ≠ am ∧ aw ≠ ao ∧ as ≠ am ∧ as ≠ ao ∧ am ≠ ao) ∧ Keep h0 h [a0] ∧ (Exa Z h a0 "com/example/garantia/garantia/engine/StateLayout") ∧ (Fld Z h a0 "com/example/garantia/garantia/engine/StateLayout" "word" "[I" (.ref aw)) ∧ (Fld Z h a0 "com/example/garantia/garantia/engine/StateLayout" "shift" "[I" (.ref as)) ∧ (Fld Z h a0 "com/example/garantia/garantia/engine/StateLayout" "mask" "[J" (.ref am)) ∧ (Fld Z h a0 "com/example/garantia/garantia/engine/StateLayout" "others" "[J" (.ref ao)) ∧ (Fld Z h a0 "com/example/garantia/garantia/engine/StateLayout" "words" "I" (.int (c4 + (1 : Int32)))) ∧ (Arv Z h aw kw .int (5 : Int32) [(.int (0 : Int32)), (.int (0 : Int32)), (.int c2), (.int c3), (.int c4)] (.int (0 : Int32))) ∧ (Arv Z h as ks .int (5 : Int32) [(.int (0 : Int32)), (.int ((0 : Int32) + w0)), (.int u2), (.int u3), (.int u4)] (.int (0 : Int32))) ∧ (Arv Z h am km .long (5 : Int32) [(.long (((1 : Int64) <<< (w0 &&& 0x3f).toInt64) - (1 : Int64))), (.long (((1 : Int64) <<< (w1 &&& 0x3f).toInt64) - (1 : Int64))), (.long (((1 : Int64) <<< (w2 &&& 0x3f).toInt64) - (1 : Int64))), (.long (((1 : Int64) <<< (w3 &&& 0x3f).toInt64) - (1 : Int64))), (.long (((1 : Int64) <<< (w4 &&& 0x3f).toInt64) - (1 : Int64)))] (.long (0 : Int64))) ∧ (Arv Z h ao ko .long (5 : Int32) [(.long (((((1 : Int64) <<< (w0 &&& 0x3f).toInt64) - (1 : Int64)) <<< ((0 : Int32) &&& 0x3f).toInt64) ^^^ (-1 : Int64))), (.long (((((1 : Int64) <<< (w1 &&& 0x3f).toInt64) - (1 : Int64)) <<< (((0 : Int32) + w0) &&& 0x3f).toInt64) ^^^ (-1 : Int64))), (.long (((((1 : Int64) <<< (w2 &&& 0x3f).toInt64) - (1 : Int64)) <<< (u2 &&& 0x3f).toInt64) ^^^ (-1 : Int64))), (.long (((((1 : Int64) <<< (w3 &&& 0x3f).toInt64) - (1 : Int64)) <<< (u3 &&& 0x3f).toInt64) ^^^ (-1 : Int64))), (.long (((((1 : Int64) <<< (w4 &&& 0x3f).toInt64) - (1 : Int64)) <<< (u4 &&& 0x3f).toInt64) ^^^ (-1 : Int64)))] (.long (0 : Int64)))
set_option maxRecDepth 65536 in
set_option maxHeartbeats 40000000 in
theorem rm4 (l : Launch) (Z : State) (A0 : Array Value) (hw : ∀ d ∈ tables_1, d.before A0 Z = true) (ws : List Jvm.Cond) (a0 : Addr) (a1 : Addr) (k1 : ClassId) (w0 : Int32) (w1 : Int32) (w2 : Int32) (w3 : Int32) (w4 : Int32) (h0 : Heap) (n0 : Nat) (Z0 : n0 ≤ h0.size) (E0 : Exa Z h0 a0 "com/example/garantia/garantia/engine/StateLayout") (Fw : Fld Z h0 a0 "com/example/garantia/garantia/engine/StateLayout" "word" "[I" .null) (Fs : Fld Z h0 a0 "com/example/garantia/garantia/engine/StateLayout" "shift" "[I" .null) (Fm : Fld Z h0 a0 "com/example/garantia/garantia/engine/StateLayout" "mask" "[J" .null) (Fo : Fld Z h0 a0 "com/example/garantia/garantia/engine/StateLayout" "others" "[J" .null) (Fn : Fld Z h0 a0 "com/example/garantia/garantia/engine/StateLayout" "words" "I" (.int (0 : Int32))) (Fb : Fld Z h0 a0 "com/example/garantia/garantia/engine/StateLayout" "narrow" "Z" (.int (0 : Int32))) (V1 : Arv Z h0 a1 k1 .int (5 : Int32) [(.int w0), (.int w1), (.int w2), (.int w3), (.int w4)] (.int (0 : Int32))) (xe1 : a1 ≠ a0) (g0 : n0 ≤ a0) (hw0 : 0 ≤ w0.toInt ∧ w0.toInt ≤ 31) (hw1 : 0 ≤ w1.toInt ∧ w1.toInt ≤ 31) (hw2 : 0 ≤ w2.toInt ∧ w2.toInt ≤ 31) (hw3 : 0 ≤ w3.toInt ∧ w3.toInt ≤ 31) (hw4 : 0 ≤ w4.toInt ∧ w4.toInt ≤ 31) :
    MetFree l (⟨"com/example/garantia/garantia/engine/StateLayout", "<init>", "([I)V"⟩ : MethodName) (head1 (Jvm.Cond.code (⟨"com/example/garantia/garantia/engine/StateLayout", "<init>", "([I)V"⟩ : MethodName) prog_46_method_1_code 5 none :: ws) ({ frames := 1, cells := 4, slots := 20, locals := 12 } : Room)) (fun a U => a = #[(.ref a0), (.ref a1)] ∧ Z.Warmed39 U.vm ∧ U.heap = h0) (fun _ _ _ _ _ => True) (fun _ U o U' => ∃ v L, o = .returned v ∧ Q4 Z a0 a1 k1 w0 w1 w2 w3 w4 h0 n0 v U'.heap L ∧ FrameEnd U o U' L ({ frames := 1, cells := 4, slots := 20, locals := 12 } : Room).cells ({ frames := 1, cells := 4, slots := 20, locals := 12 } : Room).slots) := by
  refine MetFree.of_bodySF (plainFor_of_name pn_1) hisR ?_
  intro p e s m args below meth c s₁ Bd hml0 hP hK
  obtain ⟨rfl, hZ, hh⟩ := hP
  have hx := Bd.exec
  have hby := Bd.bytes
  have hml : c.maxLocals = 5 := hml0
  have hown : s.vm.findClass "com/example/garantia/garantia/engine/StateLayout" = some m.cls := findClass_of_methodNamed Bd.named
  have hnm := (name_of_methodNamed Bd.named Bd.method).1
  have X0 : Stand p l e ({ frames := 1, cells := 4, slots := 20, locals := 12 } : Room) s m #[(.ref a0), (.ref a1)] below meth c s₁ [] 0 0 := Stand.of_body Bd
  have e0 : s₁.heap = h0 := by rw [← hh, Bd.state]; rfl
  have N0 := Fr.nil n0
  have kp0 : Keep h0 h0 [a0] := Keep.refl _ _
  obtain ⟨S0, hS0⟩ : ∃ z, z = s₁.setTop (entryFrame m #[(.ref a0), (.ref a1)] 5) := ⟨_, rfl⟩
  have pre0 : Go p.tables e below S0 s₁ (mkF m 0 #[vR a0, vR a1, .unset, .unset, .unset] []) := fun t k => by rw [hS0]; exact castTop (ef_4 m a0 a1) k
  have pre1 : Go p.tables e below S0 s₁ (mkF m 1 #[vR a0, vR a1, .unset, .unset, .unset] [(.ref a0)]) := fun t k => pre0 t (by
    refine XS.aloadN X0.here hx rfl (hb hby d4_0) rfl rfl ?_
    exact k)
  obtain ⟨T2, X2, e2, st2⟩ := initO X0 hx hZ hown (hw _ (List.mem_of_getElem? (i := 19) rfl)) (hw _ (List.mem_of_getElem? (i := 20) rfl)) (hw _ (List.mem_of_getElem? (i := 21) rfl)) e0 (g := (mkF m 1 #[vR a0, vR a1, .unset, .unset, .unset] [(.ref a0)])) rfl (by rw [hml]; rfl) rfl (hb hby d4_1) (by decide) (W := 0) (by show 2 * 0 + _ ≤ _; exact Nat.le_of_eq rfl) (by decide)
  have pre2 : Go p.tables e below S0 T2 (mkF m 4 #[vR a0, vR a1, .unset, .unset, .unset] []) := fun t k => pre1 t (st2 t k)
  have pre3 : Go p.tables e below S0 T2 (mkF m 6 #[vR a0, vR a1, .unset, .unset, .unset] [(.ref a1), (.ref a0)]) := fun t k => pre2 t (by
    refine XS.aloadN X2.here hx rfl (hb hby d4_4) rfl rfl ?_
    refine XS.aloadN X2.here hx rfl (hb hby d4_5) rfl rfl ?_
    exact k)
  obtain ⟨cl4, Ar4, q4, S4, M4, H4, G4⟩ := id V1
  have pre5 : Go p.tables e below S0 T2 (mkF m 7 #[vR a0, vR a1, .unset, .unset, .unset] [(.int (5 : Int32)), (.ref a0)]) := fun t k => pre3 t (by
    refine X2.arraylength hx (by rw [e2]; exact Ar4.1) (State.isArrayOf_alike hZ.alike Ar4.2.1) (g := (mkF m 6 #[vR a0, vR a1, .unset, .unset, .unset] [(.ref a1), (.ref a0)])) rfl rfl (hb hby d4_6) _ ?_
    rw [len_of S4 M4]
    exact k)
  obtain ⟨T6, h6, kA6, X6, e6, E6, A6, st6⟩ := newP X2 hx hZ (hw _ (List.mem_of_getElem? (i := 8) rfl)) e2 (g := (mkF m 7 #[vR a0, vR a1, .unset, .unset, .unset] [(.int (5 : Int32)), (.ref a0)])) rfl (hb hby d4_7) rfl (by decide) (cap := 5) (by decide) (by decide) (by decide) (by decide)
  obtain ⟨b6, g6⟩ : ∃ z, z = h0.size := ⟨_, rfl⟩
  rw [← g6] at A6 st6
  have pre6 : Go p.tables e below S0 T6 (mkF m 9 #[vR a0, vR a1, .unset, .unset, .unset] [(.ref b6), (.ref a0)]) := fun t k => pre5 t (st6 t k)
  have ne7 : a0 ≠ b6 := Nat.ne_of_lt (Nat.lt_of_lt_of_le E0.lt (Nat.le_of_eq g6.symm))
  have ne8 : a1 ≠ b6 := Nat.ne_of_lt (Nat.lt_of_lt_of_le V1.lt (Nat.le_of_eq g6.symm))
  have bo6 : n0 ≤ b6 := Nat.le_trans Z0 (Nat.le_of_eq g6.symm)
  have ol6 : h0.size ≤ b6 := Nat.le_trans kp0.1 (Nat.le_of_eq g6.symm)
  have f9_1 := Exa.ext E6 E0
  have f9_2 := Fld.ext E6 Fw
  have f9_3 := Fld.ext E6 Fs
  have f9_4 := Fld.ext E6 Fm
  have f9_5 := Fld.ext E6 Fo
  have f9_6 := Fld.ext E6 Fn
  have f9_7 := Fld.ext E6 Fb
  have f9_8 := V1.ext E6
  have zz10 : n0 ≤ h6.size := Nat.le_trans Z0 E6.1
  have kp11 : Keep h0 h6 [a0] := kp0.ext E6
  have av6 : Arv Z h6 b6 kA6 .int (5 : Int32) [(.int (0 : Int32)), (.int (0 : Int32)), (.int (0 : Int32)), (.int (0 : Int32)), (.int (0 : Int32))] (.int (0 : Int32)) := (Arv.new A6 (by decide)).pad (pad_rep [] (.int (0 : Int32)) 5)
  obtain ⟨T12, h12, X12, e12, W12, st12⟩ := putF X6 hx hZ hown (host := "") (Or.inl (hw _ (List.mem_of_getElem? (i := 22) rfl))) Via.refl e6 f9_2 f9_1 (Or.inr ⟨(hw _ (List.mem_of_getElem? (i := 23) rfl)), rfl, hnm⟩) (hw _ (List.mem_of_getElem? (i := 14) rfl)) (ty := (.array .int)) (by decide) rfl rfl (g := (mkF m 9 #[vR a0, vR a1, .unset, .unset, .unset] [(.ref b6), (.ref a0)])) rfl rfl (hb hby d4_9)
  have pre12 : Go p.tables e below S0 T12 (mkF m 12 #[vR a0, vR a1, .unset, .unset, .unset] []) := fun t k => pre6 t (st12 t k)
  obtain ⟨lo12, N12, X12⟩ : ∃ lo, Fr n0 lo ∧ Stand p l e ({ frames := 1, cells := 4, slots := 20, locals := 12 } : Room) s m #[(.ref a0), (.ref a1)] below meth c T12 lo 1 5 := ⟨_, Fr.snoc X12 N0 g0, X12⟩
  have fw12 : Fld Z h12 a0 "com/example/garantia/garantia/engine/StateLayout" "word" "[I" (.ref b6) := Fld.same W12 f9_2
  have f13_1 := Exa.wr W12 f9_1
  have f13_2 := Fld.other W12 f9_3 (Or.inr (slot_ne (Or.inr (hw _ (List.mem_of_getElem? (i := 25) rfl))) (Or.inr (hw _ (List.mem_of_getElem? (i := 23) rfl))) (by decide) (t := (.array .int)) (t' := (.array .int)) (by decide) (by decide)))
  have f13_3 := Fld.other W12 f9_4 (Or.inr (slot_ne (Or.inr (hw _ (List.mem_of_getElem? (i := 27) rfl))) (Or.inr (hw _ (List.mem_of_getElem? (i := 23) rfl))) (by decide) (t := (.array .long)) (t' := (.array .int)) (by decide) (by decide)))
  have f13_4 := Fld.other W12 f9_5 (Or.inr (slot_ne (Or.inr (hw _ (List.mem_of_getElem? (i := 29) rfl))) (Or.inr (hw _ (List.mem_of_getElem? (i := 23) rfl))) (by decide) (t := (.array .long)) (t' := (.array .int)) (by decide) (by decide)))
  have f13_5 := Fld.other W12 f9_6 (Or.inr (slot_ne (Or.inr (hw _ (List.mem_of_getElem? (i := 32) rfl))) (Or.inr (hw _ (List.mem_of_getElem? (i := 23) rfl))) (by decide) (t := .int) (t' := (.array .int)) (by decide) (by decide)))
  have f13_6 := Fld.other W12 f9_7 (Or.inr (slot_ne (Or.inr (hw _ (List.mem_of_getElem? (i := 34) rfl))) (Or.inr (hw _ (List.mem_of_getElem? (i := 23) rfl))) (by decide) (t := .boolean) (t' := (.array .int)) (by decide) (by decide)))
  have f13_7 := f9_8.other W12 xe1
  have f13_8 := av6.other W12 (Ne.symm ne7)
  have zz14 : n0 ≤ h12.size := Nat.le_trans zz10 (Keep.of_wr W12).1
  have kp15 : Keep h0 h12 [a0] := kp11.wr W12 (Or.inl (List.mem_of_getElem? (i := 0) rfl))
  have pre16 : Go p.tables e below S0 T12 (mkF m 14 #[vR a0, vR a1, .unset, .unset, .unset] [(.ref a1), (.ref a0)]) := fun t k => pre12 t (by
    refine XS.aloadN X12.here hx rfl (hb hby d4_12) rfl rfl ?_
    refine XS.aloadN X12.here hx rfl (hb hby d4_13) rfl rfl ?_
    exact k)
  obtain ⟨cl17, Ar17, q17, S17, M17, H17, G17⟩ := id f13_7
  have pre18 : Go p.tables e below S0 T12 (mkF m 15 #[vR a0, vR a1, .unset, .unset, .unset] [(.int (5 : Int32)), (.ref a0)]) := fun t k => pre16 t (by
    refine X12.arraylength hx (by rw [e12]; exact Ar17.1) (State.isArrayOf_alike hZ.alike Ar17.2.1) (g := (mkF m 14 #[vR a0, vR a1, .unset, .unset, .unset] [(.ref a1), (.ref a0)])) rfl rfl (hb hby d4_14) _ ?_
    rw [len_of S17 M17]
    exact k)
  obtain ⟨T19, h19, kA19, X19, e19, E19, A19, st19⟩ := newP X12 hx hZ (hw _ (List.mem_of_getElem? (i := 8) rfl)) e12 (g := (mkF m 15 #[vR a0, vR a1, .unset, .unset, .unset] [(.int (5 : Int32)), (.ref a0)])) rfl (hb hby d4_15) rfl (by decide) (cap := 5) (by decide) (by decide) (by decide) (by decide)
  obtain ⟨b19, g19⟩ : ∃ z, z = h12.size := ⟨_, rfl⟩
  rw [← g19] at A19 st19
  have pre19 : Go p.tables e below S0 T19 (mkF m 17 #[vR a0, vR a1, .unset, .unset, .unset] [(.ref b19), (.ref a0)]) := fun t k => pre18 t (st19 t k)
  have ne20 : a0 ≠ b19 := Nat.ne_of_lt (Nat.lt_of_lt_of_le f13_1.lt (Nat.le_of_eq g19.symm))
  have ne21 : a1 ≠ b19 := Nat.ne_of_lt (Nat.lt_of_lt_of_le f13_7.lt (Nat.le_of_eq g19.symm))
  have ne22 : b6 ≠ b19 := Nat.ne_of_lt (Nat.lt_of_lt_of_le f13_8.lt (Nat.le_of_eq g19.symm))
  have bo19 : n0 ≤ b19 := Nat.le_trans zz14 (Nat.le_of_eq g19.symm)
  have ol19 : h0.size ≤ b19 := Nat.le_trans kp15.1 (Nat.le_of_eq g19.symm)
  have f23_1 := Exa.ext E19 f13_1
  have f23_2 := Fld.ext E19 fw12
  have f23_3 := Fld.ext E19 f13_2
  have f23_4 := Fld.ext E19 f13_3
  have f23_5 := Fld.ext E19 f13_4
  have f23_6 := Fld.ext E19 f13_5
  have f23_7 := Fld.ext E19 f13_6
  have f23_8 := f13_7.ext E19
  have f23_9 := f13_8.ext E19
  have zz24 : n0 ≤ h19.size := Nat.le_trans zz14 E19.1
  have kp25 : Keep h0 h19 [a0] := kp15.ext E19
  have av19 : Arv Z h19 b19 kA19 .int (5 : Int32) [(.int (0 : Int32)), (.int (0 : Int32)), (.int (0 : Int32)), (.int (0 : Int32)), (.int (0 : Int32))] (.int (0 : Int32)) := (Arv.new A19 (by decide)).pad (pad_rep [] (.int (0 : Int32)) 5)
  obtain ⟨T26, h26, X26, e26, W26, st26⟩ := putF X19 hx hZ hown (host := "") (Or.inl (hw _ (List.mem_of_getElem? (i := 24) rfl))) Via.refl e19 f23_3 f23_1 (Or.inr ⟨(hw _ (List.mem_of_getElem? (i := 25) rfl)), rfl, hnm⟩) (hw _ (List.mem_of_getElem? (i := 14) rfl)) (ty := (.array .int)) (by decide) rfl rfl (g := (mkF m 17 #[vR a0, vR a1, .unset, .unset, .unset] [(.ref b19), (.ref a0)])) rfl rfl (hb hby d4_17)
  have pre26 : Go p.tables e below S0 T26 (mkF m 20 #[vR a0, vR a1, .unset, .unset, .unset] []) := fun t k => pre19 t (st26 t k)
  obtain ⟨lo26, N26, X26⟩ : ∃ lo, Fr n0 lo ∧ Stand p l e ({ frames := 1, cells := 4, slots := 20, locals := 12 } : Room) s m #[(.ref a0), (.ref a1)] below meth c T26 lo 2 10 := ⟨_, Fr.snoc X26 N12 g0, X26⟩
  have fw26 : Fld Z h26 a0 "com/example/garantia/garantia/engine/StateLayout" "shift" "[I" (.ref b19) := Fld.same W26 f23_3
  have f27_1 := Exa.wr W26 f23_1
  have f27_2 := Fld.other W26 f23_2 (Or.inr (slot_ne (Or.inr (hw _ (List.mem_of_getElem? (i := 23) rfl))) (Or.inr (hw _ (List.mem_of_getElem? (i := 25) rfl))) (by decide) (t := (.array .int)) (t' := (.array .int)) (by decide) (by decide)))
  have f27_3 := Fld.other W26 f23_4 (Or.inr (slot_ne (Or.inr (hw _ (List.mem_of_getElem? (i := 27) rfl))) (Or.inr (hw _ (List.mem_of_getElem? (i := 25) rfl))) (by decide) (t := (.array .long)) (t' := (.array .int)) (by decide) (by decide)))
  have f27_4 := Fld.other W26 f23_5 (Or.inr (slot_ne (Or.inr (hw _ (List.mem_of_getElem? (i := 29) rfl))) (Or.inr (hw _ (List.mem_of_getElem? (i := 25) rfl))) (by decide) (t := (.array .long)) (t' := (.array .int)) (by decide) (by decide)))
  have f27_5 := Fld.other W26 f23_6 (Or.inr (slot_ne (Or.inr (hw _ (List.mem_of_getElem? (i := 32) rfl))) (Or.inr (hw _ (List.mem_of_getElem? (i := 25) rfl))) (by decide) (t := .int) (t' := (.array .int)) (by decide) (by decide)))
  have f27_6 := Fld.other W26 f23_7 (Or.inr (slot_ne (Or.inr (hw _ (List.mem_of_getElem? (i := 34) rfl))) (Or.inr (hw _ (List.mem_of_getElem? (i := 25) rfl))) (by decide) (t := .boolean) (t' := (.array .int)) (by decide) (by decide)))
  have f27_7 := f23_8.other W26 xe1
  have f27_8 := f23_9.other W26 (Ne.symm ne7)
  have f27_9 := av19.other W26 (Ne.symm ne20)
  have zz28 : n0 ≤ h26.size := Nat.le_trans zz24 (Keep.of_wr W26).1
  have kp29 : Keep h0 h26 [a0] := kp25.wr W26 (Or.inl (List.mem_of_getElem? (i := 0) rfl))
  have pre30 : Go p.tables e below S0 T26 (mkF m 22 #[vR a0, vR a1, .unset, .unset, .unset] [(.ref a1), (.ref a0)]) := fun t k => pre26 t (by
    refine XS.aloadN X26.here hx rfl (hb hby d4_20) rfl rfl ?_
    refine XS.aloadN X26.here hx rfl (hb hby d4_21) rfl rfl ?_
    exact k)
  obtain ⟨cl31, Ar31, q31, S31, M31, H31, G31⟩ := id f27_7
  have pre32 : Go p.tables e below S0 T26 (mkF m 23 #[vR a0, vR a1, .unset, .unset, .unset] [(.int (5 : Int32)), (.ref a0)]) := fun t k => pre30 t (by
    refine X26.arraylength hx (by rw [e26]; exact Ar31.1) (State.isArrayOf_alike hZ.alike Ar31.2.1) (g := (mkF m 22 #[vR a0, vR a1, .unset, .unset, .unset] [(.ref a1), (.ref a0)])) rfl rfl (hb hby d4_22) _ ?_
    rw [len_of S31 M31]
    exact k)
  obtain ⟨T33, h33, kA33, X33, e33, E33, A33, st33⟩ := newP X26 hx hZ (hw _ (List.mem_of_getElem? (i := 7) rfl)) e26 (g := (mkF m 23 #[vR a0, vR a1, .unset, .unset, .unset] [(.int (5 : Int32)), (.ref a0)])) rfl (hb hby d4_23) rfl (by decide) (cap := 5) (by decide) (by decide) (by decide) (by decide)
  obtain ⟨b33, g33⟩ : ∃ z, z = h26.size := ⟨_, rfl⟩
  rw [← g33] at A33 st33
  have pre33 : Go p.tables e below S0 T33 (mkF m 25 #[vR a0, vR a1, .unset, .unset, .unset] [(.ref b33), (.ref a0)]) := fun t k => pre32 t (st33 t k)
  have ne34 : a0 ≠ b33 := Nat.ne_of_lt (Nat.lt_of_lt_of_le f27_1.lt (Nat.le_of_eq g33.symm))
  have ne35 : a1 ≠ b33 := Nat.ne_of_lt (Nat.lt_of_lt_of_le f27_7.lt (Nat.le_of_eq g33.symm))
  have ne36 : b6 ≠ b33 := Nat.ne_of_lt (Nat.lt_of_lt_of_le f27_8.lt (Nat.le_of_eq g33.symm))
  have ne37 : b19 ≠ b33 := Nat.ne_of_lt (Nat.lt_of_lt_of_le f27_9.lt (Nat.le_of_eq g33.symm))
  have bo33 : n0 ≤ b33 := Nat.le_trans zz28 (Nat.le_of_eq g33.symm)
  have ol33 : h0.size ≤ b33 := Nat.le_trans kp29.1 (Nat.le_of_eq g33.symm)
  have f38_1 := Exa.ext E33 f27_1
  have f38_2 := Fld.ext E33 f27_2
  have f38_3 := Fld.ext E33 fw26
  have f38_4 := Fld.ext E33 f27_3
  have f38_5 := Fld.ext E33 f27_4
  have f38_6 := Fld.ext E33 f27_5
  have f38_7 := Fld.ext E33 f27_6
  have f38_8 := f27_7.ext E33
  have f38_9 := f27_8.ext E33
  have f38_10 := f27_9.ext E33
  have zz39 : n0 ≤ h33.size := Nat.le_trans zz28 E33.1
  have kp40 : Keep h0 h33 [a0] := kp29.ext E33
  have av33 : Arv Z h33 b33 kA33 .long (5 : Int32) [(.long (0 : Int64)), (.long (0 : Int64)), (.long (0 : Int64)), (.long (0 : Int64)), (.long (0 : Int64))] (.long (0 : Int64)) := (Arv.new A33 (by decide)).pad (pad_rep [] (.long (0 : Int64)) 5)
  obtain ⟨T41, h41, X41, e41, W41, st41⟩ := putF X33 hx hZ hown (host := "") (Or.inl (hw _ (List.mem_of_getElem? (i := 26) rfl))) Via.refl e33 f38_4 f38_1 (Or.inr ⟨(hw _ (List.mem_of_getElem? (i := 27) rfl)), rfl, hnm⟩) (hw _ (List.mem_of_getElem? (i := 14) rfl)) (ty := (.array .long)) (by decide) rfl rfl (g := (mkF m 25 #[vR a0, vR a1, .unset, .unset, .unset] [(.ref b33), (.ref a0)])) rfl rfl (hb hby d4_25)
  have pre41 : Go p.tables e below S0 T41 (mkF m 28 #[vR a0, vR a1, .unset, .unset, .unset] []) := fun t k => pre33 t (st41 t k)
  obtain ⟨lo41, N41, X41⟩ : ∃ lo, Fr n0 lo ∧ Stand p l e ({ frames := 1, cells := 4, slots := 20, locals := 12 } : Room) s m #[(.ref a0), (.ref a1)] below meth c T41 lo 3 15 := ⟨_, Fr.snoc X41 N26 g0, X41⟩
  have fw41 : Fld Z h41 a0 "com/example/garantia/garantia/engine/StateLayout" "mask" "[J" (.ref b33) := Fld.same W41 f38_4
  have f42_1 := Exa.wr W41 f38_1
  have f42_2 := Fld.other W41 f38_2 (Or.inr (slot_ne (Or.inr (hw _ (List.mem_of_getElem? (i := 23) rfl))) (Or.inr (hw _ (List.mem_of_getElem? (i := 27) rfl))) (by decide) (t := (.array .int)) (t' := (.array .long)) (by decide) (by decide)))
  have f42_3 := Fld.other W41 f38_3 (Or.inr (slot_ne (Or.inr (hw _ (List.mem_of_getElem? (i := 25) rfl))) (Or.inr (hw _ (List.mem_of_getElem? (i := 27) rfl))) (by decide) (t := (.array .int)) (t' := (.array .long)) (by decide) (by decide)))
  have f42_4 := Fld.other W41 f38_5 (Or.inr (slot_ne (Or.inr (hw _ (List.mem_of_getElem? (i := 29) rfl))) (Or.inr (hw _ (List.mem_of_getElem? (i := 27) rfl))) (by decide) (t := (.array .long)) (t' := (.array .long)) (by decide) (by decide)))
  have f42_5 := Fld.other W41 f38_6 (Or.inr (slot_ne (Or.inr (hw _ (List.mem_of_getElem? (i := 32) rfl))) (Or.inr (hw _ (List.mem_of_getElem? (i := 27) rfl))) (by decide) (t := .int) (t' := (.array .long)) (by decide) (by decide)))
  have f42_6 := Fld.other W41 f38_7 (Or.inr (slot_ne (Or.inr (hw _ (List.mem_of_getElem? (i := 34) rfl))) (Or.inr (hw _ (List.mem_of_getElem? (i := 27) rfl))) (by decide) (t := .boolean) (t' := (.array .long)) (by decide) (by decide)))
  have f42_7 := f38_8.other W41 xe1
  have f42_8 := f38_9.other W41 (Ne.symm ne7)
  have f42_9 := f38_10.other W41 (Ne.symm ne20)
  have f42_10 := av33.other W41 (Ne.symm ne34)
  have zz43 : n0 ≤ h41.size := Nat.le_trans zz39 (Keep.of_wr W41).1
  have kp44 : Keep h0 h41 [a0] := kp40.wr W41 (Or.inl (List.mem_of_getElem? (i := 0) rfl))
  have pre45 : Go p.tables e below S0 T41 (mkF m 30 #[vR a0, vR a1, .unset, .unset, .unset] [(.ref a1), (.ref a0)]) := fun t k => pre41 t (by
    refine XS.aloadN X41.here hx rfl (hb hby d4_28) rfl rfl ?_
    refine XS.aloadN X41.here hx rfl (hb hby d4_29) rfl rfl ?_
    exact k)
  obtain ⟨cl46, Ar46, q46, S46, M46, H46, G46⟩ := id f42_7
  have pre47 : Go p.tables e below S0 T41 (mkF m 31 #[vR a0, vR a1, .unset, .unset, .unset] [(.int (5 : Int32)), (.ref a0)]) := fun t k => pre45 t (by
    refine X41.arraylength hx (by rw [e41]; exact Ar46.1) (State.isArrayOf_alike hZ.alike Ar46.2.1) (g := (mkF m 30 #[vR a0, vR a1, .unset, .unset, .unset] [(.ref a1), (.ref a0)])) rfl rfl (hb hby d4_30) _ ?_
    rw [len_of S46 M46]
    exact k)
  obtain ⟨T48, h48, kA48, X48, e48, E48, A48, st48⟩ := newP X41 hx hZ (hw _ (List.mem_of_getElem? (i := 7) rfl)) e41 (g := (mkF m 31 #[vR a0, vR a1, .unset, .unset, .unset] [(.int (5 : Int32)), (.ref a0)])) rfl (hb hby d4_31) rfl (by decide) (cap := 5) (by decide) (by decide) (by decide) (by decide)
  obtain ⟨b48, g48⟩ : ∃ z, z = h41.size := ⟨_, rfl⟩
  rw [← g48] at A48 st48
  have pre48 : Go p.tables e below S0 T48 (mkF m 33 #[vR a0, vR a1, .unset, .unset, .unset] [(.ref b48), (.ref a0)]) := fun t k => pre47 t (st48 t k)
  have ne49 : a0 ≠ b48 := Nat.ne_of_lt (Nat.lt_of_lt_of_le f42_1.lt (Nat.le_of_eq g48.symm))
  have ne50 : a1 ≠ b48 := Nat.ne_of_lt (Nat.lt_of_lt_of_le f42_7.lt (Nat.le_of_eq g48.symm))
  have ne51 : b6 ≠ b48 := Nat.ne_of_lt (Nat.lt_of_lt_of_le f42_8.lt (Nat.le_of_eq g48.symm))
  have ne52 : b19 ≠ b48 := Nat.ne_of_lt (Nat.lt_of_lt_of_le f42_9.lt (Nat.le_of_eq g48.symm))
  have ne53 : b33 ≠ b48 := Nat.ne_of_lt (Nat.lt_of_lt_of_le f42_10.lt (Nat.le_of_eq g48.symm))
  have bo48 : n0 ≤ b48 := Nat.le_trans zz43 (Nat.le_of_eq g48.symm)
  have ol48 : h0.size ≤ b48 := Nat.le_trans kp44.1 (Nat.le_of_eq g48.symm)
  have f54_1 := Exa.ext E48 f42_1
  have f54_2 := Fld.ext E48 f42_2
  have f54_3 := Fld.ext E48 f42_3
  have f54_4 := Fld.ext E48 fw41
  have f54_5 := Fld.ext E48 f42_4
  have f54_6 := Fld.ext E48 f42_5
  have f54_7 := Fld.ext E48 f42_6
  have f54_8 := f42_7.ext E48
  have f54_9 := f42_8.ext E48
  have f54_10 := f42_9.ext E48
  have f54_11 := f42_10.ext E48
  have zz55 : n0 ≤ h48.size := Nat.le_trans zz43 E48.1
  have kp56 : Keep h0 h48 [a0] := kp44.ext E48
  have av48 : Arv Z h48 b48 kA48 .long (5 : Int32) [(.long (0 : Int64)), (.long (0 : Int64)), (.long (0 : Int64)), (.long (0 : Int64)), (.long (0 : Int64))] (.long (0 : Int64)) := (Arv.new A48 (by decide)).pad (pad_rep [] (.long (0 : Int64)) 5)
  obtain ⟨T57, h57, X57, e57, W57, st57⟩ := putF X48 hx hZ hown (host := "") (Or.inl (hw _ (List.mem_of_getElem? (i := 28) rfl))) Via.refl e48 f54_5 f54_1 (Or.inr ⟨(hw _ (List.mem_of_getElem? (i := 29) rfl)), rfl, hnm⟩) (hw _ (List.mem_of_getElem? (i := 14) rfl)) (ty := (.array .long)) (by decide) rfl rfl (g := (mkF m 33 #[vR a0, vR a1, .unset, .unset, .unset] [(.ref b48), (.ref a0)])) rfl rfl (hb hby d4_33)
  have pre57 : Go p.tables e below S0 T57 (mkF m 36 #[vR a0, vR a1, .unset, .unset, .unset] []) := fun t k => pre48 t (st57 t k)
  obtain ⟨lo57, N57, X57⟩ : ∃ lo, Fr n0 lo ∧ Stand p l e ({ frames := 1, cells := 4, slots := 20, locals := 12 } : Room) s m #[(.ref a0), (.ref a1)] below meth c T57 lo 4 20 := ⟨_, Fr.snoc X57 N41 g0, X57⟩
  have fw57 : Fld Z h57 a0 "com/example/garantia/garantia/engine/StateLayout" "others" "[J" (.ref b48) := Fld.same W57 f54_5
  have f58_1 := Exa.wr W57 f54_1
  have f58_2 := Fld.other W57 f54_2 (Or.inr (slot_ne (Or.inr (hw _ (List.mem_of_getElem? (i := 23) rfl))) (Or.inr (hw _ (List.mem_of_getElem? (i := 29) rfl))) (by decide) (t := (.array .int)) (t' := (.array .long)) (by decide) (by decide)))
  have f58_3 := Fld.other W57 f54_3 (Or.inr (slot_ne (Or.inr (hw _ (List.mem_of_getElem? (i := 25) rfl))) (Or.inr (hw _ (List.mem_of_getElem? (i := 29) rfl))) (by decide) (t := (.array .int)) (t' := (.array .long)) (by decide) (by decide)))
  have f58_4 := Fld.other W57 f54_4 (Or.inr (slot_ne (Or.inr (hw _ (List.mem_of_getElem? (i := 27) rfl))) (Or.inr (hw _ (List.mem_of_getElem? (i := 29) rfl))) (by decide) (t := (.array .long)) (t' := (.array .long)) (by decide) (by decide)))
  have f58_5 := Fld.other W57 f54_6 (Or.inr (slot_ne (Or.inr (hw _ (List.mem_of_getElem? (i := 32) rfl))) (Or.inr (hw _ (List.mem_of_getElem? (i := 29) rfl))) (by decide) (t := .int) (t' := (.array .long)) (by decide) (by decide)))
  have f58_6 := Fld.other W57 f54_7 (Or.inr (slot_ne (Or.inr (hw _ (List.mem_of_getElem? (i := 34) rfl))) (Or.inr (hw _ (List.mem_of_getElem? (i := 29) rfl))) (by decide) (t := .boolean) (t' := (.array .long)) (by decide) (by decide)))
  have f58_7 := f54_8.other W57 xe1
  have f58_8 := f54_9.other W57 (Ne.symm ne7)
  have f58_9 := f54_10.other W57 (Ne.symm ne20)
  have f58_10 := f54_11.other W57 (Ne.symm ne34)
  have f58_11 := av48.other W57 (Ne.symm ne49)
  have zz59 : n0 ≤ h57.size := Nat.le_trans zz55 (Keep.of_wr W57).1
  have kp60 : Keep h0 h57 [a0] := kp56.wr W57 (Or.inl (List.mem_of_getElem? (i := 0) rfl))
  have pre61 : Go p.tables e below S0 T57 (mkF m 46 #[vR a0, vR a1, vI (0 : Int32), vI (0 : Int32), vI (0 : Int32)] [(.ref a1), (.int (0 : Int32))]) := fun t k => pre57 t (by
    refine XS.iconst X57.here hx rfl (hb hby d4_36) ?_
    refine XS.istoreN X57.here hx rfl (hb hby d4_37) rfl (l' := #[vR a0, vR a1, vI (0 : Int32), .unset, .unset]) rfl ?_
    refine XS.iconst X57.here hx rfl (hb hby d4_38) ?_
    show Steps p.tables e below (T57.setTop (mkF m 39 #[vR a0, vR a1, vI (0 : Int32), .unset, .unset] [(.int (0 : Int32))])) _
    refine XS.istoreN X57.here hx rfl (hb hby d4_39) rfl (l' := #[vR a0, vR a1, vI (0 : Int32), vI (0 : Int32), .unset]) rfl ?_
    refine XS.iconst X57.here hx rfl (hb hby d4_40) ?_
    refine XS.istore X57.here hx rfl (hb hby d4_41) rfl (l' := #[vR a0, vR a1, vI (0 : Int32), vI (0 : Int32), vI (0 : Int32)]) rfl ?_
    show Steps p.tables e below (T57.setTop (mkF m 43 #[vR a0, vR a1, vI (0 : Int32), vI (0 : Int32), vI (0 : Int32)] [])) _
    refine XS.iload X57.here hx rfl (hb hby d4_43) rfl ?_
    refine XS.aloadN X57.here hx rfl (hb hby d4_45) rfl rfl ?_
    exact k)
  obtain ⟨cl62, Ar62, q62, S62, M62, H62, G62⟩ := id f58_7
  have pre63 : Go p.tables e below S0 T57 (mkF m 54 #[vR a0, vR a1, vI (0 : Int32), vI (0 : Int32), vI (0 : Int32)] [(.int (0 : Int32)), (.ref a1), (.int (0 : Int32))]) := fun t k => pre61 t (by
    refine X57.arraylength hx (by rw [e57]; exact Ar62.1) (State.isArrayOf_alike hZ.alike Ar62.2.1) (g := (mkF m 46 #[vR a0, vR a1, vI (0 : Int32), vI (0 : Int32), vI (0 : Int32)] [(.ref a1), (.int (0 : Int32))])) rfl rfl (hb hby d4_46) _ ?_
    rw [len_of S62 M62]
    refine XS.icmpNo X57.here hx rfl (hb hby d4_47) rfl (tlt (by decide : (0 : Int32) < (5 : Int32))).2.1 ?_
    refine XS.iloadN X57.here hx rfl (hb hby d4_50) rfl ?_
    show Steps p.tables e below (T57.setTop (mkF m 51 #[vR a0, vR a1, vI (0 : Int32), vI (0 : Int32), vI (0 : Int32)] [(.int (0 : Int32))])) _
    refine XS.aloadN X57.here hx rfl (hb hby d4_51) rfl rfl ?_
    refine XS.iload X57.here hx rfl (hb hby d4_52) rfl ?_
    exact k)
  obtain ⟨cl64, Ar64, q64, S64, M64, H64, G64⟩ := id f58_7
  have in64 : ¬ ((0 : Int32) < 0 ∨ cl64.slots.size ≤ ((0 : Int32)).toNatClampNeg) := inb_of S64 ⟨by decide, by decide⟩
  have at64 : cl64.slots[((0 : Int32)).toNatClampNeg]? = some (.int w0) := H64.at in64 rfl
  have pre65 : Go p.tables e below S0 T57 (mkF m 58 #[vR a0, vR a1, vI (0 : Int32), vI (0 : Int32), vI (0 : Int32)] [(.int (64 : Int32)), (.int ((0 : Int32) + w0))]) := fun t k => pre63 t (by
    refine X57.iaload hx (j := (0 : Int32)) (v := (.int w0)) (by rw [e57]; exact Ar64.1) (State.isArrayOf_alike hZ.alike Ar64.2.1) Ar64.2.2 in64 at64 (g := (mkF m 54 #[vR a0, vR a1, vI (0 : Int32), vI (0 : Int32), vI (0 : Int32)] [(.int (0 : Int32)), (.ref a1), (.int (0 : Int32))])) rfl rfl (hb hby d4_54) _ ?_
    refine XS.iadd X57.here hx rfl (hb hby d4_55) rfl ?_
    refine XS.bipush X57.here hx rfl (hb hby d4_56) ?_
    show Steps p.tables e below (T57.setTop (mkF m 58 #[vR a0, vR a1, vI (0 : Int32), vI (0 : Int32), vI (0 : Int32)] [(.int (64 : Int32)), (.int ((0 : Int32) + w0))])) _
    exact k)
  have cc66 : ¬ ((64 : Int32) < ((0 : Int32) + w0)) := own_no1 hw0
  have pre67 : Go p.tables e below S0 T57 (mkF m 67 #[vR a0, vR a1, vI (0 : Int32), vI (0 : Int32), vI (0 : Int32)] [(.ref a0)]) := fun t k => pre65 t (by
    refine XS.icmpYes X57.here hx rfl (pc0 := 58) (pc' := 66) rfl (hb hby d4_58) rfl (flt cc66).2.2.2 (by decide) (by decide) ?_
    refine XS.aloadN X57.here hx rfl (hb hby d4_66) rfl rfl ?_
    exact k)
  obtain ⟨T68, X68, e68, st68⟩ := getF X57 hx hZ hown (host := "") (Or.inl (hw _ (List.mem_of_getElem? (i := 22) rfl))) Via.refl e57 f58_2 (g := (mkF m 67 #[vR a0, vR a1, vI (0 : Int32), vI (0 : Int32), vI (0 : Int32)] [(.ref a0)])) rfl rfl (hb hby d4_67)
  have pre68 : Go p.tables e below S0 T68 (mkF m 70 #[vR a0, vR a1, vI (0 : Int32), vI (0 : Int32), vI (0 : Int32)] [(.ref b6)]) := fun t k => pre67 t (st68 t k)
  have pre69 : Go p.tables e below S0 T68 (mkF m 73 #[vR a0, vR a1, vI (0 : Int32), vI (0 : Int32), vI (0 : Int32)] [(.int (0 : Int32)), (.int (0 : Int32)), (.ref b6)]) := fun t k => pre68 t (by
    refine XS.iload X68.here hx rfl (hb hby d4_70) rfl ?_
    refine XS.iloadN X68.here hx rfl (hb hby d4_72) rfl ?_
    exact k)
  obtain ⟨cl70, Ar70, q70, S70, M70, H70, G70⟩ := id f58_8
  have in70 : ¬ ((0 : Int32) < 0 ∨ cl70.slots.size ≤ ((0 : Int32)).toNatClampNeg) := inb_of S70 ⟨by decide, by decide⟩
  obtain ⟨T70, h70, X70, e70, W70, st70⟩ := stI X68 hx hZ e68 Ar70 (j := (0 : Int32)) in70 (g := (mkF m 73 #[vR a0, vR a1, vI (0 : Int32), vI (0 : Int32), vI (0 : Int32)] [(.int (0 : Int32)), (.int (0 : Int32)), (.ref b6)])) rfl rfl (hb hby d4_73)
  have pre70 : Go p.tables e below S0 T70 (mkF m 74 #[vR a0, vR a1, vI (0 : Int32), vI (0 : Int32), vI (0 : Int32)] []) := fun t k => pre69 t (st70 t k)
  obtain ⟨lo70, N70, X70⟩ : ∃ lo, Fr n0 lo ∧ Stand p l e ({ frames := 1, cells := 4, slots := 20, locals := 12 } : Room) s m #[(.ref a0), (.ref a1)] below meth c T70 lo 4 20 := ⟨_, Fr.snoc X70 N57 bo6, X70⟩
  have av70 : Arv Z h70 b6 kA6 .int (5 : Int32) [(.int (0 : Int32)), (.int (0 : Int32)), (.int (0 : Int32)), (.int (0 : Int32)), (.int (0 : Int32))] (.int (0 : Int32)) := Arv.set Ar70 q70 S70 M70 H70 G70 rfl W70 0 rfl (Nat.le_of_ble_eq_true rfl)
  have f71_1 := Exa.wr W70 f58_1
  have f71_2 := Fld.other W70 f58_2 (Or.inl ne7)
  have f71_3 := Fld.other W70 f58_3 (Or.inl ne7)
  have f71_4 := Fld.other W70 f58_4 (Or.inl ne7)
  have f71_5 := Fld.other W70 fw57 (Or.inl ne7)
  have f71_6 := Fld.other W70 f58_5 (Or.inl ne7)
  have f71_7 := Fld.other W70 f58_6 (Or.inl ne7)
  have f71_8 := f58_7.other W70 ne8
  have f71_9 := f58_9.other W70 (Ne.symm ne22)
  have f71_10 := f58_10.other W70 (Ne.symm ne36)
  have f71_11 := f58_11.other W70 (Ne.symm ne51)
  have zz72 : n0 ≤ h70.size := Nat.le_trans zz59 (Keep.of_wr W70).1
  have kp73 : Keep h0 h70 [a0] := kp60.wr W70 (Or.inr ol6)
  have pre74 : Go p.tables e below S0 T70 (mkF m 75 #[vR a0, vR a1, vI (0 : Int32), vI (0 : Int32), vI (0 : Int32)] [(.ref a0)]) := fun t k => pre70 t (by
    refine XS.aloadN X70.here hx rfl (hb hby d4_74) rfl rfl ?_
    exact k)
  obtain ⟨T75, X75, e75, st75⟩ := getF X70 hx hZ hown (host := "") (Or.inl (hw _ (List.mem_of_getElem? (i := 24) rfl))) Via.refl e70 f71_3 (g := (mkF m 75 #[vR a0, vR a1, vI (0 : Int32), vI (0 : Int32), vI (0 : Int32)] [(.ref a0)])) rfl rfl (hb hby d4_75)
  have pre75 : Go p.tables e below S0 T75 (mkF m 78 #[vR a0, vR a1, vI (0 : Int32), vI (0 : Int32), vI (0 : Int32)] [(.ref b19)]) := fun t k => pre74 t (st75 t k)
  have pre76 : Go p.tables e below S0 T75 (mkF m 81 #[vR a0, vR a1, vI (0 : Int32), vI (0 : Int32), vI (0 : Int32)] [(.int (0 : Int32)), (.int (0 : Int32)), (.ref b19)]) := fun t k => pre75 t (by
    refine XS.iload X75.here hx rfl (hb hby d4_78) rfl ?_
    refine XS.iloadN X75.here hx rfl (hb hby d4_80) rfl ?_
    exact k)
  obtain ⟨cl77, Ar77, q77, S77, M77, H77, G77⟩ := id f71_9
  have in77 : ¬ ((0 : Int32) < 0 ∨ cl77.slots.size ≤ ((0 : Int32)).toNatClampNeg) := inb_of S77 ⟨by decide, by decide⟩
  obtain ⟨T77, h77, X77, e77, W77, st77⟩ := stI X75 hx hZ e75 Ar77 (j := (0 : Int32)) in77 (g := (mkF m 81 #[vR a0, vR a1, vI (0 : Int32), vI (0 : Int32), vI (0 : Int32)] [(.int (0 : Int32)), (.int (0 : Int32)), (.ref b19)])) rfl rfl (hb hby d4_81)
  have pre77 : Go p.tables e below S0 T77 (mkF m 82 #[vR a0, vR a1, vI (0 : Int32), vI (0 : Int32), vI (0 : Int32)] []) := fun t k => pre76 t (st77 t k)
  obtain ⟨lo77, N77, X77⟩ : ∃ lo, Fr n0 lo ∧ Stand p l e ({ frames := 1, cells := 4, slots := 20, locals := 12 } : Room) s m #[(.ref a0), (.ref a1)] below meth c T77 lo 4 20 := ⟨_, Fr.snoc X77 N70 bo19, X77⟩
  have av77 : Arv Z h77 b19 kA19 .int (5 : Int32) [(.int (0 : Int32)), (.int (0 : Int32)), (.int (0 : Int32)), (.int (0 : Int32)), (.int (0 : Int32))] (.int (0 : Int32)) := Arv.set Ar77 q77 S77 M77 H77 G77 rfl W77 0 rfl (Nat.le_of_ble_eq_true rfl)
  have f78_1 := Exa.wr W77 f71_1
  have f78_2 := Fld.other W77 f71_2 (Or.inl ne20)
  have f78_3 := Fld.other W77 f71_3 (Or.inl ne20)
  have f78_4 := Fld.other W77 f71_4 (Or.inl ne20)
  have f78_5 := Fld.other W77 f71_5 (Or.inl ne20)
  have f78_6 := Fld.other W77 f71_6 (Or.inl ne20)
  have f78_7 := Fld.other W77 f71_7 (Or.inl ne20)
  have f78_8 := f71_8.other W77 ne21
  have f78_9 := av70.other W77 ne22
  have f78_10 := f71_10.other W77 (Ne.symm ne37)
  have f78_11 := f71_11.other W77 (Ne.symm ne52)
  have zz79 : n0 ≤ h77.size := Nat.le_trans zz72 (Keep.of_wr W77).1
  have kp80 : Keep h0 h77 [a0] := kp73.wr W77 (Or.inr ol19)
  have pre81 : Go p.tables e below S0 T77 (mkF m 83 #[vR a0, vR a1, vI (0 : Int32), vI (0 : Int32), vI (0 : Int32)] [(.ref a0)]) := fun t k => pre77 t (by
    refine XS.aloadN X77.here hx rfl (hb hby d4_82) rfl rfl ?_
    exact k)
  obtain ⟨T82, X82, e82, st82⟩ := getF X77 hx hZ hown (host := "") (Or.inl (hw _ (List.mem_of_getElem? (i := 26) rfl))) Via.refl e77 f78_4 (g := (mkF m 83 #[vR a0, vR a1, vI (0 : Int32), vI (0 : Int32), vI (0 : Int32)] [(.ref a0)])) rfl rfl (hb hby d4_83)
  have pre82 : Go p.tables e below S0 T82 (mkF m 86 #[vR a0, vR a1, vI (0 : Int32), vI (0 : Int32), vI (0 : Int32)] [(.ref b33)]) := fun t k => pre81 t (st82 t k)
  have pre83 : Go p.tables e below S0 T82 (mkF m 92 #[vR a0, vR a1, vI (0 : Int32), vI (0 : Int32), vI (0 : Int32)] [(.int (0 : Int32)), (.ref a1), (.long (1 : Int64)), (.int (0 : Int32)), (.ref b33)]) := fun t k => pre82 t (by
    refine XS.iload X82.here hx rfl (hb hby d4_86) rfl ?_
    refine XS.lconst X82.here hx rfl (hb hby d4_88) ?_
    refine XS.aloadN X82.here hx rfl (hb hby d4_89) rfl rfl ?_
    show Steps p.tables e below (T82.setTop (mkF m 90 #[vR a0, vR a1, vI (0 : Int32), vI (0 : Int32), vI (0 : Int32)] [(.ref a1), (.long (1 : Int64)), (.int (0 : Int32)), (.ref b33)])) _
    refine XS.iload X82.here hx rfl (hb hby d4_90) rfl ?_
    exact k)
  obtain ⟨cl84, Ar84, q84, S84, M84, H84, G84⟩ := id f78_8
  have in84 : ¬ ((0 : Int32) < 0 ∨ cl84.slots.size ≤ ((0 : Int32)).toNatClampNeg) := inb_of S84 ⟨by decide, by decide⟩
  have at84 : cl84.slots[((0 : Int32)).toNatClampNeg]? = some (.int w0) := H84.at in84 rfl
  have pre85 : Go p.tables e below S0 T82 (mkF m 96 #[vR a0, vR a1, vI (0 : Int32), vI (0 : Int32), vI (0 : Int32)] [(.long (((1 : Int64) <<< (w0 &&& 0x3f).toInt64) - (1 : Int64))), (.int (0 : Int32)), (.ref b33)]) := fun t k => pre83 t (by
    refine X82.iaload hx (j := (0 : Int32)) (v := (.int w0)) (by rw [e82]; exact Ar84.1) (State.isArrayOf_alike hZ.alike Ar84.2.1) Ar84.2.2 in84 at84 (g := (mkF m 92 #[vR a0, vR a1, vI (0 : Int32), vI (0 : Int32), vI (0 : Int32)] [(.int (0 : Int32)), (.ref a1), (.long (1 : Int64)), (.int (0 : Int32)), (.ref b33)])) rfl rfl (hb hby d4_92) _ ?_
    refine XS.lshl X82.here hx rfl (hb hby d4_93) rfl ?_
    refine XS.lconst X82.here hx rfl (hb hby d4_94) ?_
    show Steps p.tables e below (T82.setTop (mkF m 95 #[vR a0, vR a1, vI (0 : Int32), vI (0 : Int32), vI (0 : Int32)] [(.long (1 : Int64)), (.long ((1 : Int64) <<< (w0 &&& 0x3f).toInt64)), (.int (0 : Int32)), (.ref b33)])) _
    refine XS.lsub X82.here hx rfl (hb hby d4_95) rfl ?_
    exact k)
  obtain ⟨cl86, Ar86, q86, S86, M86, H86, G86⟩ := id f78_10
  have in86 : ¬ ((0 : Int32) < 0 ∨ cl86.slots.size ≤ ((0 : Int32)).toNatClampNeg) := inb_of S86 ⟨by decide, by decide⟩
  obtain ⟨T86, h86, X86, e86, W86, st86⟩ := stJ X82 hx hZ e82 Ar86 (j := (0 : Int32)) in86 (g := (mkF m 96 #[vR a0, vR a1, vI (0 : Int32), vI (0 : Int32), vI (0 : Int32)] [(.long (((1 : Int64) <<< (w0 &&& 0x3f).toInt64) - (1 : Int64))), (.int (0 : Int32)), (.ref b33)])) rfl rfl (hb hby d4_96)
  have pre86 : Go p.tables e below S0 T86 (mkF m 97 #[vR a0, vR a1, vI (0 : Int32), vI (0 : Int32), vI (0 : Int32)] []) := fun t k => pre85 t (st86 t k)
  obtain ⟨lo86, N86, X86⟩ : ∃ lo, Fr n0 lo ∧ Stand p l e ({ frames := 1, cells := 4, slots := 20, locals := 12 } : Room) s m #[(.ref a0), (.ref a1)] below meth c T86 lo 4 20 := ⟨_, Fr.snoc X86 N77 bo33, X86⟩
  have av86 : Arv Z h86 b33 kA33 .long (5 : Int32) [(.long (((1 : Int64) <<< (w0 &&& 0x3f).toInt64) - (1 : Int64))), (.long (0 : Int64)), (.long (0 : Int64)), (.long (0 : Int64)), (.long (0 : Int64))] (.long (0 : Int64)) := Arv.set Ar86 q86 S86 M86 H86 G86 rfl W86 0 rfl (Nat.le_of_ble_eq_true rfl)
  have f87_1 := Exa.wr W86 f78_1
  have f87_2 := Fld.other W86 f78_2 (Or.inl ne34)
  have f87_3 := Fld.other W86 f78_3 (Or.inl ne34)
  have f87_4 := Fld.other W86 f78_4 (Or.inl ne34)
  have f87_5 := Fld.other W86 f78_5 (Or.inl ne34)
  have f87_6 := Fld.other W86 f78_6 (Or.inl ne34)
  have f87_7 := Fld.other W86 f78_7 (Or.inl ne34)
  have f87_8 := f78_8.other W86 ne35
  have f87_9 := f78_9.other W86 ne36
  have f87_10 := av77.other W86 ne37
  have f87_11 := f78_11.other W86 (Ne.symm ne53)
  have zz88 : n0 ≤ h86.size := Nat.le_trans zz79 (Keep.of_wr W86).1
  have kp89 : Keep h0 h86 [a0] := kp80.wr W86 (Or.inr ol33)
  have pre90 : Go p.tables e below S0 T86 (mkF m 98 #[vR a0, vR a1, vI (0 : Int32), vI (0 : Int32), vI (0 : Int32)] [(.ref a0)]) := fun t k => pre86 t (by
    refine XS.aloadN X86.here hx rfl (hb hby d4_97) rfl rfl ?_
    exact k)
  obtain ⟨T91, X91, e91, st91⟩ := getF X86 hx hZ hown (host := "") (Or.inl (hw _ (List.mem_of_getElem? (i := 28) rfl))) Via.refl e86 f87_5 (g := (mkF m 98 #[vR a0, vR a1, vI (0 : Int32), vI (0 : Int32), vI (0 : Int32)] [(.ref a0)])) rfl rfl (hb hby d4_98)
  have pre91 : Go p.tables e below S0 T91 (mkF m 101 #[vR a0, vR a1, vI (0 : Int32), vI (0 : Int32), vI (0 : Int32)] [(.ref b48)]) := fun t k => pre90 t (st91 t k)
  have pre92 : Go p.tables e below S0 T91 (mkF m 104 #[vR a0, vR a1, vI (0 : Int32), vI (0 : Int32), vI (0 : Int32)] [(.ref a0), (.int (0 : Int32)), (.ref b48)]) := fun t k => pre91 t (by
    refine XS.iload X91.here hx rfl (hb hby d4_101) rfl ?_
    refine XS.aloadN X91.here hx rfl (hb hby d4_103) rfl rfl ?_
    exact k)
  obtain ⟨T93, X93, e93, st93⟩ := getF X91 hx hZ hown (host := "") (Or.inl (hw _ (List.mem_of_getElem? (i := 26) rfl))) Via.refl e91 f87_4 (g := (mkF m 104 #[vR a0, vR a1, vI (0 : Int32), vI (0 : Int32), vI (0 : Int32)] [(.ref a0), (.int (0 : Int32)), (.ref b48)])) rfl rfl (hb hby d4_104)
  have pre93 : Go p.tables e below S0 T93 (mkF m 107 #[vR a0, vR a1, vI (0 : Int32), vI (0 : Int32), vI (0 : Int32)] [(.ref b33), (.int (0 : Int32)), (.ref b48)]) := fun t k => pre92 t (st93 t k)
  have pre94 : Go p.tables e below S0 T93 (mkF m 109 #[vR a0, vR a1, vI (0 : Int32), vI (0 : Int32), vI (0 : Int32)] [(.int (0 : Int32)), (.ref b33), (.int (0 : Int32)), (.ref b48)]) := fun t k => pre93 t (by
    refine XS.iload X93.here hx rfl (hb hby d4_107) rfl ?_
    exact k)
  obtain ⟨cl95, Ar95, q95, S95, M95, H95, G95⟩ := id av86
  have in95 : ¬ ((0 : Int32) < 0 ∨ cl95.slots.size ≤ ((0 : Int32)).toNatClampNeg) := inb_of S95 ⟨by decide, by decide⟩
  have at95 : cl95.slots[((0 : Int32)).toNatClampNeg]? = some (.long (((1 : Int64) <<< (w0 &&& 0x3f).toInt64) - (1 : Int64))) := H95.at in95 rfl
  have pre96 : Go p.tables e below S0 T93 (mkF m 116 #[vR a0, vR a1, vI (0 : Int32), vI (0 : Int32), vI (0 : Int32)] [(.long (((((1 : Int64) <<< (w0 &&& 0x3f).toInt64) - (1 : Int64)) <<< ((0 : Int32) &&& 0x3f).toInt64) ^^^ (-1 : Int64))), (.int (0 : Int32)), (.ref b48)]) := fun t k => pre94 t (by
    refine X93.laload hx (j := (0 : Int32)) (v := (.long (((1 : Int64) <<< (w0 &&& 0x3f).toInt64) - (1 : Int64)))) (by rw [e93]; exact Ar95.1) (State.isArrayOf_alike hZ.alike Ar95.2.1) Ar95.2.2 in95 at95 (g := (mkF m 109 #[vR a0, vR a1, vI (0 : Int32), vI (0 : Int32), vI (0 : Int32)] [(.int (0 : Int32)), (.ref b33), (.int (0 : Int32)), (.ref b48)])) rfl rfl (hb hby d4_109) _ ?_
    refine XS.iloadN X93.here hx rfl (hb hby d4_110) rfl ?_
    refine XS.lshl X93.here hx rfl (hb hby d4_111) rfl ?_
    show Steps p.tables e below (T93.setTop (mkF m 112 #[vR a0, vR a1, vI (0 : Int32), vI (0 : Int32), vI (0 : Int32)] [(.long ((((1 : Int64) <<< (w0 &&& 0x3f).toInt64) - (1 : Int64)) <<< ((0 : Int32) &&& 0x3f).toInt64)), (.int (0 : Int32)), (.ref b48)])) _
    refine X93.ldc2Long hx hown (mvT hZ (hw _ (List.mem_of_getElem? (i := 30) rfl))) (g := (mkF m 112 #[vR a0, vR a1, vI (0 : Int32), vI (0 : Int32), vI (0 : Int32)] [(.long ((((1 : Int64) <<< (w0 &&& 0x3f).toInt64) - (1 : Int64)) <<< ((0 : Int32) &&& 0x3f).toInt64)), (.int (0 : Int32)), (.ref b48)])) rfl (hb hby d4_112) _ ?_
    refine XS.lxor X93.here hx rfl (hb hby d4_115) rfl ?_
    exact k)
  obtain ⟨cl97, Ar97, q97, S97, M97, H97, G97⟩ := id f87_11
  have in97 : ¬ ((0 : Int32) < 0 ∨ cl97.slots.size ≤ ((0 : Int32)).toNatClampNeg) := inb_of S97 ⟨by decide, by decide⟩
  obtain ⟨T97, h97, X97, e97, W97, st97⟩ := stJ X93 hx hZ e93 Ar97 (j := (0 : Int32)) in97 (g := (mkF m 116 #[vR a0, vR a1, vI (0 : Int32), vI (0 : Int32), vI (0 : Int32)] [(.long (((((1 : Int64) <<< (w0 &&& 0x3f).toInt64) - (1 : Int64)) <<< ((0 : Int32) &&& 0x3f).toInt64) ^^^ (-1 : Int64))), (.int (0 : Int32)), (.ref b48)])) rfl rfl (hb hby d4_116)
  have pre97 : Go p.tables e below S0 T97 (mkF m 117 #[vR a0, vR a1, vI (0 : Int32), vI (0 : Int32), vI (0 : Int32)] []) := fun t k => pre96 t (st97 t k)
  obtain ⟨lo97, N97, X97⟩ : ∃ lo, Fr n0 lo ∧ Stand p l e ({ frames := 1, cells := 4, slots := 20, locals := 12 } : Room) s m #[(.ref a0), (.ref a1)] below meth c T97 lo 4 20 := ⟨_, Fr.snoc X97 N86 bo48, X97⟩
  have av97 : Arv Z h97 b48 kA48 .long (5 : Int32) [(.long (((((1 : Int64) <<< (w0 &&& 0x3f).toInt64) - (1 : Int64)) <<< ((0 : Int32) &&& 0x3f).toInt64) ^^^ (-1 : Int64))), (.long (0 : Int64)), (.long (0 : Int64)), (.long (0 : Int64)), (.long (0 : Int64))] (.long (0 : Int64)) := Arv.set Ar97 q97 S97 M97 H97 G97 rfl W97 0 rfl (Nat.le_of_ble_eq_true rfl)
  have f98_1 := Exa.wr W97 f87_1
  have f98_2 := Fld.other W97 f87_2 (Or.inl ne49)
  have f98_3 := Fld.other W97 f87_3 (Or.inl ne49)
  have f98_4 := Fld.other W97 f87_4 (Or.inl ne49)
  have f98_5 := Fld.other W97 f87_5 (Or.inl ne49)
  have f98_6 := Fld.other W97 f87_6 (Or.inl ne49)
  have f98_7 := Fld.other W97 f87_7 (Or.inl ne49)
  have f98_8 := f87_8.other W97 ne50
  have f98_9 := f87_9.other W97 ne51
  have f98_10 := f87_10.other W97 ne52
  have f98_11 := av86.other W97 ne53
  have zz99 : n0 ≤ h97.size := Nat.le_trans zz88 (Keep.of_wr W97).1
  have kp100 : Keep h0 h97 [a0] := kp89.wr W97 (Or.inr ol48)
  have pre101 : Go p.tables e below S0 T97 (mkF m 121 #[vR a0, vR a1, vI (0 : Int32), vI (0 : Int32), vI (0 : Int32)] [(.int (0 : Int32)), (.ref a1), (.int (0 : Int32))]) := fun t k => pre97 t (by
    refine XS.iloadN X97.here hx rfl (hb hby d4_117) rfl ?_
    refine XS.aloadN X97.here hx rfl (hb hby d4_118) rfl rfl ?_
    refine XS.iload X97.here hx rfl (hb hby d4_119) rfl ?_
    show Steps p.tables e below (T97.setTop (mkF m 121 #[vR a0, vR a1, vI (0 : Int32), vI (0 : Int32), vI (0 : Int32)] [(.int (0 : Int32)), (.ref a1), (.int (0 : Int32))])) _
    exact k)
  obtain ⟨cl102, Ar102, q102, S102, M102, H102, G102⟩ := id f98_8
  have in102 : ¬ ((0 : Int32) < 0 ∨ cl102.slots.size ≤ ((0 : Int32)).toNatClampNeg) := inb_of S102 ⟨by decide, by decide⟩
  have at102 : cl102.slots[((0 : Int32)).toNatClampNeg]? = some (.int w0) := H102.at in102 rfl
  have pre103 : Go p.tables e below S0 T97 (mkF m 46 #[vR a0, vR a1, vI ((0 : Int32) + w0), vI (0 : Int32), vI (1 : Int32)] [(.ref a1), (.int (1 : Int32))]) := fun t k => pre101 t (by
    refine X97.iaload hx (j := (0 : Int32)) (v := (.int w0)) (by rw [e97]; exact Ar102.1) (State.isArrayOf_alike hZ.alike Ar102.2.1) Ar102.2.2 in102 at102 (g := (mkF m 121 #[vR a0, vR a1, vI (0 : Int32), vI (0 : Int32), vI (0 : Int32)] [(.int (0 : Int32)), (.ref a1), (.int (0 : Int32))])) rfl rfl (hb hby d4_121) _ ?_
    refine XS.iadd X97.here hx rfl (hb hby d4_122) rfl ?_
    refine XS.istoreN X97.here hx rfl (hb hby d4_123) rfl (l' := #[vR a0, vR a1, vI ((0 : Int32) + w0), vI (0 : Int32), vI (0 : Int32)]) rfl ?_
    show Steps p.tables e below (T97.setTop (mkF m 124 #[vR a0, vR a1, vI ((0 : Int32) + w0), vI (0 : Int32), vI (0 : Int32)] [])) _
    refine XS.iinc X97.here hx rfl (hb hby d4_124) rfl (l' := #[vR a0, vR a1, vI ((0 : Int32) + w0), vI (0 : Int32), vI (1 : Int32)]) rfl ?_
    refine XS.goto X97.here hx rfl (pc0 := 127) (pc' := 43) rfl (hb hby d4_127) (by decide) (by decide) ?_
    refine XS.iload X97.here hx rfl (hb hby d4_43) rfl ?_
    show Steps p.tables e below (T97.setTop (mkF m 45 #[vR a0, vR a1, vI ((0 : Int32) + w0), vI (0 : Int32), vI (1 : Int32)] [(.int (1 : Int32))])) _
    refine XS.aloadN X97.here hx rfl (hb hby d4_45) rfl rfl ?_
    exact k)
  obtain ⟨cl104, Ar104, q104, S104, M104, H104, G104⟩ := id f98_8
  have pre105 : Go p.tables e below S0 T97 (mkF m 54 #[vR a0, vR a1, vI ((0 : Int32) + w0), vI (0 : Int32), vI (1 : Int32)] [(.int (1 : Int32)), (.ref a1), (.int ((0 : Int32) + w0))]) := fun t k => pre103 t (by
    refine X97.arraylength hx (by rw [e97]; exact Ar104.1) (State.isArrayOf_alike hZ.alike Ar104.2.1) (g := (mkF m 46 #[vR a0, vR a1, vI ((0 : Int32) + w0), vI (0 : Int32), vI (1 : Int32)] [(.ref a1), (.int (1 : Int32))])) rfl rfl (hb hby d4_46) _ ?_
    rw [len_of S104 M104]
    refine XS.icmpNo X97.here hx rfl (hb hby d4_47) rfl (tlt (by decide : (1 : Int32) < (5 : Int32))).2.1 ?_
    refine XS.iloadN X97.here hx rfl (hb hby d4_50) rfl ?_
    show Steps p.tables e below (T97.setTop (mkF m 51 #[vR a0, vR a1, vI ((0 : Int32) + w0), vI (0 : Int32), vI (1 : Int32)] [(.int ((0 : Int32) + w0))])) _
    refine XS.aloadN X97.here hx rfl (hb hby d4_51) rfl rfl ?_
    refine XS.iload X97.here hx rfl (hb hby d4_52) rfl ?_
    exact k)
  obtain ⟨cl106, Ar106, q106, S106, M106, H106, G106⟩ := id f98_8
  have in106 : ¬ ((1 : Int32) < 0 ∨ cl106.slots.size ≤ ((1 : Int32)).toNatClampNeg) := inb_of S106 ⟨by decide, by decide⟩
  have at106 : cl106.slots[((1 : Int32)).toNatClampNeg]? = some (.int w1) := H106.at in106 rfl
  have pre107 : Go p.tables e below S0 T97 (mkF m 58 #[vR a0, vR a1, vI ((0 : Int32) + w0), vI (0 : Int32), vI (1 : Int32)] [(.int (64 : Int32)), (.int (((0 : Int32) + w0) + w1))]) := fun t k => pre105 t (by
    refine X97.iaload hx (j := (1 : Int32)) (v := (.int w1)) (by rw [e97]; exact Ar106.1) (State.isArrayOf_alike hZ.alike Ar106.2.1) Ar106.2.2 in106 at106 (g := (mkF m 54 #[vR a0, vR a1, vI ((0 : Int32) + w0), vI (0 : Int32), vI (1 : Int32)] [(.int (1 : Int32)), (.ref a1), (.int ((0 : Int32) + w0))])) rfl rfl (hb hby d4_54) _ ?_
    refine XS.iadd X97.here hx rfl (hb hby d4_55) rfl ?_
    refine XS.bipush X97.here hx rfl (hb hby d4_56) ?_
    show Steps p.tables e below (T97.setTop (mkF m 58 #[vR a0, vR a1, vI ((0 : Int32) + w0), vI (0 : Int32), vI (1 : Int32)] [(.int (64 : Int32)), (.int (((0 : Int32) + w0) + w1))])) _
    exact k)
  have cc108 : ¬ ((64 : Int32) < (((0 : Int32) + w0) + w1)) := own_no2 hw0 hw1
  have pre109 : Go p.tables e below S0 T97 (mkF m 67 #[vR a0, vR a1, vI ((0 : Int32) + w0), vI (0 : Int32), vI (1 : Int32)] [(.ref a0)]) := fun t k => pre107 t (by
    refine XS.icmpYes X97.here hx rfl (pc0 := 58) (pc' := 66) rfl (hb hby d4_58) rfl (flt cc108).2.2.2 (by decide) (by decide) ?_
    refine XS.aloadN X97.here hx rfl (hb hby d4_66) rfl rfl ?_
    exact k)
  obtain ⟨T110, X110, e110, st110⟩ := getF X97 hx hZ hown (host := "") (Or.inl (hw _ (List.mem_of_getElem? (i := 22) rfl))) Via.refl e97 f98_2 (g := (mkF m 67 #[vR a0, vR a1, vI ((0 : Int32) + w0), vI (0 : Int32), vI (1 : Int32)] [(.ref a0)])) rfl rfl (hb hby d4_67)
  have pre110 : Go p.tables e below S0 T110 (mkF m 70 #[vR a0, vR a1, vI ((0 : Int32) + w0), vI (0 : Int32), vI (1 : Int32)] [(.ref b6)]) := fun t k => pre109 t (st110 t k)
  have pre111 : Go p.tables e below S0 T110 (mkF m 73 #[vR a0, vR a1, vI ((0 : Int32) + w0), vI (0 : Int32), vI (1 : Int32)] [(.int (0 : Int32)), (.int (1 : Int32)), (.ref b6)]) := fun t k => pre110 t (by
    refine XS.iload X110.here hx rfl (hb hby d4_70) rfl ?_
    refine XS.iloadN X110.here hx rfl (hb hby d4_72) rfl ?_
    exact k)
  obtain ⟨cl112, Ar112, q112, S112, M112, H112, G112⟩ := id f98_9
  have in112 : ¬ ((1 : Int32) < 0 ∨ cl112.slots.size ≤ ((1 : Int32)).toNatClampNeg) := inb_of S112 ⟨by decide, by decide⟩
  obtain ⟨T112, h112, X112, e112, W112, st112⟩ := stI X110 hx hZ e110 Ar112 (j := (1 : Int32)) in112 (g := (mkF m 73 #[vR a0, vR a1, vI ((0 : Int32) + w0), vI (0 : Int32), vI (1 : Int32)] [(.int (0 : Int32)), (.int (1 : Int32)), (.ref b6)])) rfl rfl (hb hby d4_73)
  have pre112 : Go p.tables e below S0 T112 (mkF m 74 #[vR a0, vR a1, vI ((0 : Int32) + w0), vI (0 : Int32), vI (1 : Int32)] []) := fun t k => pre111 t (st112 t k)
  obtain ⟨lo112, N112, X112⟩ : ∃ lo, Fr n0 lo ∧ Stand p l e ({ frames := 1, cells := 4, slots := 20, locals := 12 } : Room) s m #[(.ref a0), (.ref a1)] below meth c T112 lo 4 20 := ⟨_, Fr.snoc X112 N97 bo6, X112⟩
  have av112 : Arv Z h112 b6 kA6 .int (5 : Int32) [(.int (0 : Int32)), (.int (0 : Int32)), (.int (0 : Int32)), (.int (0 : Int32)), (.int (0 : Int32))] (.int (0 : Int32)) := Arv.set Ar112 q112 S112 M112 H112 G112 rfl W112 1 rfl (Nat.le_of_ble_eq_true rfl)
  have f113_1 := Exa.wr W112 f98_1
  have f113_2 := Fld.other W112 f98_2 (Or.inl ne7)
  have f113_3 := Fld.other W112 f98_3 (Or.inl ne7)
  have f113_4 := Fld.other W112 f98_4 (Or.inl ne7)
  have f113_5 := Fld.other W112 f98_5 (Or.inl ne7)
  have f113_6 := Fld.other W112 f98_6 (Or.inl ne7)
  have f113_7 := Fld.other W112 f98_7 (Or.inl ne7)
  have f113_8 := f98_8.other W112 ne8
  have f113_9 := f98_10.other W112 (Ne.symm ne22)
  have f113_10 := f98_11.other W112 (Ne.symm ne36)
  have f113_11 := av97.other W112 (Ne.symm ne51)
  have zz114 : n0 ≤ h112.size := Nat.le_trans zz99 (Keep.of_wr W112).1
  have kp115 : Keep h0 h112 [a0] := kp100.wr W112 (Or.inr ol6)
  have pre116 : Go p.tables e below S0 T112 (mkF m 75 #[vR a0, vR a1, vI ((0 : Int32) + w0), vI (0 : Int32), vI (1 : Int32)] [(.ref a0)]) := fun t k => pre112 t (by
    refine XS.aloadN X112.here hx rfl (hb hby d4_74) rfl rfl ?_
    exact k)
  obtain ⟨T117, X117, e117, st117⟩ := getF X112 hx hZ hown (host := "") (Or.inl (hw _ (List.mem_of_getElem? (i := 24) rfl))) Via.refl e112 f113_3 (g := (mkF m 75 #[vR a0, vR a1, vI ((0 : Int32) + w0), vI (0 : Int32), vI (1 : Int32)] [(.ref a0)])) rfl rfl (hb hby d4_75)
  have pre117 : Go p.tables e below S0 T117 (mkF m 78 #[vR a0, vR a1, vI ((0 : Int32) + w0), vI (0 : Int32), vI (1 : Int32)] [(.ref b19)]) := fun t k => pre116 t (st117 t k)
  have pre118 : Go p.tables e below S0 T117 (mkF m 81 #[vR a0, vR a1, vI ((0 : Int32) + w0), vI (0 : Int32), vI (1 : Int32)] [(.int ((0 : Int32) + w0)), (.int (1 : Int32)), (.ref b19)]) := fun t k => pre117 t (by
    refine XS.iload X117.here hx rfl (hb hby d4_78) rfl ?_
    refine XS.iloadN X117.here hx rfl (hb hby d4_80) rfl ?_
    exact k)
  obtain ⟨cl119, Ar119, q119, S119, M119, H119, G119⟩ := id f113_9
  have in119 : ¬ ((1 : Int32) < 0 ∨ cl119.slots.size ≤ ((1 : Int32)).toNatClampNeg) := inb_of S119 ⟨by decide, by decide⟩
  obtain ⟨T119, h119, X119, e119, W119, st119⟩ := stI X117 hx hZ e117 Ar119 (j := (1 : Int32)) in119 (g := (mkF m 81 #[vR a0, vR a1, vI ((0 : Int32) + w0), vI (0 : Int32), vI (1 : Int32)] [(.int ((0 : Int32) + w0)), (.int (1 : Int32)), (.ref b19)])) rfl rfl (hb hby d4_81)
  have pre119 : Go p.tables e below S0 T119 (mkF m 82 #[vR a0, vR a1, vI ((0 : Int32) + w0), vI (0 : Int32), vI (1 : Int32)] []) := fun t k => pre118 t (st119 t k)
  obtain ⟨lo119, N119, X119⟩ : ∃ lo, Fr n0 lo ∧ Stand p l e ({ frames := 1, cells := 4, slots := 20, locals := 12 } : Room) s m #[(.ref a0), (.ref a1)] below meth c T119 lo 4 20 := ⟨_, Fr.snoc X119 N112 bo19, X119⟩
  have av119 : Arv Z h119 b19 kA19 .int (5 : Int32) [(.int (0 : Int32)), (.int ((0 : Int32) + w0)), (.int (0 : Int32)), (.int (0 : Int32)), (.int (0 : Int32))] (.int (0 : Int32)) := Arv.set Ar119 q119 S119 M119 H119 G119 rfl W119 1 rfl (Nat.le_of_ble_eq_true rfl)
  have f120_1 := Exa.wr W119 f113_1
  have f120_2 := Fld.other W119 f113_2 (Or.inl ne20)
  have f120_3 := Fld.other W119 f113_3 (Or.inl ne20)
  have f120_4 := Fld.other W119 f113_4 (Or.inl ne20)
  have f120_5 := Fld.other W119 f113_5 (Or.inl ne20)
  have f120_6 := Fld.other W119 f113_6 (Or.inl ne20)
  have f120_7 := Fld.other W119 f113_7 (Or.inl ne20)
  have f120_8 := f113_8.other W119 ne21
  have f120_9 := av112.other W119 ne22
  have f120_10 := f113_10.other W119 (Ne.symm ne37)
  have f120_11 := f113_11.other W119 (Ne.symm ne52)
  have zz121 : n0 ≤ h119.size := Nat.le_trans zz114 (Keep.of_wr W119).1
  have kp122 : Keep h0 h119 [a0] := kp115.wr W119 (Or.inr ol19)
  have pre123 : Go p.tables e below S0 T119 (mkF m 83 #[vR a0, vR a1, vI ((0 : Int32) + w0), vI (0 : Int32), vI (1 : Int32)] [(.ref a0)]) := fun t k => pre119 t (by
    refine XS.aloadN X119.here hx rfl (hb hby d4_82) rfl rfl ?_
    exact k)
  obtain ⟨T124, X124, e124, st124⟩ := getF X119 hx hZ hown (host := "") (Or.inl (hw _ (List.mem_of_getElem? (i := 26) rfl))) Via.refl e119 f120_4 (g := (mkF m 83 #[vR a0, vR a1, vI ((0 : Int32) + w0), vI (0 : Int32), vI (1 : Int32)] [(.ref a0)])) rfl rfl (hb hby d4_83)
  have pre124 : Go p.tables e below S0 T124 (mkF m 86 #[vR a0, vR a1, vI ((0 : Int32) + w0), vI (0 : Int32), vI (1 : Int32)] [(.ref b33)]) := fun t k => pre123 t (st124 t k)
  have pre125 : Go p.tables e below S0 T124 (mkF m 92 #[vR a0, vR a1, vI ((0 : Int32) + w0), vI (0 : Int32), vI (1 : Int32)] [(.int (1 : Int32)), (.ref a1), (.long (1 : Int64)), (.int (1 : Int32)), (.ref b33)]) := fun t k => pre124 t (by
    refine XS.iload X124.here hx rfl (hb hby d4_86) rfl ?_
    refine XS.lconst X124.here hx rfl (hb hby d4_88) ?_
    refine XS.aloadN X124.here hx rfl (hb hby d4_89) rfl rfl ?_
    show Steps p.tables e below (T124.setTop (mkF m 90 #[vR a0, vR a1, vI ((0 : Int32) + w0), vI (0 : Int32), vI (1 : Int32)] [(.ref a1), (.long (1 : Int64)), (.int (1 : Int32)), (.ref b33)])) _
    refine XS.iload X124.here hx rfl (hb hby d4_90) rfl ?_
    exact k)
  obtain ⟨cl126, Ar126, q126, S126, M126, H126, G126⟩ := id f120_8
  have in126 : ¬ ((1 : Int32) < 0 ∨ cl126.slots.size ≤ ((1 : Int32)).toNatClampNeg) := inb_of S126 ⟨by decide, by decide⟩
  have at126 : cl126.slots[((1 : Int32)).toNatClampNeg]? = some (.int w1) := H126.at in126 rfl
  have pre127 : Go p.tables e below S0 T124 (mkF m 96 #[vR a0, vR a1, vI ((0 : Int32) + w0), vI (0 : Int32), vI (1 : Int32)] [(.long (((1 : Int64) <<< (w1 &&& 0x3f).toInt64) - (1 : Int64))), (.int (1 : Int32)), (.ref b33)]) := fun t k => pre125 t (by
    refine X124.iaload hx (j := (1 : Int32)) (v := (.int w1)) (by rw [e124]; exact Ar126.1) (State.isArrayOf_alike hZ.alike Ar126.2.1) Ar126.2.2 in126 at126 (g := (mkF m 92 #[vR a0, vR a1, vI ((0 : Int32) + w0), vI (0 : Int32), vI (1 : Int32)] [(.int (1 : Int32)), (.ref a1), (.long (1 : Int64)), (.int (1 : Int32)), (.ref b33)])) rfl rfl (hb hby d4_92) _ ?_
    refine XS.lshl X124.here hx rfl (hb hby d4_93) rfl ?_
    refine XS.lconst X124.here hx rfl (hb hby d4_94) ?_
    show Steps p.tables e below (T124.setTop (mkF m 95 #[vR a0, vR a1, vI ((0 : Int32) + w0), vI (0 : Int32), vI (1 : Int32)] [(.long (1 : Int64)), (.long ((1 : Int64) <<< (w1 &&& 0x3f).toInt64)), (.int (1 : Int32)), (.ref b33)])) _
    refine XS.lsub X124.here hx rfl (hb hby d4_95) rfl ?_
    exact k)
  obtain ⟨cl128, Ar128, q128, S128, M128, H128, G128⟩ := id f120_10
  have in128 : ¬ ((1 : Int32) < 0 ∨ cl128.slots.size ≤ ((1 : Int32)).toNatClampNeg) := inb_of S128 ⟨by decide, by decide⟩
  obtain ⟨T128, h128, X128, e128, W128, st128⟩ := stJ X124 hx hZ e124 Ar128 (j := (1 : Int32)) in128 (g := (mkF m 96 #[vR a0, vR a1, vI ((0 : Int32) + w0), vI (0 : Int32), vI (1 : Int32)] [(.long (((1 : Int64) <<< (w1 &&& 0x3f).toInt64) - (1 : Int64))), (.int (1 : Int32)), (.ref b33)])) rfl rfl (hb hby d4_96)
  have pre128 : Go p.tables e below S0 T128 (mkF m 97 #[vR a0, vR a1, vI ((0 : Int32) + w0), vI (0 : Int32), vI (1 : Int32)] []) := fun t k => pre127 t (st128 t k)
  obtain ⟨lo128, N128, X128⟩ : ∃ lo, Fr n0 lo ∧ Stand p l e ({ frames := 1, cells := 4, slots := 20, locals := 12 } : Room) s m #[(.ref a0), (.ref a1)] below meth c T128 lo 4 20 := ⟨_, Fr.snoc X128 N119 bo33, X128⟩
  have av128 : Arv Z h128 b33 kA33 .long (5 : Int32) [(.long (((1 : Int64) <<< (w0 &&& 0x3f).toInt64) - (1 : Int64))), (.long (((1 : Int64) <<< (w1 &&& 0x3f).toInt64) - (1 : Int64))), (.long (0 : Int64)), (.long (0 : Int64)), (.long (0 : Int64))] (.long (0 : Int64)) := Arv.set Ar128 q128 S128 M128 H128 G128 rfl W128 1 rfl (Nat.le_of_ble_eq_true rfl)
  have f129_1 := Exa.wr W128 f120_1
  have f129_2 := Fld.other W128 f120_2 (Or.inl ne34)
  have f129_3 := Fld.other W128 f120_3 (Or.inl ne34)
  have f129_4 := Fld.other W128 f120_4 (Or.inl ne34)
  have f129_5 := Fld.other W128 f120_5 (Or.inl ne34)
  have f129_6 := Fld.other W128 f120_6 (Or.inl ne34)
  have f129_7 := Fld.other W128 f120_7 (Or.inl ne34)
  have f129_8 := f120_8.other W128 ne35
  have f129_9 := f120_9.other W128 ne36
  have f129_10 := av119.other W128 ne37
  have f129_11 := f120_11.other W128 (Ne.symm ne53)
  have zz130 : n0 ≤ h128.size := Nat.le_trans zz121 (Keep.of_wr W128).1
  have kp131 : Keep h0 h128 [a0] := kp122.wr W128 (Or.inr ol33)
  have pre132 : Go p.tables e below S0 T128 (mkF m 98 #[vR a0, vR a1, vI ((0 : Int32) + w0), vI (0 : Int32), vI (1 : Int32)] [(.ref a0)]) := fun t k => pre128 t (by
    refine XS.aloadN X128.here hx rfl (hb hby d4_97) rfl rfl ?_
    exact k)
  obtain ⟨T133, X133, e133, st133⟩ := getF X128 hx hZ hown (host := "") (Or.inl (hw _ (List.mem_of_getElem? (i := 28) rfl))) Via.refl e128 f129_5 (g := (mkF m 98 #[vR a0, vR a1, vI ((0 : Int32) + w0), vI (0 : Int32), vI (1 : Int32)] [(.ref a0)])) rfl rfl (hb hby d4_98)
  have pre133 : Go p.tables e below S0 T133 (mkF m 101 #[vR a0, vR a1, vI ((0 : Int32) + w0), vI (0 : Int32), vI (1 : Int32)] [(.ref b48)]) := fun t k => pre132 t (st133 t k)
  have pre134 : Go p.tables e below S0 T133 (mkF m 104 #[vR a0, vR a1, vI ((0 : Int32) + w0), vI (0 : Int32), vI (1 : Int32)] [(.ref a0), (.int (1 : Int32)), (.ref b48)]) := fun t k => pre133 t (by
    refine XS.iload X133.here hx rfl (hb hby d4_101) rfl ?_
    refine XS.aloadN X133.here hx rfl (hb hby d4_103) rfl rfl ?_
    exact k)
  obtain ⟨T135, X135, e135, st135⟩ := getF X133 hx hZ hown (host := "") (Or.inl (hw _ (List.mem_of_getElem? (i := 26) rfl))) Via.refl e133 f129_4 (g := (mkF m 104 #[vR a0, vR a1, vI ((0 : Int32) + w0), vI (0 : Int32), vI (1 : Int32)] [(.ref a0), (.int (1 : Int32)), (.ref b48)])) rfl rfl (hb hby d4_104)
  have pre135 : Go p.tables e below S0 T135 (mkF m 107 #[vR a0, vR a1, vI ((0 : Int32) + w0), vI (0 : Int32), vI (1 : Int32)] [(.ref b33), (.int (1 : Int32)), (.ref b48)]) := fun t k => pre134 t (st135 t k)
  have pre136 : Go p.tables e below S0 T135 (mkF m 109 #[vR a0, vR a1, vI ((0 : Int32) + w0), vI (0 : Int32), vI (1 : Int32)] [(.int (1 : Int32)), (.ref b33), (.int (1 : Int32)), (.ref b48)]) := fun t k => pre135 t (by
    refine XS.iload X135.here hx rfl (hb hby d4_107) rfl ?_
    exact k)
  obtain ⟨cl137, Ar137, q137, S137, M137, H137, G137⟩ := id av128
  have in137 : ¬ ((1 : Int32) < 0 ∨ cl137.slots.size ≤ ((1 : Int32)).toNatClampNeg) := inb_of S137 ⟨by decide, by decide⟩
  have at137 : cl137.slots[((1 : Int32)).toNatClampNeg]? = some (.long (((1 : Int64) <<< (w1 &&& 0x3f).toInt64) - (1 : Int64))) := H137.at in137 rfl
  have pre138 : Go p.tables e below S0 T135 (mkF m 116 #[vR a0, vR a1, vI ((0 : Int32) + w0), vI (0 : Int32), vI (1 : Int32)] [(.long (((((1 : Int64) <<< (w1 &&& 0x3f).toInt64) - (1 : Int64)) <<< (((0 : Int32) + w0) &&& 0x3f).toInt64) ^^^ (-1 : Int64))), (.int (1 : Int32)), (.ref b48)]) := fun t k => pre136 t (by
    refine X135.laload hx (j := (1 : Int32)) (v := (.long (((1 : Int64) <<< (w1 &&& 0x3f).toInt64) - (1 : Int64)))) (by rw [e135]; exact Ar137.1) (State.isArrayOf_alike hZ.alike Ar137.2.1) Ar137.2.2 in137 at137 (g := (mkF m 109 #[vR a0, vR a1, vI ((0 : Int32) + w0), vI (0 : Int32), vI (1 : Int32)] [(.int (1 : Int32)), (.ref b33), (.int (1 : Int32)), (.ref b48)])) rfl rfl (hb hby d4_109) _ ?_
    refine XS.iloadN X135.here hx rfl (hb hby d4_110) rfl ?_
    refine XS.lshl X135.here hx rfl (hb hby d4_111) rfl ?_
    show Steps p.tables e below (T135.setTop (mkF m 112 #[vR a0, vR a1, vI ((0 : Int32) + w0), vI (0 : Int32), vI (1 : Int32)] [(.long ((((1 : Int64) <<< (w1 &&& 0x3f).toInt64) - (1 : Int64)) <<< (((0 : Int32) + w0) &&& 0x3f).toInt64)), (.int (1 : Int32)), (.ref b48)])) _
    refine X135.ldc2Long hx hown (mvT hZ (hw _ (List.mem_of_getElem? (i := 30) rfl))) (g := (mkF m 112 #[vR a0, vR a1, vI ((0 : Int32) + w0), vI (0 : Int32), vI (1 : Int32)] [(.long ((((1 : Int64) <<< (w1 &&& 0x3f).toInt64) - (1 : Int64)) <<< (((0 : Int32) + w0) &&& 0x3f).toInt64)), (.int (1 : Int32)), (.ref b48)])) rfl (hb hby d4_112) _ ?_
    refine XS.lxor X135.here hx rfl (hb hby d4_115) rfl ?_
    exact k)
  obtain ⟨cl139, Ar139, q139, S139, M139, H139, G139⟩ := id f129_11
  have in139 : ¬ ((1 : Int32) < 0 ∨ cl139.slots.size ≤ ((1 : Int32)).toNatClampNeg) := inb_of S139 ⟨by decide, by decide⟩
  obtain ⟨T139, h139, X139, e139, W139, st139⟩ := stJ X135 hx hZ e135 Ar139 (j := (1 : Int32)) in139 (g := (mkF m 116 #[vR a0, vR a1, vI ((0 : Int32) + w0), vI (0 : Int32), vI (1 : Int32)] [(.long (((((1 : Int64) <<< (w1 &&& 0x3f).toInt64) - (1 : Int64)) <<< (((0 : Int32) + w0) &&& 0x3f).toInt64) ^^^ (-1 : Int64))), (.int (1 : Int32)), (.ref b48)])) rfl rfl (hb hby d4_116)
  have pre139 : Go p.tables e below S0 T139 (mkF m 117 #[vR a0, vR a1, vI ((0 : Int32) + w0), vI (0 : Int32), vI (1 : Int32)] []) := fun t k => pre138 t (st139 t k)
  obtain ⟨lo139, N139, X139⟩ : ∃ lo, Fr n0 lo ∧ Stand p l e ({ frames := 1, cells := 4, slots := 20, locals := 12 } : Room) s m #[(.ref a0), (.ref a1)] below meth c T139 lo 4 20 := ⟨_, Fr.snoc X139 N128 bo48, X139⟩
  have av139 : Arv Z h139 b48 kA48 .long (5 : Int32) [(.long (((((1 : Int64) <<< (w0 &&& 0x3f).toInt64) - (1 : Int64)) <<< ((0 : Int32) &&& 0x3f).toInt64) ^^^ (-1 : Int64))), (.long (((((1 : Int64) <<< (w1 &&& 0x3f).toInt64) - (1 : Int64)) <<< (((0 : Int32) + w0) &&& 0x3f).toInt64) ^^^ (-1 : Int64))), (.long (0 : Int64)), (.long (0 : Int64)), (.long (0 : Int64))] (.long (0 : Int64)) := Arv.set Ar139 q139 S139 M139 H139 G139 rfl W139 1 rfl (Nat.le_of_ble_eq_true rfl)
  have f140_1 := Exa.wr W139 f129_1
  have f140_2 := Fld.other W139 f129_2 (Or.inl ne49)
  have f140_3 := Fld.other W139 f129_3 (Or.inl ne49)
  have f140_4 := Fld.other W139 f129_4 (Or.inl ne49)
  have f140_5 := Fld.other W139 f129_5 (Or.inl ne49)
  have f140_6 := Fld.other W139 f129_6 (Or.inl ne49)
  have f140_7 := Fld.other W139 f129_7 (Or.inl ne49)
  have f140_8 := f129_8.other W139 ne50
  have f140_9 := f129_9.other W139 ne51
  have f140_10 := f129_10.other W139 ne52
  have f140_11 := av128.other W139 ne53
  have zz141 : n0 ≤ h139.size := Nat.le_trans zz130 (Keep.of_wr W139).1
  have kp142 : Keep h0 h139 [a0] := kp131.wr W139 (Or.inr ol48)
  have pre143 : Go p.tables e below S0 T139 (mkF m 121 #[vR a0, vR a1, vI ((0 : Int32) + w0), vI (0 : Int32), vI (1 : Int32)] [(.int (1 : Int32)), (.ref a1), (.int ((0 : Int32) + w0))]) := fun t k => pre139 t (by
    refine XS.iloadN X139.here hx rfl (hb hby d4_117) rfl ?_
    refine XS.aloadN X139.here hx rfl (hb hby d4_118) rfl rfl ?_
    refine XS.iload X139.here hx rfl (hb hby d4_119) rfl ?_
    show Steps p.tables e below (T139.setTop (mkF m 121 #[vR a0, vR a1, vI ((0 : Int32) + w0), vI (0 : Int32), vI (1 : Int32)] [(.int (1 : Int32)), (.ref a1), (.int ((0 : Int32) + w0))])) _
    exact k)
  obtain ⟨cl144, Ar144, q144, S144, M144, H144, G144⟩ := id f140_8
  have in144 : ¬ ((1 : Int32) < 0 ∨ cl144.slots.size ≤ ((1 : Int32)).toNatClampNeg) := inb_of S144 ⟨by decide, by decide⟩
  have at144 : cl144.slots[((1 : Int32)).toNatClampNeg]? = some (.int w1) := H144.at in144 rfl
  have pre145 : Go p.tables e below S0 T139 (mkF m 46 #[vR a0, vR a1, vI (((0 : Int32) + w0) + w1), vI (0 : Int32), vI (2 : Int32)] [(.ref a1), (.int (2 : Int32))]) := fun t k => pre143 t (by
    refine X139.iaload hx (j := (1 : Int32)) (v := (.int w1)) (by rw [e139]; exact Ar144.1) (State.isArrayOf_alike hZ.alike Ar144.2.1) Ar144.2.2 in144 at144 (g := (mkF m 121 #[vR a0, vR a1, vI ((0 : Int32) + w0), vI (0 : Int32), vI (1 : Int32)] [(.int (1 : Int32)), (.ref a1), (.int ((0 : Int32) + w0))])) rfl rfl (hb hby d4_121) _ ?_
    refine XS.iadd X139.here hx rfl (hb hby d4_122) rfl ?_
    refine XS.istoreN X139.here hx rfl (hb hby d4_123) rfl (l' := #[vR a0, vR a1, vI (((0 : Int32) + w0) + w1), vI (0 : Int32), vI (1 : Int32)]) rfl ?_
    show Steps p.tables e below (T139.setTop (mkF m 124 #[vR a0, vR a1, vI (((0 : Int32) + w0) + w1), vI (0 : Int32), vI (1 : Int32)] [])) _
    refine XS.iinc X139.here hx rfl (hb hby d4_124) rfl (l' := #[vR a0, vR a1, vI (((0 : Int32) + w0) + w1), vI (0 : Int32), vI (2 : Int32)]) rfl ?_
    refine XS.goto X139.here hx rfl (pc0 := 127) (pc' := 43) rfl (hb hby d4_127) (by decide) (by decide) ?_
    refine XS.iload X139.here hx rfl (hb hby d4_43) rfl ?_
    show Steps p.tables e below (T139.setTop (mkF m 45 #[vR a0, vR a1, vI (((0 : Int32) + w0) + w1), vI (0 : Int32), vI (2 : Int32)] [(.int (2 : Int32))])) _
    refine XS.aloadN X139.here hx rfl (hb hby d4_45) rfl rfl ?_
    exact k)
  obtain ⟨cl146, Ar146, q146, S146, M146, H146, G146⟩ := id f140_8
  have pre147 : Go p.tables e below S0 T139 (mkF m 54 #[vR a0, vR a1, vI (((0 : Int32) + w0) + w1), vI (0 : Int32), vI (2 : Int32)] [(.int (2 : Int32)), (.ref a1), (.int (((0 : Int32) + w0) + w1))]) := fun t k => pre145 t (by
    refine X139.arraylength hx (by rw [e139]; exact Ar146.1) (State.isArrayOf_alike hZ.alike Ar146.2.1) (g := (mkF m 46 #[vR a0, vR a1, vI (((0 : Int32) + w0) + w1), vI (0 : Int32), vI (2 : Int32)] [(.ref a1), (.int (2 : Int32))])) rfl rfl (hb hby d4_46) _ ?_
    rw [len_of S146 M146]
    refine XS.icmpNo X139.here hx rfl (hb hby d4_47) rfl (tlt (by decide : (2 : Int32) < (5 : Int32))).2.1 ?_
    refine XS.iloadN X139.here hx rfl (hb hby d4_50) rfl ?_
    show Steps p.tables e below (T139.setTop (mkF m 51 #[vR a0, vR a1, vI (((0 : Int32) + w0) + w1), vI (0 : Int32), vI (2 : Int32)] [(.int (((0 : Int32) + w0) + w1))])) _
    refine XS.aloadN X139.here hx rfl (hb hby d4_51) rfl rfl ?_
    refine XS.iload X139.here hx rfl (hb hby d4_52) rfl ?_
    exact k)
  obtain ⟨cl148, Ar148, q148, S148, M148, H148, G148⟩ := id f140_8
  have in148 : ¬ ((2 : Int32) < 0 ∨ cl148.slots.size ≤ ((2 : Int32)).toNatClampNeg) := inb_of S148 ⟨by decide, by decide⟩
  have at148 : cl148.slots[((2 : Int32)).toNatClampNeg]? = some (.int w2) := H148.at in148 rfl
  have pre149 : Go p.tables e below S0 T139 (mkF m 58 #[vR a0, vR a1, vI (((0 : Int32) + w0) + w1), vI (0 : Int32), vI (2 : Int32)] [(.int (64 : Int32)), (.int ((((0 : Int32) + w0) + w1) + w2))]) := fun t k => pre147 t (by
    refine X139.iaload hx (j := (2 : Int32)) (v := (.int w2)) (by rw [e139]; exact Ar148.1) (State.isArrayOf_alike hZ.alike Ar148.2.1) Ar148.2.2 in148 at148 (g := (mkF m 54 #[vR a0, vR a1, vI (((0 : Int32) + w0) + w1), vI (0 : Int32), vI (2 : Int32)] [(.int (2 : Int32)), (.ref a1), (.int (((0 : Int32) + w0) + w1))])) rfl rfl (hb hby d4_54) _ ?_
    refine XS.iadd X139.here hx rfl (hb hby d4_55) rfl ?_
    refine XS.bipush X139.here hx rfl (hb hby d4_56) ?_
    show Steps p.tables e below (T139.setTop (mkF m 58 #[vR a0, vR a1, vI (((0 : Int32) + w0) + w1), vI (0 : Int32), vI (2 : Int32)] [(.int (64 : Int32)), (.int ((((0 : Int32) + w0) + w1) + w2))])) _
    exact k)
  refine cps (A := ∃ (j66_l2_153 : Int32) (j66_l3_154 : Int32), (j66_l3_154 = own_cur (0 : Int32) (((0 : Int32) + w0) + w1) w2 ∧ j66_l2_153 = own_u0 (((0 : Int32) + w0) + w1) w2) ∧ (Go p.tables e below S0 T139 (mkF m 66 #[vR a0, vR a1, vI j66_l2_153, vI j66_l3_154, vI (2 : Int32)] []))) (fun tail157 => ?_) ?_
  · skip
    by_cases c58_150 : (64 : Int32) < ((((0 : Int32) + w0) + w1) + w2)
    · skip
      have pre151 : Go p.tables e below S0 T139 (mkF m 66 #[vR a0, vR a1, vI (0 : Int32), vI (1 : Int32), vI (2 : Int32)] []) := fun t k => pre149 t (by
        refine XS.icmpNo X139.here hx rfl (hb hby d4_58) rfl (tlt c58_150).2.2.2 ?_
        refine XS.iinc X139.here hx rfl (hb hby d4_61) rfl (l' := #[vR a0, vR a1, vI (((0 : Int32) + w0) + w1), vI (1 : Int32), vI (2 : Int32)]) rfl ?_
        refine XS.iconst X139.here hx rfl (hb hby d4_64) ?_
        show Steps p.tables e below (T139.setTop (mkF m 65 #[vR a0, vR a1, vI (((0 : Int32) + w0) + w1), vI (1 : Int32), vI (2 : Int32)] [(.int (0 : Int32))])) _
        refine XS.istoreN X139.here hx rfl (hb hby d4_65) rfl (l' := #[vR a0, vR a1, vI (0 : Int32), vI (1 : Int32), vI (2 : Int32)]) rfl ?_
        exact k)
      exact tail157 ⟨(0 : Int32), (1 : Int32), (by exact ⟨(if_pos c58_150).symm, (if_pos c58_150).symm⟩), pre151⟩
    · skip
      have pre152 : Go p.tables e below S0 T139 (mkF m 66 #[vR a0, vR a1, vI (((0 : Int32) + w0) + w1), vI (0 : Int32), vI (2 : Int32)] []) := fun t k => pre149 t (by
        refine XS.icmpYes X139.here hx rfl (pc0 := 58) (pc' := 66) rfl (hb hby d4_58) rfl (flt c58_150).2.2.2 (by decide) (by decide) ?_
        exact k)
      exact tail157 ⟨(((0 : Int32) + w0) + w1), (0 : Int32), (by exact ⟨(if_neg c58_150).symm, (if_neg c58_150).symm⟩), pre152⟩
  rintro ⟨j66_l2_153, j66_l3_154, hj66_155, pre156⟩
  have pre158 : Go p.tables e below S0 T139 (mkF m 67 #[vR a0, vR a1, vI j66_l2_153, vI j66_l3_154, vI (2 : Int32)] [(.ref a0)]) := fun t k => pre156 t (by
    refine XS.aloadN X139.here hx rfl (hb hby d4_66) rfl rfl ?_
    exact k)
  obtain ⟨T159, X159, e159, st159⟩ := getF X139 hx hZ hown (host := "") (Or.inl (hw _ (List.mem_of_getElem? (i := 22) rfl))) Via.refl e139 f140_2 (g := (mkF m 67 #[vR a0, vR a1, vI j66_l2_153, vI j66_l3_154, vI (2 : Int32)] [(.ref a0)])) rfl rfl (hb hby d4_67)
  have pre159 : Go p.tables e below S0 T159 (mkF m 70 #[vR a0, vR a1, vI j66_l2_153, vI j66_l3_154, vI (2 : Int32)] [(.ref b6)]) := fun t k => pre158 t (st159 t k)
  have pre160 : Go p.tables e below S0 T159 (mkF m 73 #[vR a0, vR a1, vI j66_l2_153, vI j66_l3_154, vI (2 : Int32)] [(.int j66_l3_154), (.int (2 : Int32)), (.ref b6)]) := fun t k => pre159 t (by
    refine XS.iload X159.here hx rfl (hb hby d4_70) rfl ?_
    refine XS.iloadN X159.here hx rfl (hb hby d4_72) rfl ?_
    exact k)
  obtain ⟨cl161, Ar161, q161, S161, M161, H161, G161⟩ := id f140_9
  have in161 : ¬ ((2 : Int32) < 0 ∨ cl161.slots.size ≤ ((2 : Int32)).toNatClampNeg) := inb_of S161 ⟨by decide, by decide⟩
  obtain ⟨T161, h161, X161, e161, W161, st161⟩ := stI X159 hx hZ e159 Ar161 (j := (2 : Int32)) in161 (g := (mkF m 73 #[vR a0, vR a1, vI j66_l2_153, vI j66_l3_154, vI (2 : Int32)] [(.int j66_l3_154), (.int (2 : Int32)), (.ref b6)])) rfl rfl (hb hby d4_73)
  have pre161 : Go p.tables e below S0 T161 (mkF m 74 #[vR a0, vR a1, vI j66_l2_153, vI j66_l3_154, vI (2 : Int32)] []) := fun t k => pre160 t (st161 t k)
  obtain ⟨lo161, N161, X161⟩ : ∃ lo, Fr n0 lo ∧ Stand p l e ({ frames := 1, cells := 4, slots := 20, locals := 12 } : Room) s m #[(.ref a0), (.ref a1)] below meth c T161 lo 4 20 := ⟨_, Fr.snoc X161 N139 bo6, X161⟩
  have av161 : Arv Z h161 b6 kA6 .int (5 : Int32) [(.int (0 : Int32)), (.int (0 : Int32)), (.int j66_l3_154), (.int (0 : Int32)), (.int (0 : Int32))] (.int (0 : Int32)) := Arv.set Ar161 q161 S161 M161 H161 G161 rfl W161 2 rfl (Nat.le_of_ble_eq_true rfl)
  have f162_1 := Exa.wr W161 f140_1
  have f162_2 := Fld.other W161 f140_2 (Or.inl ne7)
  have f162_3 := Fld.other W161 f140_3 (Or.inl ne7)
  have f162_4 := Fld.other W161 f140_4 (Or.inl ne7)
  have f162_5 := Fld.other W161 f140_5 (Or.inl ne7)
  have f162_6 := Fld.other W161 f140_6 (Or.inl ne7)
  have f162_7 := Fld.other W161 f140_7 (Or.inl ne7)
  have f162_8 := f140_8.other W161 ne8
  have f162_9 := f140_10.other W161 (Ne.symm ne22)
  have f162_10 := f140_11.other W161 (Ne.symm ne36)
  have f162_11 := av139.other W161 (Ne.symm ne51)
  have zz163 : n0 ≤ h161.size := Nat.le_trans zz141 (Keep.of_wr W161).1
  have kp164 : Keep h0 h161 [a0] := kp142.wr W161 (Or.inr ol6)
  have pre165 : Go p.tables e below S0 T161 (mkF m 75 #[vR a0, vR a1, vI j66_l2_153, vI j66_l3_154, vI (2 : Int32)] [(.ref a0)]) := fun t k => pre161 t (by
    refine XS.aloadN X161.here hx rfl (hb hby d4_74) rfl rfl ?_
    exact k)
  obtain ⟨T166, X166, e166, st166⟩ := getF X161 hx hZ hown (host := "") (Or.inl (hw _ (List.mem_of_getElem? (i := 24) rfl))) Via.refl e161 f162_3 (g := (mkF m 75 #[vR a0, vR a1, vI j66_l2_153, vI j66_l3_154, vI (2 : Int32)] [(.ref a0)])) rfl rfl (hb hby d4_75)
  have pre166 : Go p.tables e below S0 T166 (mkF m 78 #[vR a0, vR a1, vI j66_l2_153, vI j66_l3_154, vI (2 : Int32)] [(.ref b19)]) := fun t k => pre165 t (st166 t k)
  have pre167 : Go p.tables e below S0 T166 (mkF m 81 #[vR a0, vR a1, vI j66_l2_153, vI j66_l3_154, vI (2 : Int32)] [(.int j66_l2_153), (.int (2 : Int32)), (.ref b19)]) := fun t k => pre166 t (by
    refine XS.iload X166.here hx rfl (hb hby d4_78) rfl ?_
    refine XS.iloadN X166.here hx rfl (hb hby d4_80) rfl ?_
    exact k)
  obtain ⟨cl168, Ar168, q168, S168, M168, H168, G168⟩ := id f162_9
  have in168 : ¬ ((2 : Int32) < 0 ∨ cl168.slots.size ≤ ((2 : Int32)).toNatClampNeg) := inb_of S168 ⟨by decide, by decide⟩
  obtain ⟨T168, h168, X168, e168, W168, st168⟩ := stI X166 hx hZ e166 Ar168 (j := (2 : Int32)) in168 (g := (mkF m 81 #[vR a0, vR a1, vI j66_l2_153, vI j66_l3_154, vI (2 : Int32)] [(.int j66_l2_153), (.int (2 : Int32)), (.ref b19)])) rfl rfl (hb hby d4_81)
  have pre168 : Go p.tables e below S0 T168 (mkF m 82 #[vR a0, vR a1, vI j66_l2_153, vI j66_l3_154, vI (2 : Int32)] []) := fun t k => pre167 t (st168 t k)
  obtain ⟨lo168, N168, X168⟩ : ∃ lo, Fr n0 lo ∧ Stand p l e ({ frames := 1, cells := 4, slots := 20, locals := 12 } : Room) s m #[(.ref a0), (.ref a1)] below meth c T168 lo 4 20 := ⟨_, Fr.snoc X168 N161 bo19, X168⟩
  have av168 : Arv Z h168 b19 kA19 .int (5 : Int32) [(.int (0 : Int32)), (.int ((0 : Int32) + w0)), (.int j66_l2_153), (.int (0 : Int32)), (.int (0 : Int32))] (.int (0 : Int32)) := Arv.set Ar168 q168 S168 M168 H168 G168 rfl W168 2 rfl (Nat.le_of_ble_eq_true rfl)
  have f169_1 := Exa.wr W168 f162_1
  have f169_2 := Fld.other W168 f162_2 (Or.inl ne20)
  have f169_3 := Fld.other W168 f162_3 (Or.inl ne20)
  have f169_4 := Fld.other W168 f162_4 (Or.inl ne20)
  have f169_5 := Fld.other W168 f162_5 (Or.inl ne20)
  have f169_6 := Fld.other W168 f162_6 (Or.inl ne20)
  have f169_7 := Fld.other W168 f162_7 (Or.inl ne20)
  have f169_8 := f162_8.other W168 ne21
  have f169_9 := av161.other W168 ne22
  have f169_10 := f162_10.other W168 (Ne.symm ne37)
  have f169_11 := f162_11.other W168 (Ne.symm ne52)
  have zz170 : n0 ≤ h168.size := Nat.le_trans zz163 (Keep.of_wr W168).1
  have kp171 : Keep h0 h168 [a0] := kp164.wr W168 (Or.inr ol19)
  have pre172 : Go p.tables e below S0 T168 (mkF m 83 #[vR a0, vR a1, vI j66_l2_153, vI j66_l3_154, vI (2 : Int32)] [(.ref a0)]) := fun t k => pre168 t (by
    refine XS.aloadN X168.here hx rfl (hb hby d4_82) rfl rfl ?_
    exact k)
  obtain ⟨T173, X173, e173, st173⟩ := getF X168 hx hZ hown (host := "") (Or.inl (hw _ (List.mem_of_getElem? (i := 26) rfl))) Via.refl e168 f169_4 (g := (mkF m 83 #[vR a0, vR a1, vI j66_l2_153, vI j66_l3_154, vI (2 : Int32)] [(.ref a0)])) rfl rfl (hb hby d4_83)
  have pre173 : Go p.tables e below S0 T173 (mkF m 86 #[vR a0, vR a1, vI j66_l2_153, vI j66_l3_154, vI (2 : Int32)] [(.ref b33)]) := fun t k => pre172 t (st173 t k)
  have pre174 : Go p.tables e below S0 T173 (mkF m 92 #[vR a0, vR a1, vI j66_l2_153, vI j66_l3_154, vI (2 : Int32)] [(.int (2 : Int32)), (.ref a1), (.long (1 : Int64)), (.int (2 : Int32)), (.ref b33)]) := fun t k => pre173 t (by
    refine XS.iload X173.here hx rfl (hb hby d4_86) rfl ?_
    refine XS.lconst X173.here hx rfl (hb hby d4_88) ?_
    refine XS.aloadN X173.here hx rfl (hb hby d4_89) rfl rfl ?_
    show Steps p.tables e below (T173.setTop (mkF m 90 #[vR a0, vR a1, vI j66_l2_153, vI j66_l3_154, vI (2 : Int32)] [(.ref a1), (.long (1 : Int64)), (.int (2 : Int32)), (.ref b33)])) _
    refine XS.iload X173.here hx rfl (hb hby d4_90) rfl ?_
    exact k)
  obtain ⟨cl175, Ar175, q175, S175, M175, H175, G175⟩ := id f169_8
  have in175 : ¬ ((2 : Int32) < 0 ∨ cl175.slots.size ≤ ((2 : Int32)).toNatClampNeg) := inb_of S175 ⟨by decide, by decide⟩
  have at175 : cl175.slots[((2 : Int32)).toNatClampNeg]? = some (.int w2) := H175.at in175 rfl
  have pre176 : Go p.tables e below S0 T173 (mkF m 96 #[vR a0, vR a1, vI j66_l2_153, vI j66_l3_154, vI (2 : Int32)] [(.long (((1 : Int64) <<< (w2 &&& 0x3f).toInt64) - (1 : Int64))), (.int (2 : Int32)), (.ref b33)]) := fun t k => pre174 t (by
    refine X173.iaload hx (j := (2 : Int32)) (v := (.int w2)) (by rw [e173]; exact Ar175.1) (State.isArrayOf_alike hZ.alike Ar175.2.1) Ar175.2.2 in175 at175 (g := (mkF m 92 #[vR a0, vR a1, vI j66_l2_153, vI j66_l3_154, vI (2 : Int32)] [(.int (2 : Int32)), (.ref a1), (.long (1 : Int64)), (.int (2 : Int32)), (.ref b33)])) rfl rfl (hb hby d4_92) _ ?_
    refine XS.lshl X173.here hx rfl (hb hby d4_93) rfl ?_
    refine XS.lconst X173.here hx rfl (hb hby d4_94) ?_
    show Steps p.tables e below (T173.setTop (mkF m 95 #[vR a0, vR a1, vI j66_l2_153, vI j66_l3_154, vI (2 : Int32)] [(.long (1 : Int64)), (.long ((1 : Int64) <<< (w2 &&& 0x3f).toInt64)), (.int (2 : Int32)), (.ref b33)])) _
    refine XS.lsub X173.here hx rfl (hb hby d4_95) rfl ?_
    exact k)
  obtain ⟨cl177, Ar177, q177, S177, M177, H177, G177⟩ := id f169_10
  have in177 : ¬ ((2 : Int32) < 0 ∨ cl177.slots.size ≤ ((2 : Int32)).toNatClampNeg) := inb_of S177 ⟨by decide, by decide⟩
  obtain ⟨T177, h177, X177, e177, W177, st177⟩ := stJ X173 hx hZ e173 Ar177 (j := (2 : Int32)) in177 (g := (mkF m 96 #[vR a0, vR a1, vI j66_l2_153, vI j66_l3_154, vI (2 : Int32)] [(.long (((1 : Int64) <<< (w2 &&& 0x3f).toInt64) - (1 : Int64))), (.int (2 : Int32)), (.ref b33)])) rfl rfl (hb hby d4_96)
  have pre177 : Go p.tables e below S0 T177 (mkF m 97 #[vR a0, vR a1, vI j66_l2_153, vI j66_l3_154, vI (2 : Int32)] []) := fun t k => pre176 t (st177 t k)
  obtain ⟨lo177, N177, X177⟩ : ∃ lo, Fr n0 lo ∧ Stand p l e ({ frames := 1, cells := 4, slots := 20, locals := 12 } : Room) s m #[(.ref a0), (.ref a1)] below meth c T177 lo 4 20 := ⟨_, Fr.snoc X177 N168 bo33, X177⟩
  have av177 : Arv Z h177 b33 kA33 .long (5 : Int32) [(.long (((1 : Int64) <<< (w0 &&& 0x3f).toInt64) - (1 : Int64))), (.long (((1 : Int64) <<< (w1 &&& 0x3f).toInt64) - (1 : Int64))), (.long (((1 : Int64) <<< (w2 &&& 0x3f).toInt64) - (1 : Int64))), (.long (0 : Int64)), (.long (0 : Int64))] (.long (0 : Int64)) := Arv.set Ar177 q177 S177 M177 H177 G177 rfl W177 2 rfl (Nat.le_of_ble_eq_true rfl)
  have f178_1 := Exa.wr W177 f169_1
  have f178_2 := Fld.other W177 f169_2 (Or.inl ne34)
  have f178_3 := Fld.other W177 f169_3 (Or.inl ne34)
  have f178_4 := Fld.other W177 f169_4 (Or.inl ne34)
  have f178_5 := Fld.other W177 f169_5 (Or.inl ne34)
  have f178_6 := Fld.other W177 f169_6 (Or.inl ne34)
  have f178_7 := Fld.other W177 f169_7 (Or.inl ne34)
  have f178_8 := f169_8.other W177 ne35
  have f178_9 := f169_9.other W177 ne36
  have f178_10 := av168.other W177 ne37
  have f178_11 := f169_11.other W177 (Ne.symm ne53)
  have zz179 : n0 ≤ h177.size := Nat.le_trans zz170 (Keep.of_wr W177).1
  have kp180 : Keep h0 h177 [a0] := kp171.wr W177 (Or.inr ol33)
  have pre181 : Go p.tables e below S0 T177 (mkF m 98 #[vR a0, vR a1, vI j66_l2_153, vI j66_l3_154, vI (2 : Int32)] [(.ref a0)]) := fun t k => pre177 t (by
    refine XS.aloadN X177.here hx rfl (hb hby d4_97) rfl rfl ?_
    exact k)
  obtain ⟨T182, X182, e182, st182⟩ := getF X177 hx hZ hown (host := "") (Or.inl (hw _ (List.mem_of_getElem? (i := 28) rfl))) Via.refl e177 f178_5 (g := (mkF m 98 #[vR a0, vR a1, vI j66_l2_153, vI j66_l3_154, vI (2 : Int32)] [(.ref a0)])) rfl rfl (hb hby d4_98)
  have pre182 : Go p.tables e below S0 T182 (mkF m 101 #[vR a0, vR a1, vI j66_l2_153, vI j66_l3_154, vI (2 : Int32)] [(.ref b48)]) := fun t k => pre181 t (st182 t k)
  have pre183 : Go p.tables e below S0 T182 (mkF m 104 #[vR a0, vR a1, vI j66_l2_153, vI j66_l3_154, vI (2 : Int32)] [(.ref a0), (.int (2 : Int32)), (.ref b48)]) := fun t k => pre182 t (by
    refine XS.iload X182.here hx rfl (hb hby d4_101) rfl ?_
    refine XS.aloadN X182.here hx rfl (hb hby d4_103) rfl rfl ?_
    exact k)
  obtain ⟨T184, X184, e184, st184⟩ := getF X182 hx hZ hown (host := "") (Or.inl (hw _ (List.mem_of_getElem? (i := 26) rfl))) Via.refl e182 f178_4 (g := (mkF m 104 #[vR a0, vR a1, vI j66_l2_153, vI j66_l3_154, vI (2 : Int32)] [(.ref a0), (.int (2 : Int32)), (.ref b48)])) rfl rfl (hb hby d4_104)
  have pre184 : Go p.tables e below S0 T184 (mkF m 107 #[vR a0, vR a1, vI j66_l2_153, vI j66_l3_154, vI (2 : Int32)] [(.ref b33), (.int (2 : Int32)), (.ref b48)]) := fun t k => pre183 t (st184 t k)
  have pre185 : Go p.tables e below S0 T184 (mkF m 109 #[vR a0, vR a1, vI j66_l2_153, vI j66_l3_154, vI (2 : Int32)] [(.int (2 : Int32)), (.ref b33), (.int (2 : Int32)), (.ref b48)]) := fun t k => pre184 t (by
    refine XS.iload X184.here hx rfl (hb hby d4_107) rfl ?_
    exact k)
  obtain ⟨cl186, Ar186, q186, S186, M186, H186, G186⟩ := id av177
  have in186 : ¬ ((2 : Int32) < 0 ∨ cl186.slots.size ≤ ((2 : Int32)).toNatClampNeg) := inb_of S186 ⟨by decide, by decide⟩
  have at186 : cl186.slots[((2 : Int32)).toNatClampNeg]? = some (.long (((1 : Int64) <<< (w2 &&& 0x3f).toInt64) - (1 : Int64))) := H186.at in186 rfl
  have pre187 : Go p.tables e below S0 T184 (mkF m 116 #[vR a0, vR a1, vI j66_l2_153, vI j66_l3_154, vI (2 : Int32)] [(.long (((((1 : Int64) <<< (w2 &&& 0x3f).toInt64) - (1 : Int64)) <<< (j66_l2_153 &&& 0x3f).toInt64) ^^^ (-1 : Int64))), (.int (2 : Int32)), (.ref b48)]) := fun t k => pre185 t (by
    refine X184.laload hx (j := (2 : Int32)) (v := (.long (((1 : Int64) <<< (w2 &&& 0x3f).toInt64) - (1 : Int64)))) (by rw [e184]; exact Ar186.1) (State.isArrayOf_alike hZ.alike Ar186.2.1) Ar186.2.2 in186 at186 (g := (mkF m 109 #[vR a0, vR a1, vI j66_l2_153, vI j66_l3_154, vI (2 : Int32)] [(.int (2 : Int32)), (.ref b33), (.int (2 : Int32)), (.ref b48)])) rfl rfl (hb hby d4_109) _ ?_
    refine XS.iloadN X184.here hx rfl (hb hby d4_110) rfl ?_
    refine XS.lshl X184.here hx rfl (hb hby d4_111) rfl ?_
    show Steps p.tables e below (T184.setTop (mkF m 112 #[vR a0, vR a1, vI j66_l2_153, vI j66_l3_154, vI (2 : Int32)] [(.long ((((1 : Int64) <<< (w2 &&& 0x3f).toInt64) - (1 : Int64)) <<< (j66_l2_153 &&& 0x3f).toInt64)), (.int (2 : Int32)), (.ref b48)])) _
    refine X184.ldc2Long hx hown (mvT hZ (hw _ (List.mem_of_getElem? (i := 30) rfl))) (g := (mkF m 112 #[vR a0, vR a1, vI j66_l2_153, vI j66_l3_154, vI (2 : Int32)] [(.long ((((1 : Int64) <<< (w2 &&& 0x3f).toInt64) - (1 : Int64)) <<< (j66_l2_153 &&& 0x3f).toInt64)), (.int (2 : Int32)), (.ref b48)])) rfl (hb hby d4_112) _ ?_
    refine XS.lxor X184.here hx rfl (hb hby d4_115) rfl ?_
    exact k)
  obtain ⟨cl188, Ar188, q188, S188, M188, H188, G188⟩ := id f178_11
  have in188 : ¬ ((2 : Int32) < 0 ∨ cl188.slots.size ≤ ((2 : Int32)).toNatClampNeg) := inb_of S188 ⟨by decide, by decide⟩
  obtain ⟨T188, h188, X188, e188, W188, st188⟩ := stJ X184 hx hZ e184 Ar188 (j := (2 : Int32)) in188 (g := (mkF m 116 #[vR a0, vR a1, vI j66_l2_153, vI j66_l3_154, vI (2 : Int32)] [(.long (((((1 : Int64) <<< (w2 &&& 0x3f).toInt64) - (1 : Int64)) <<< (j66_l2_153 &&& 0x3f).toInt64) ^^^ (-1 : Int64))), (.int (2 : Int32)), (.ref b48)])) rfl rfl (hb hby d4_116)
  have pre188 : Go p.tables e below S0 T188 (mkF m 117 #[vR a0, vR a1, vI j66_l2_153, vI j66_l3_154, vI (2 : Int32)] []) := fun t k => pre187 t (st188 t k)
  obtain ⟨lo188, N188, X188⟩ : ∃ lo, Fr n0 lo ∧ Stand p l e ({ frames := 1, cells := 4, slots := 20, locals := 12 } : Room) s m #[(.ref a0), (.ref a1)] below meth c T188 lo 4 20 := ⟨_, Fr.snoc X188 N177 bo48, X188⟩
  have av188 : Arv Z h188 b48 kA48 .long (5 : Int32) [(.long (((((1 : Int64) <<< (w0 &&& 0x3f).toInt64) - (1 : Int64)) <<< ((0 : Int32) &&& 0x3f).toInt64) ^^^ (-1 : Int64))), (.long (((((1 : Int64) <<< (w1 &&& 0x3f).toInt64) - (1 : Int64)) <<< (((0 : Int32) + w0) &&& 0x3f).toInt64) ^^^ (-1 : Int64))), (.long (((((1 : Int64) <<< (w2 &&& 0x3f).toInt64) - (1 : Int64)) <<< (j66_l2_153 &&& 0x3f).toInt64) ^^^ (-1 : Int64))), (.long (0 : Int64)), (.long (0 : Int64))] (.long (0 : Int64)) := Arv.set Ar188 q188 S188 M188 H188 G188 rfl W188 2 rfl (Nat.le_of_ble_eq_true rfl)
  have f189_1 := Exa.wr W188 f178_1
  have f189_2 := Fld.other W188 f178_2 (Or.inl ne49)
  have f189_3 := Fld.other W188 f178_3 (Or.inl ne49)
  have f189_4 := Fld.other W188 f178_4 (Or.inl ne49)
  have f189_5 := Fld.other W188 f178_5 (Or.inl ne49)
  have f189_6 := Fld.other W188 f178_6 (Or.inl ne49)
  have f189_7 := Fld.other W188 f178_7 (Or.inl ne49)
  have f189_8 := f178_8.other W188 ne50
  have f189_9 := f178_9.other W188 ne51
  have f189_10 := f178_10.other W188 ne52
  have f189_11 := av177.other W188 ne53
  have zz190 : n0 ≤ h188.size := Nat.le_trans zz179 (Keep.of_wr W188).1
  have kp191 : Keep h0 h188 [a0] := kp180.wr W188 (Or.inr ol48)
  have pre192 : Go p.tables e below S0 T188 (mkF m 121 #[vR a0, vR a1, vI j66_l2_153, vI j66_l3_154, vI (2 : Int32)] [(.int (2 : Int32)), (.ref a1), (.int j66_l2_153)]) := fun t k => pre188 t (by
    refine XS.iloadN X188.here hx rfl (hb hby d4_117) rfl ?_
    refine XS.aloadN X188.here hx rfl (hb hby d4_118) rfl rfl ?_
    refine XS.iload X188.here hx rfl (hb hby d4_119) rfl ?_
    show Steps p.tables e below (T188.setTop (mkF m 121 #[vR a0, vR a1, vI j66_l2_153, vI j66_l3_154, vI (2 : Int32)] [(.int (2 : Int32)), (.ref a1), (.int j66_l2_153)])) _
    exact k)
  obtain ⟨cl193, Ar193, q193, S193, M193, H193, G193⟩ := id f189_8
  have in193 : ¬ ((2 : Int32) < 0 ∨ cl193.slots.size ≤ ((2 : Int32)).toNatClampNeg) := inb_of S193 ⟨by decide, by decide⟩
  have at193 : cl193.slots[((2 : Int32)).toNatClampNeg]? = some (.int w2) := H193.at in193 rfl
  have pre194 : Go p.tables e below S0 T188 (mkF m 46 #[vR a0, vR a1, vI (j66_l2_153 + w2), vI j66_l3_154, vI (3 : Int32)] [(.ref a1), (.int (3 : Int32))]) := fun t k => pre192 t (by
    refine X188.iaload hx (j := (2 : Int32)) (v := (.int w2)) (by rw [e188]; exact Ar193.1) (State.isArrayOf_alike hZ.alike Ar193.2.1) Ar193.2.2 in193 at193 (g := (mkF m 121 #[vR a0, vR a1, vI j66_l2_153, vI j66_l3_154, vI (2 : Int32)] [(.int (2 : Int32)), (.ref a1), (.int j66_l2_153)])) rfl rfl (hb hby d4_121) _ ?_
    refine XS.iadd X188.here hx rfl (hb hby d4_122) rfl ?_
    refine XS.istoreN X188.here hx rfl (hb hby d4_123) rfl (l' := #[vR a0, vR a1, vI (j66_l2_153 + w2), vI j66_l3_154, vI (2 : Int32)]) rfl ?_
    show Steps p.tables e below (T188.setTop (mkF m 124 #[vR a0, vR a1, vI (j66_l2_153 + w2), vI j66_l3_154, vI (2 : Int32)] [])) _
    refine XS.iinc X188.here hx rfl (hb hby d4_124) rfl (l' := #[vR a0, vR a1, vI (j66_l2_153 + w2), vI j66_l3_154, vI (3 : Int32)]) rfl ?_
    refine XS.goto X188.here hx rfl (pc0 := 127) (pc' := 43) rfl (hb hby d4_127) (by decide) (by decide) ?_
    refine XS.iload X188.here hx rfl (hb hby d4_43) rfl ?_
    show Steps p.tables e below (T188.setTop (mkF m 45 #[vR a0, vR a1, vI (j66_l2_153 + w2), vI j66_l3_154, vI (3 : Int32)] [(.int (3 : Int32))])) _
    refine XS.aloadN X188.here hx rfl (hb hby d4_45) rfl rfl ?_
    exact k)
  obtain ⟨cl195, Ar195, q195, S195, M195, H195, G195⟩ := id f189_8
  have pre196 : Go p.tables e below S0 T188 (mkF m 54 #[vR a0, vR a1, vI (j66_l2_153 + w2), vI j66_l3_154, vI (3 : Int32)] [(.int (3 : Int32)), (.ref a1), (.int (j66_l2_153 + w2))]) := fun t k => pre194 t (by
    refine X188.arraylength hx (by rw [e188]; exact Ar195.1) (State.isArrayOf_alike hZ.alike Ar195.2.1) (g := (mkF m 46 #[vR a0, vR a1, vI (j66_l2_153 + w2), vI j66_l3_154, vI (3 : Int32)] [(.ref a1), (.int (3 : Int32))])) rfl rfl (hb hby d4_46) _ ?_
    rw [len_of S195 M195]
    refine XS.icmpNo X188.here hx rfl (hb hby d4_47) rfl (tlt (by decide : (3 : Int32) < (5 : Int32))).2.1 ?_
    refine XS.iloadN X188.here hx rfl (hb hby d4_50) rfl ?_
    show Steps p.tables e below (T188.setTop (mkF m 51 #[vR a0, vR a1, vI (j66_l2_153 + w2), vI j66_l3_154, vI (3 : Int32)] [(.int (j66_l2_153 + w2))])) _
    refine XS.aloadN X188.here hx rfl (hb hby d4_51) rfl rfl ?_
    refine XS.iload X188.here hx rfl (hb hby d4_52) rfl ?_
    exact k)
  obtain ⟨cl197, Ar197, q197, S197, M197, H197, G197⟩ := id f189_8
  have in197 : ¬ ((3 : Int32) < 0 ∨ cl197.slots.size ≤ ((3 : Int32)).toNatClampNeg) := inb_of S197 ⟨by decide, by decide⟩
  have at197 : cl197.slots[((3 : Int32)).toNatClampNeg]? = some (.int w3) := H197.at in197 rfl
  have pre198 : Go p.tables e below S0 T188 (mkF m 58 #[vR a0, vR a1, vI (j66_l2_153 + w2), vI j66_l3_154, vI (3 : Int32)] [(.int (64 : Int32)), (.int ((j66_l2_153 + w2) + w3))]) := fun t k => pre196 t (by
    refine X188.iaload hx (j := (3 : Int32)) (v := (.int w3)) (by rw [e188]; exact Ar197.1) (State.isArrayOf_alike hZ.alike Ar197.2.1) Ar197.2.2 in197 at197 (g := (mkF m 54 #[vR a0, vR a1, vI (j66_l2_153 + w2), vI j66_l3_154, vI (3 : Int32)] [(.int (3 : Int32)), (.ref a1), (.int (j66_l2_153 + w2))])) rfl rfl (hb hby d4_54) _ ?_
    refine XS.iadd X188.here hx rfl (hb hby d4_55) rfl ?_
    refine XS.bipush X188.here hx rfl (hb hby d4_56) ?_
    show Steps p.tables e below (T188.setTop (mkF m 58 #[vR a0, vR a1, vI (j66_l2_153 + w2), vI j66_l3_154, vI (3 : Int32)] [(.int (64 : Int32)), (.int ((j66_l2_153 + w2) + w3))])) _
    exact k)
  refine cps (A := ∃ (j66_l2_202 : Int32) (j66_l3_203 : Int32), (j66_l3_203 = own_cur j66_l3_154 (j66_l2_153 + w2) w3 ∧ j66_l2_202 = own_u0 (j66_l2_153 + w2) w3) ∧ (Go p.tables e below S0 T188 (mkF m 66 #[vR a0, vR a1, vI j66_l2_202, vI j66_l3_203, vI (3 : Int32)] []))) (fun tail206 => ?_) ?_
  · skip
    by_cases c58_199 : (64 : Int32) < ((j66_l2_153 + w2) + w3)
    · skip
      have pre200 : Go p.tables e below S0 T188 (mkF m 66 #[vR a0, vR a1, vI (0 : Int32), vI (j66_l3_154 + (1 : Int32)), vI (3 : Int32)] []) := fun t k => pre198 t (by
        refine XS.icmpNo X188.here hx rfl (hb hby d4_58) rfl (tlt c58_199).2.2.2 ?_
        refine XS.iinc X188.here hx rfl (hb hby d4_61) rfl (l' := #[vR a0, vR a1, vI (j66_l2_153 + w2), vI (j66_l3_154 + (1 : Int32)), vI (3 : Int32)]) rfl ?_
        refine XS.iconst X188.here hx rfl (hb hby d4_64) ?_
        show Steps p.tables e below (T188.setTop (mkF m 65 #[vR a0, vR a1, vI (j66_l2_153 + w2), vI (j66_l3_154 + (1 : Int32)), vI (3 : Int32)] [(.int (0 : Int32))])) _
        refine XS.istoreN X188.here hx rfl (hb hby d4_65) rfl (l' := #[vR a0, vR a1, vI (0 : Int32), vI (j66_l3_154 + (1 : Int32)), vI (3 : Int32)]) rfl ?_
        exact k)
      exact tail206 ⟨(0 : Int32), (j66_l3_154 + (1 : Int32)), (by exact ⟨(if_pos c58_199).symm, (if_pos c58_199).symm⟩), pre200⟩
    · skip
      have pre201 : Go p.tables e below S0 T188 (mkF m 66 #[vR a0, vR a1, vI (j66_l2_153 + w2), vI j66_l3_154, vI (3 : Int32)] []) := fun t k => pre198 t (by
        refine XS.icmpYes X188.here hx rfl (pc0 := 58) (pc' := 66) rfl (hb hby d4_58) rfl (flt c58_199).2.2.2 (by decide) (by decide) ?_
        exact k)
      exact tail206 ⟨(j66_l2_153 + w2), j66_l3_154, (by exact ⟨(if_neg c58_199).symm, (if_neg c58_199).symm⟩), pre201⟩
  rintro ⟨j66_l2_202, j66_l3_203, hj66_204, pre205⟩
  have pre207 : Go p.tables e below S0 T188 (mkF m 67 #[vR a0, vR a1, vI j66_l2_202, vI j66_l3_203, vI (3 : Int32)] [(.ref a0)]) := fun t k => pre205 t (by
    refine XS.aloadN X188.here hx rfl (hb hby d4_66) rfl rfl ?_
    exact k)
  obtain ⟨T208, X208, e208, st208⟩ := getF X188 hx hZ hown (host := "") (Or.inl (hw _ (List.mem_of_getElem? (i := 22) rfl))) Via.refl e188 f189_2 (g := (mkF m 67 #[vR a0, vR a1, vI j66_l2_202, vI j66_l3_203, vI (3 : Int32)] [(.ref a0)])) rfl rfl (hb hby d4_67)
  have pre208 : Go p.tables e below S0 T208 (mkF m 70 #[vR a0, vR a1, vI j66_l2_202, vI j66_l3_203, vI (3 : Int32)] [(.ref b6)]) := fun t k => pre207 t (st208 t k)
  have pre209 : Go p.tables e below S0 T208 (mkF m 73 #[vR a0, vR a1, vI j66_l2_202, vI j66_l3_203, vI (3 : Int32)] [(.int j66_l3_203), (.int (3 : Int32)), (.ref b6)]) := fun t k => pre208 t (by
    refine XS.iload X208.here hx rfl (hb hby d4_70) rfl ?_
    refine XS.iloadN X208.here hx rfl (hb hby d4_72) rfl ?_
    exact k)
  obtain ⟨cl210, Ar210, q210, S210, M210, H210, G210⟩ := id f189_9
  have in210 : ¬ ((3 : Int32) < 0 ∨ cl210.slots.size ≤ ((3 : Int32)).toNatClampNeg) := inb_of S210 ⟨by decide, by decide⟩
  obtain ⟨T210, h210, X210, e210, W210, st210⟩ := stI X208 hx hZ e208 Ar210 (j := (3 : Int32)) in210 (g := (mkF m 73 #[vR a0, vR a1, vI j66_l2_202, vI j66_l3_203, vI (3 : Int32)] [(.int j66_l3_203), (.int (3 : Int32)), (.ref b6)])) rfl rfl (hb hby d4_73)
  have pre210 : Go p.tables e below S0 T210 (mkF m 74 #[vR a0, vR a1, vI j66_l2_202, vI j66_l3_203, vI (3 : Int32)] []) := fun t k => pre209 t (st210 t k)
  obtain ⟨lo210, N210, X210⟩ : ∃ lo, Fr n0 lo ∧ Stand p l e ({ frames := 1, cells := 4, slots := 20, locals := 12 } : Room) s m #[(.ref a0), (.ref a1)] below meth c T210 lo 4 20 := ⟨_, Fr.snoc X210 N188 bo6, X210⟩
  have av210 : Arv Z h210 b6 kA6 .int (5 : Int32) [(.int (0 : Int32)), (.int (0 : Int32)), (.int j66_l3_154), (.int j66_l3_203), (.int (0 : Int32))] (.int (0 : Int32)) := Arv.set Ar210 q210 S210 M210 H210 G210 rfl W210 3 rfl (Nat.le_of_ble_eq_true rfl)
  have f211_1 := Exa.wr W210 f189_1
  have f211_2 := Fld.other W210 f189_2 (Or.inl ne7)
  have f211_3 := Fld.other W210 f189_3 (Or.inl ne7)
  have f211_4 := Fld.other W210 f189_4 (Or.inl ne7)
  have f211_5 := Fld.other W210 f189_5 (Or.inl ne7)
  have f211_6 := Fld.other W210 f189_6 (Or.inl ne7)
  have f211_7 := Fld.other W210 f189_7 (Or.inl ne7)
  have f211_8 := f189_8.other W210 ne8
  have f211_9 := f189_10.other W210 (Ne.symm ne22)
  have f211_10 := f189_11.other W210 (Ne.symm ne36)
  have f211_11 := av188.other W210 (Ne.symm ne51)
  have zz212 : n0 ≤ h210.size := Nat.le_trans zz190 (Keep.of_wr W210).1
  have kp213 : Keep h0 h210 [a0] := kp191.wr W210 (Or.inr ol6)
  have pre214 : Go p.tables e below S0 T210 (mkF m 75 #[vR a0, vR a1, vI j66_l2_202, vI j66_l3_203, vI (3 : Int32)] [(.ref a0)]) := fun t k => pre210 t (by
    refine XS.aloadN X210.here hx rfl (hb hby d4_74) rfl rfl ?_
    exact k)
  obtain ⟨T215, X215, e215, st215⟩ := getF X210 hx hZ hown (host := "") (Or.inl (hw _ (List.mem_of_getElem? (i := 24) rfl))) Via.refl e210 f211_3 (g := (mkF m 75 #[vR a0, vR a1, vI j66_l2_202, vI j66_l3_203, vI (3 : Int32)] [(.ref a0)])) rfl rfl (hb hby d4_75)
  have pre215 : Go p.tables e below S0 T215 (mkF m 78 #[vR a0, vR a1, vI j66_l2_202, vI j66_l3_203, vI (3 : Int32)] [(.ref b19)]) := fun t k => pre214 t (st215 t k)
  have pre216 : Go p.tables e below S0 T215 (mkF m 81 #[vR a0, vR a1, vI j66_l2_202, vI j66_l3_203, vI (3 : Int32)] [(.int j66_l2_202), (.int (3 : Int32)), (.ref b19)]) := fun t k => pre215 t (by
    refine XS.iload X215.here hx rfl (hb hby d4_78) rfl ?_
    refine XS.iloadN X215.here hx rfl (hb hby d4_80) rfl ?_
    exact k)
  obtain ⟨cl217, Ar217, q217, S217, M217, H217, G217⟩ := id f211_9
  have in217 : ¬ ((3 : Int32) < 0 ∨ cl217.slots.size ≤ ((3 : Int32)).toNatClampNeg) := inb_of S217 ⟨by decide, by decide⟩
  obtain ⟨T217, h217, X217, e217, W217, st217⟩ := stI X215 hx hZ e215 Ar217 (j := (3 : Int32)) in217 (g := (mkF m 81 #[vR a0, vR a1, vI j66_l2_202, vI j66_l3_203, vI (3 : Int32)] [(.int j66_l2_202), (.int (3 : Int32)), (.ref b19)])) rfl rfl (hb hby d4_81)
  have pre217 : Go p.tables e below S0 T217 (mkF m 82 #[vR a0, vR a1, vI j66_l2_202, vI j66_l3_203, vI (3 : Int32)] []) := fun t k => pre216 t (st217 t k)
  obtain ⟨lo217, N217, X217⟩ : ∃ lo, Fr n0 lo ∧ Stand p l e ({ frames := 1, cells := 4, slots := 20, locals := 12 } : Room) s m #[(.ref a0), (.ref a1)] below meth c T217 lo 4 20 := ⟨_, Fr.snoc X217 N210 bo19, X217⟩
  have av217 : Arv Z h217 b19 kA19 .int (5 : Int32) [(.int (0 : Int32)), (.int ((0 : Int32) + w0)), (.int j66_l2_153), (.int j66_l2_202), (.int (0 : Int32))] (.int (0 : Int32)) := Arv.set Ar217 q217 S217 M217 H217 G217 rfl W217 3 rfl (Nat.le_of_ble_eq_true rfl)
  have f218_1 := Exa.wr W217 f211_1
  have f218_2 := Fld.other W217 f211_2 (Or.inl ne20)
  have f218_3 := Fld.other W217 f211_3 (Or.inl ne20)
  have f218_4 := Fld.other W217 f211_4 (Or.inl ne20)
  have f218_5 := Fld.other W217 f211_5 (Or.inl ne20)
  have f218_6 := Fld.other W217 f211_6 (Or.inl ne20)
  have f218_7 := Fld.other W217 f211_7 (Or.inl ne20)
  have f218_8 := f211_8.other W217 ne21
  have f218_9 := av210.other W217 ne22
  have f218_10 := f211_10.other W217 (Ne.symm ne37)
  have f218_11 := f211_11.other W217 (Ne.symm ne52)
  have zz219 : n0 ≤ h217.size := Nat.le_trans zz212 (Keep.of_wr W217).1
  have kp220 : Keep h0 h217 [a0] := kp213.wr W217 (Or.inr ol19)
  have pre221 : Go p.tables e below S0 T217 (mkF m 83 #[vR a0, vR a1, vI j66_l2_202, vI j66_l3_203, vI (3 : Int32)] [(.ref a0)]) := fun t k => pre217 t (by
    refine XS.aloadN X217.here hx rfl (hb hby d4_82) rfl rfl ?_
    exact k)
  obtain ⟨T222, X222, e222, st222⟩ := getF X217 hx hZ hown (host := "") (Or.inl (hw _ (List.mem_of_getElem? (i := 26) rfl))) Via.refl e217 f218_4 (g := (mkF m 83 #[vR a0, vR a1, vI j66_l2_202, vI j66_l3_203, vI (3 : Int32)] [(.ref a0)])) rfl rfl (hb hby d4_83)
  have pre222 : Go p.tables e below S0 T222 (mkF m 86 #[vR a0, vR a1, vI j66_l2_202, vI j66_l3_203, vI (3 : Int32)] [(.ref b33)]) := fun t k => pre221 t (st222 t k)
  have pre223 : Go p.tables e below S0 T222 (mkF m 92 #[vR a0, vR a1, vI j66_l2_202, vI j66_l3_203, vI (3 : Int32)] [(.int (3 : Int32)), (.ref a1), (.long (1 : Int64)), (.int (3 : Int32)), (.ref b33)]) := fun t k => pre222 t (by
    refine XS.iload X222.here hx rfl (hb hby d4_86) rfl ?_
    refine XS.lconst X222.here hx rfl (hb hby d4_88) ?_
    refine XS.aloadN X222.here hx rfl (hb hby d4_89) rfl rfl ?_
    show Steps p.tables e below (T222.setTop (mkF m 90 #[vR a0, vR a1, vI j66_l2_202, vI j66_l3_203, vI (3 : Int32)] [(.ref a1), (.long (1 : Int64)), (.int (3 : Int32)), (.ref b33)])) _
    refine XS.iload X222.here hx rfl (hb hby d4_90) rfl ?_
    exact k)
  obtain ⟨cl224, Ar224, q224, S224, M224, H224, G224⟩ := id f218_8
  have in224 : ¬ ((3 : Int32) < 0 ∨ cl224.slots.size ≤ ((3 : Int32)).toNatClampNeg) := inb_of S224 ⟨by decide, by decide⟩
  have at224 : cl224.slots[((3 : Int32)).toNatClampNeg]? = some (.int w3) := H224.at in224 rfl
  have pre225 : Go p.tables e below S0 T222 (mkF m 96 #[vR a0, vR a1, vI j66_l2_202, vI j66_l3_203, vI (3 : Int32)] [(.long (((1 : Int64) <<< (w3 &&& 0x3f).toInt64) - (1 : Int64))), (.int (3 : Int32)), (.ref b33)]) := fun t k => pre223 t (by
    refine X222.iaload hx (j := (3 : Int32)) (v := (.int w3)) (by rw [e222]; exact Ar224.1) (State.isArrayOf_alike hZ.alike Ar224.2.1) Ar224.2.2 in224 at224 (g := (mkF m 92 #[vR a0, vR a1, vI j66_l2_202, vI j66_l3_203, vI (3 : Int32)] [(.int (3 : Int32)), (.ref a1), (.long (1 : Int64)), (.int (3 : Int32)), (.ref b33)])) rfl rfl (hb hby d4_92) _ ?_
    refine XS.lshl X222.here hx rfl (hb hby d4_93) rfl ?_
    refine XS.lconst X222.here hx rfl (hb hby d4_94) ?_
    show Steps p.tables e below (T222.setTop (mkF m 95 #[vR a0, vR a1, vI j66_l2_202, vI j66_l3_203, vI (3 : Int32)] [(.long (1 : Int64)), (.long ((1 : Int64) <<< (w3 &&& 0x3f).toInt64)), (.int (3 : Int32)), (.ref b33)])) _
    refine XS.lsub X222.here hx rfl (hb hby d4_95) rfl ?_
    exact k)
  obtain ⟨cl226, Ar226, q226, S226, M226, H226, G226⟩ := id f218_10
  have in226 : ¬ ((3 : Int32) < 0 ∨ cl226.slots.size ≤ ((3 : Int32)).toNatClampNeg) := inb_of S226 ⟨by decide, by decide⟩
  obtain ⟨T226, h226, X226, e226, W226, st226⟩ := stJ X222 hx hZ e222 Ar226 (j := (3 : Int32)) in226 (g := (mkF m 96 #[vR a0, vR a1, vI j66_l2_202, vI j66_l3_203, vI (3 : Int32)] [(.long (((1 : Int64) <<< (w3 &&& 0x3f).toInt64) - (1 : Int64))), (.int (3 : Int32)), (.ref b33)])) rfl rfl (hb hby d4_96)
  have pre226 : Go p.tables e below S0 T226 (mkF m 97 #[vR a0, vR a1, vI j66_l2_202, vI j66_l3_203, vI (3 : Int32)] []) := fun t k => pre225 t (st226 t k)
  obtain ⟨lo226, N226, X226⟩ : ∃ lo, Fr n0 lo ∧ Stand p l e ({ frames := 1, cells := 4, slots := 20, locals := 12 } : Room) s m #[(.ref a0), (.ref a1)] below meth c T226 lo 4 20 := ⟨_, Fr.snoc X226 N217 bo33, X226⟩
  have av226 : Arv Z h226 b33 kA33 .long (5 : Int32) [(.long (((1 : Int64) <<< (w0 &&& 0x3f).toInt64) - (1 : Int64))), (.long (((1 : Int64) <<< (w1 &&& 0x3f).toInt64) - (1 : Int64))), (.long (((1 : Int64) <<< (w2 &&& 0x3f).toInt64) - (1 : Int64))), (.long (((1 : Int64) <<< (w3 &&& 0x3f).toInt64) - (1 : Int64))), (.long (0 : Int64))] (.long (0 : Int64)) := Arv.set Ar226 q226 S226 M226 H226 G226 rfl W226 3 rfl (Nat.le_of_ble_eq_true rfl)
  have f227_1 := Exa.wr W226 f218_1
  have f227_2 := Fld.other W226 f218_2 (Or.inl ne34)
  have f227_3 := Fld.other W226 f218_3 (Or.inl ne34)
  have f227_4 := Fld.other W226 f218_4 (Or.inl ne34)
  have f227_5 := Fld.other W226 f218_5 (Or.inl ne34)
  have f227_6 := Fld.other W226 f218_6 (Or.inl ne34)
  have f227_7 := Fld.other W226 f218_7 (Or.inl ne34)
  have f227_8 := f218_8.other W226 ne35
  have f227_9 := f218_9.other W226 ne36
  have f227_10 := av217.other W226 ne37
  have f227_11 := f218_11.other W226 (Ne.symm ne53)
  have zz228 : n0 ≤ h226.size := Nat.le_trans zz219 (Keep.of_wr W226).1
  have kp229 : Keep h0 h226 [a0] := kp220.wr W226 (Or.inr ol33)
  have pre230 : Go p.tables e below S0 T226 (mkF m 98 #[vR a0, vR a1, vI j66_l2_202, vI j66_l3_203, vI (3 : Int32)] [(.ref a0)]) := fun t k => pre226 t (by
    refine XS.aloadN X226.here hx rfl (hb hby d4_97) rfl rfl ?_
    exact k)
  obtain ⟨T231, X231, e231, st231⟩ := getF X226 hx hZ hown (host := "") (Or.inl (hw _ (List.mem_of_getElem? (i := 28) rfl))) Via.refl e226 f227_5 (g := (mkF m 98 #[vR a0, vR a1, vI j66_l2_202, vI j66_l3_203, vI (3 : Int32)] [(.ref a0)])) rfl rfl (hb hby d4_98)
  have pre231 : Go p.tables e below S0 T231 (mkF m 101 #[vR a0, vR a1, vI j66_l2_202, vI j66_l3_203, vI (3 : Int32)] [(.ref b48)]) := fun t k => pre230 t (st231 t k)
  have pre232 : Go p.tables e below S0 T231 (mkF m 104 #[vR a0, vR a1, vI j66_l2_202, vI j66_l3_203, vI (3 : Int32)] [(.ref a0), (.int (3 : Int32)), (.ref b48)]) := fun t k => pre231 t (by
    refine XS.iload X231.here hx rfl (hb hby d4_101) rfl ?_
    refine XS.aloadN X231.here hx rfl (hb hby d4_103) rfl rfl ?_
    exact k)
  obtain ⟨T233, X233, e233, st233⟩ := getF X231 hx hZ hown (host := "") (Or.inl (hw _ (List.mem_of_getElem? (i := 26) rfl))) Via.refl e231 f227_4 (g := (mkF m 104 #[vR a0, vR a1, vI j66_l2_202, vI j66_l3_203, vI (3 : Int32)] [(.ref a0), (.int (3 : Int32)), (.ref b48)])) rfl rfl (hb hby d4_104)
  have pre233 : Go p.tables e below S0 T233 (mkF m 107 #[vR a0, vR a1, vI j66_l2_202, vI j66_l3_203, vI (3 : Int32)] [(.ref b33), (.int (3 : Int32)), (.ref b48)]) := fun t k => pre232 t (st233 t k)
  have pre234 : Go p.tables e below S0 T233 (mkF m 109 #[vR a0, vR a1, vI j66_l2_202, vI j66_l3_203, vI (3 : Int32)] [(.int (3 : Int32)), (.ref b33), (.int (3 : Int32)), (.ref b48)]) := fun t k => pre233 t (by
    refine XS.iload X233.here hx rfl (hb hby d4_107) rfl ?_
    exact k)
  obtain ⟨cl235, Ar235, q235, S235, M235, H235, G235⟩ := id av226
  have in235 : ¬ ((3 : Int32) < 0 ∨ cl235.slots.size ≤ ((3 : Int32)).toNatClampNeg) := inb_of S235 ⟨by decide, by decide⟩
  have at235 : cl235.slots[((3 : Int32)).toNatClampNeg]? = some (.long (((1 : Int64) <<< (w3 &&& 0x3f).toInt64) - (1 : Int64))) := H235.at in235 rfl
  have pre236 : Go p.tables e below S0 T233 (mkF m 116 #[vR a0, vR a1, vI j66_l2_202, vI j66_l3_203, vI (3 : Int32)] [(.long (((((1 : Int64) <<< (w3 &&& 0x3f).toInt64) - (1 : Int64)) <<< (j66_l2_202 &&& 0x3f).toInt64) ^^^ (-1 : Int64))), (.int (3 : Int32)), (.ref b48)]) := fun t k => pre234 t (by
    refine X233.laload hx (j := (3 : Int32)) (v := (.long (((1 : Int64) <<< (w3 &&& 0x3f).toInt64) - (1 : Int64)))) (by rw [e233]; exact Ar235.1) (State.isArrayOf_alike hZ.alike Ar235.2.1) Ar235.2.2 in235 at235 (g := (mkF m 109 #[vR a0, vR a1, vI j66_l2_202, vI j66_l3_203, vI (3 : Int32)] [(.int (3 : Int32)), (.ref b33), (.int (3 : Int32)), (.ref b48)])) rfl rfl (hb hby d4_109) _ ?_
    refine XS.iloadN X233.here hx rfl (hb hby d4_110) rfl ?_
    refine XS.lshl X233.here hx rfl (hb hby d4_111) rfl ?_
    show Steps p.tables e below (T233.setTop (mkF m 112 #[vR a0, vR a1, vI j66_l2_202, vI j66_l3_203, vI (3 : Int32)] [(.long ((((1 : Int64) <<< (w3 &&& 0x3f).toInt64) - (1 : Int64)) <<< (j66_l2_202 &&& 0x3f).toInt64)), (.int (3 : Int32)), (.ref b48)])) _
    refine X233.ldc2Long hx hown (mvT hZ (hw _ (List.mem_of_getElem? (i := 30) rfl))) (g := (mkF m 112 #[vR a0, vR a1, vI j66_l2_202, vI j66_l3_203, vI (3 : Int32)] [(.long ((((1 : Int64) <<< (w3 &&& 0x3f).toInt64) - (1 : Int64)) <<< (j66_l2_202 &&& 0x3f).toInt64)), (.int (3 : Int32)), (.ref b48)])) rfl (hb hby d4_112) _ ?_
    refine XS.lxor X233.here hx rfl (hb hby d4_115) rfl ?_
    exact k)
  obtain ⟨cl237, Ar237, q237, S237, M237, H237, G237⟩ := id f227_11
  have in237 : ¬ ((3 : Int32) < 0 ∨ cl237.slots.size ≤ ((3 : Int32)).toNatClampNeg) := inb_of S237 ⟨by decide, by decide⟩
  obtain ⟨T237, h237, X237, e237, W237, st237⟩ := stJ X233 hx hZ e233 Ar237 (j := (3 : Int32)) in237 (g := (mkF m 116 #[vR a0, vR a1, vI j66_l2_202, vI j66_l3_203, vI (3 : Int32)] [(.long (((((1 : Int64) <<< (w3 &&& 0x3f).toInt64) - (1 : Int64)) <<< (j66_l2_202 &&& 0x3f).toInt64) ^^^ (-1 : Int64))), (.int (3 : Int32)), (.ref b48)])) rfl rfl (hb hby d4_116)
  have pre237 : Go p.tables e below S0 T237 (mkF m 117 #[vR a0, vR a1, vI j66_l2_202, vI j66_l3_203, vI (3 : Int32)] []) := fun t k => pre236 t (st237 t k)
  obtain ⟨lo237, N237, X237⟩ : ∃ lo, Fr n0 lo ∧ Stand p l e ({ frames := 1, cells := 4, slots := 20, locals := 12 } : Room) s m #[(.ref a0), (.ref a1)] below meth c T237 lo 4 20 := ⟨_, Fr.snoc X237 N226 bo48, X237⟩
  have av237 : Arv Z h237 b48 kA48 .long (5 : Int32) [(.long (((((1 : Int64) <<< (w0 &&& 0x3f).toInt64) - (1 : Int64)) <<< ((0 : Int32) &&& 0x3f).toInt64) ^^^ (-1 : Int64))), (.long (((((1 : Int64) <<< (w1 &&& 0x3f).toInt64) - (1 : Int64)) <<< (((0 : Int32) + w0) &&& 0x3f).toInt64) ^^^ (-1 : Int64))), (.long (((((1 : Int64) <<< (w2 &&& 0x3f).toInt64) - (1 : Int64)) <<< (j66_l2_153 &&& 0x3f).toInt64) ^^^ (-1 : Int64))), (.long (((((1 : Int64) <<< (w3 &&& 0x3f).toInt64) - (1 : Int64)) <<< (j66_l2_202 &&& 0x3f).toInt64) ^^^ (-1 : Int64))), (.long (0 : Int64))] (.long (0 : Int64)) := Arv.set Ar237 q237 S237 M237 H237 G237 rfl W237 3 rfl (Nat.le_of_ble_eq_true rfl)
  have f238_1 := Exa.wr W237 f227_1
  have f238_2 := Fld.other W237 f227_2 (Or.inl ne49)
  have f238_3 := Fld.other W237 f227_3 (Or.inl ne49)
  have f238_4 := Fld.other W237 f227_4 (Or.inl ne49)
  have f238_5 := Fld.other W237 f227_5 (Or.inl ne49)
  have f238_6 := Fld.other W237 f227_6 (Or.inl ne49)
  have f238_7 := Fld.other W237 f227_7 (Or.inl ne49)
  have f238_8 := f227_8.other W237 ne50
  have f238_9 := f227_9.other W237 ne51
  have f238_10 := f227_10.other W237 ne52
  have f238_11 := av226.other W237 ne53
  have zz239 : n0 ≤ h237.size := Nat.le_trans zz228 (Keep.of_wr W237).1
  have kp240 : Keep h0 h237 [a0] := kp229.wr W237 (Or.inr ol48)
  have pre241 : Go p.tables e below S0 T237 (mkF m 121 #[vR a0, vR a1, vI j66_l2_202, vI j66_l3_203, vI (3 : Int32)] [(.int (3 : Int32)), (.ref a1), (.int j66_l2_202)]) := fun t k => pre237 t (by
    refine XS.iloadN X237.here hx rfl (hb hby d4_117) rfl ?_
    refine XS.aloadN X237.here hx rfl (hb hby d4_118) rfl rfl ?_
    refine XS.iload X237.here hx rfl (hb hby d4_119) rfl ?_
    show Steps p.tables e below (T237.setTop (mkF m 121 #[vR a0, vR a1, vI j66_l2_202, vI j66_l3_203, vI (3 : Int32)] [(.int (3 : Int32)), (.ref a1), (.int j66_l2_202)])) _
    exact k)
  obtain ⟨cl242, Ar242, q242, S242, M242, H242, G242⟩ := id f238_8
  have in242 : ¬ ((3 : Int32) < 0 ∨ cl242.slots.size ≤ ((3 : Int32)).toNatClampNeg) := inb_of S242 ⟨by decide, by decide⟩
  have at242 : cl242.slots[((3 : Int32)).toNatClampNeg]? = some (.int w3) := H242.at in242 rfl
  have pre243 : Go p.tables e below S0 T237 (mkF m 46 #[vR a0, vR a1, vI (j66_l2_202 + w3), vI j66_l3_203, vI (4 : Int32)] [(.ref a1), (.int (4 : Int32))]) := fun t k => pre241 t (by
    refine X237.iaload hx (j := (3 : Int32)) (v := (.int w3)) (by rw [e237]; exact Ar242.1) (State.isArrayOf_alike hZ.alike Ar242.2.1) Ar242.2.2 in242 at242 (g := (mkF m 121 #[vR a0, vR a1, vI j66_l2_202, vI j66_l3_203, vI (3 : Int32)] [(.int (3 : Int32)), (.ref a1), (.int j66_l2_202)])) rfl rfl (hb hby d4_121) _ ?_
    refine XS.iadd X237.here hx rfl (hb hby d4_122) rfl ?_
    refine XS.istoreN X237.here hx rfl (hb hby d4_123) rfl (l' := #[vR a0, vR a1, vI (j66_l2_202 + w3), vI j66_l3_203, vI (3 : Int32)]) rfl ?_
    show Steps p.tables e below (T237.setTop (mkF m 124 #[vR a0, vR a1, vI (j66_l2_202 + w3), vI j66_l3_203, vI (3 : Int32)] [])) _
    refine XS.iinc X237.here hx rfl (hb hby d4_124) rfl (l' := #[vR a0, vR a1, vI (j66_l2_202 + w3), vI j66_l3_203, vI (4 : Int32)]) rfl ?_
    refine XS.goto X237.here hx rfl (pc0 := 127) (pc' := 43) rfl (hb hby d4_127) (by decide) (by decide) ?_
    refine XS.iload X237.here hx rfl (hb hby d4_43) rfl ?_
    show Steps p.tables e below (T237.setTop (mkF m 45 #[vR a0, vR a1, vI (j66_l2_202 + w3), vI j66_l3_203, vI (4 : Int32)] [(.int (4 : Int32))])) _
    refine XS.aloadN X237.here hx rfl (hb hby d4_45) rfl rfl ?_
    exact k)
  obtain ⟨cl244, Ar244, q244, S244, M244, H244, G244⟩ := id f238_8
  have pre245 : Go p.tables e below S0 T237 (mkF m 54 #[vR a0, vR a1, vI (j66_l2_202 + w3), vI j66_l3_203, vI (4 : Int32)] [(.int (4 : Int32)), (.ref a1), (.int (j66_l2_202 + w3))]) := fun t k => pre243 t (by
    refine X237.arraylength hx (by rw [e237]; exact Ar244.1) (State.isArrayOf_alike hZ.alike Ar244.2.1) (g := (mkF m 46 #[vR a0, vR a1, vI (j66_l2_202 + w3), vI j66_l3_203, vI (4 : Int32)] [(.ref a1), (.int (4 : Int32))])) rfl rfl (hb hby d4_46) _ ?_
    rw [len_of S244 M244]
    refine XS.icmpNo X237.here hx rfl (hb hby d4_47) rfl (tlt (by decide : (4 : Int32) < (5 : Int32))).2.1 ?_
    refine XS.iloadN X237.here hx rfl (hb hby d4_50) rfl ?_
    show Steps p.tables e below (T237.setTop (mkF m 51 #[vR a0, vR a1, vI (j66_l2_202 + w3), vI j66_l3_203, vI (4 : Int32)] [(.int (j66_l2_202 + w3))])) _
    refine XS.aloadN X237.here hx rfl (hb hby d4_51) rfl rfl ?_
    refine XS.iload X237.here hx rfl (hb hby d4_52) rfl ?_
    exact k)
  obtain ⟨cl246, Ar246, q246, S246, M246, H246, G246⟩ := id f238_8
  have in246 : ¬ ((4 : Int32) < 0 ∨ cl246.slots.size ≤ ((4 : Int32)).toNatClampNeg) := inb_of S246 ⟨by decide, by decide⟩
  have at246 : cl246.slots[((4 : Int32)).toNatClampNeg]? = some (.int w4) := H246.at in246 rfl
  have pre247 : Go p.tables e below S0 T237 (mkF m 58 #[vR a0, vR a1, vI (j66_l2_202 + w3), vI j66_l3_203, vI (4 : Int32)] [(.int (64 : Int32)), (.int ((j66_l2_202 + w3) + w4))]) := fun t k => pre245 t (by
    refine X237.iaload hx (j := (4 : Int32)) (v := (.int w4)) (by rw [e237]; exact Ar246.1) (State.isArrayOf_alike hZ.alike Ar246.2.1) Ar246.2.2 in246 at246 (g := (mkF m 54 #[vR a0, vR a1, vI (j66_l2_202 + w3), vI j66_l3_203, vI (4 : Int32)] [(.int (4 : Int32)), (.ref a1), (.int (j66_l2_202 + w3))])) rfl rfl (hb hby d4_54) _ ?_
    refine XS.iadd X237.here hx rfl (hb hby d4_55) rfl ?_
    refine XS.bipush X237.here hx rfl (hb hby d4_56) ?_
    show Steps p.tables e below (T237.setTop (mkF m 58 #[vR a0, vR a1, vI (j66_l2_202 + w3), vI j66_l3_203, vI (4 : Int32)] [(.int (64 : Int32)), (.int ((j66_l2_202 + w3) + w4))])) _
    exact k)
  refine cps (A := ∃ (j66_l2_251 : Int32) (j66_l3_252 : Int32), (j66_l3_252 = own_cur j66_l3_203 (j66_l2_202 + w3) w4 ∧ j66_l2_251 = own_u0 (j66_l2_202 + w3) w4) ∧ (Go p.tables e below S0 T237 (mkF m 66 #[vR a0, vR a1, vI j66_l2_251, vI j66_l3_252, vI (4 : Int32)] []))) (fun tail255 => ?_) ?_
  · skip
    by_cases c58_248 : (64 : Int32) < ((j66_l2_202 + w3) + w4)
    · skip
      have pre249 : Go p.tables e below S0 T237 (mkF m 66 #[vR a0, vR a1, vI (0 : Int32), vI (j66_l3_203 + (1 : Int32)), vI (4 : Int32)] []) := fun t k => pre247 t (by
        refine XS.icmpNo X237.here hx rfl (hb hby d4_58) rfl (tlt c58_248).2.2.2 ?_
        refine XS.iinc X237.here hx rfl (hb hby d4_61) rfl (l' := #[vR a0, vR a1, vI (j66_l2_202 + w3), vI (j66_l3_203 + (1 : Int32)), vI (4 : Int32)]) rfl ?_
        refine XS.iconst X237.here hx rfl (hb hby d4_64) ?_
        show Steps p.tables e below (T237.setTop (mkF m 65 #[vR a0, vR a1, vI (j66_l2_202 + w3), vI (j66_l3_203 + (1 : Int32)), vI (4 : Int32)] [(.int (0 : Int32))])) _
        refine XS.istoreN X237.here hx rfl (hb hby d4_65) rfl (l' := #[vR a0, vR a1, vI (0 : Int32), vI (j66_l3_203 + (1 : Int32)), vI (4 : Int32)]) rfl ?_
        exact k)
      exact tail255 ⟨(0 : Int32), (j66_l3_203 + (1 : Int32)), (by exact ⟨(if_pos c58_248).symm, (if_pos c58_248).symm⟩), pre249⟩
    · skip
      have pre250 : Go p.tables e below S0 T237 (mkF m 66 #[vR a0, vR a1, vI (j66_l2_202 + w3), vI j66_l3_203, vI (4 : Int32)] []) := fun t k => pre247 t (by
        refine XS.icmpYes X237.here hx rfl (pc0 := 58) (pc' := 66) rfl (hb hby d4_58) rfl (flt c58_248).2.2.2 (by decide) (by decide) ?_
        exact k)
      exact tail255 ⟨(j66_l2_202 + w3), j66_l3_203, (by exact ⟨(if_neg c58_248).symm, (if_neg c58_248).symm⟩), pre250⟩
  rintro ⟨j66_l2_251, j66_l3_252, hj66_253, pre254⟩
  have pre256 : Go p.tables e below S0 T237 (mkF m 67 #[vR a0, vR a1, vI j66_l2_251, vI j66_l3_252, vI (4 : Int32)] [(.ref a0)]) := fun t k => pre254 t (by
    refine XS.aloadN X237.here hx rfl (hb hby d4_66) rfl rfl ?_
    exact k)
  obtain ⟨T257, X257, e257, st257⟩ := getF X237 hx hZ hown (host := "") (Or.inl (hw _ (List.mem_of_getElem? (i := 22) rfl))) Via.refl e237 f238_2 (g := (mkF m 67 #[vR a0, vR a1, vI j66_l2_251, vI j66_l3_252, vI (4 : Int32)] [(.ref a0)])) rfl rfl (hb hby d4_67)
  have pre257 : Go p.tables e below S0 T257 (mkF m 70 #[vR a0, vR a1, vI j66_l2_251, vI j66_l3_252, vI (4 : Int32)] [(.ref b6)]) := fun t k => pre256 t (st257 t k)
  have pre258 : Go p.tables e below S0 T257 (mkF m 73 #[vR a0, vR a1, vI j66_l2_251, vI j66_l3_252, vI (4 : Int32)] [(.int j66_l3_252), (.int (4 : Int32)), (.ref b6)]) := fun t k => pre257 t (by
    refine XS.iload X257.here hx rfl (hb hby d4_70) rfl ?_
    refine XS.iloadN X257.here hx rfl (hb hby d4_72) rfl ?_
    exact k)
  obtain ⟨cl259, Ar259, q259, S259, M259, H259, G259⟩ := id f238_9
  have in259 : ¬ ((4 : Int32) < 0 ∨ cl259.slots.size ≤ ((4 : Int32)).toNatClampNeg) := inb_of S259 ⟨by decide, by decide⟩
  obtain ⟨T259, h259, X259, e259, W259, st259⟩ := stI X257 hx hZ e257 Ar259 (j := (4 : Int32)) in259 (g := (mkF m 73 #[vR a0, vR a1, vI j66_l2_251, vI j66_l3_252, vI (4 : Int32)] [(.int j66_l3_252), (.int (4 : Int32)), (.ref b6)])) rfl rfl (hb hby d4_73)
  have pre259 : Go p.tables e below S0 T259 (mkF m 74 #[vR a0, vR a1, vI j66_l2_251, vI j66_l3_252, vI (4 : Int32)] []) := fun t k => pre258 t (st259 t k)
  obtain ⟨lo259, N259, X259⟩ : ∃ lo, Fr n0 lo ∧ Stand p l e ({ frames := 1, cells := 4, slots := 20, locals := 12 } : Room) s m #[(.ref a0), (.ref a1)] below meth c T259 lo 4 20 := ⟨_, Fr.snoc X259 N237 bo6, X259⟩
  have av259 : Arv Z h259 b6 kA6 .int (5 : Int32) [(.int (0 : Int32)), (.int (0 : Int32)), (.int j66_l3_154), (.int j66_l3_203), (.int j66_l3_252)] (.int (0 : Int32)) := Arv.set Ar259 q259 S259 M259 H259 G259 rfl W259 4 rfl (Nat.le_of_ble_eq_true rfl)
  have f260_1 := Exa.wr W259 f238_1
  have f260_2 := Fld.other W259 f238_2 (Or.inl ne7)
  have f260_3 := Fld.other W259 f238_3 (Or.inl ne7)
  have f260_4 := Fld.other W259 f238_4 (Or.inl ne7)
  have f260_5 := Fld.other W259 f238_5 (Or.inl ne7)
  have f260_6 := Fld.other W259 f238_6 (Or.inl ne7)
  have f260_7 := Fld.other W259 f238_7 (Or.inl ne7)
  have f260_8 := f238_8.other W259 ne8
  have f260_9 := f238_10.other W259 (Ne.symm ne22)
  have f260_10 := f238_11.other W259 (Ne.symm ne36)
  have f260_11 := av237.other W259 (Ne.symm ne51)
  have zz261 : n0 ≤ h259.size := Nat.le_trans zz239 (Keep.of_wr W259).1
  have kp262 : Keep h0 h259 [a0] := kp240.wr W259 (Or.inr ol6)
  have pre263 : Go p.tables e below S0 T259 (mkF m 75 #[vR a0, vR a1, vI j66_l2_251, vI j66_l3_252, vI (4 : Int32)] [(.ref a0)]) := fun t k => pre259 t (by
    refine XS.aloadN X259.here hx rfl (hb hby d4_74) rfl rfl ?_
    exact k)
  obtain ⟨T264, X264, e264, st264⟩ := getF X259 hx hZ hown (host := "") (Or.inl (hw _ (List.mem_of_getElem? (i := 24) rfl))) Via.refl e259 f260_3 (g := (mkF m 75 #[vR a0, vR a1, vI j66_l2_251, vI j66_l3_252, vI (4 : Int32)] [(.ref a0)])) rfl rfl (hb hby d4_75)
  have pre264 : Go p.tables e below S0 T264 (mkF m 78 #[vR a0, vR a1, vI j66_l2_251, vI j66_l3_252, vI (4 : Int32)] [(.ref b19)]) := fun t k => pre263 t (st264 t k)
  have pre265 : Go p.tables e below S0 T264 (mkF m 81 #[vR a0, vR a1, vI j66_l2_251, vI j66_l3_252, vI (4 : Int32)] [(.int j66_l2_251), (.int (4 : Int32)), (.ref b19)]) := fun t k => pre264 t (by
    refine XS.iload X264.here hx rfl (hb hby d4_78) rfl ?_
    refine XS.iloadN X264.here hx rfl (hb hby d4_80) rfl ?_
    exact k)
  obtain ⟨cl266, Ar266, q266, S266, M266, H266, G266⟩ := id f260_9
  have in266 : ¬ ((4 : Int32) < 0 ∨ cl266.slots.size ≤ ((4 : Int32)).toNatClampNeg) := inb_of S266 ⟨by decide, by decide⟩
  obtain ⟨T266, h266, X266, e266, W266, st266⟩ := stI X264 hx hZ e264 Ar266 (j := (4 : Int32)) in266 (g := (mkF m 81 #[vR a0, vR a1, vI j66_l2_251, vI j66_l3_252, vI (4 : Int32)] [(.int j66_l2_251), (.int (4 : Int32)), (.ref b19)])) rfl rfl (hb hby d4_81)
  have pre266 : Go p.tables e below S0 T266 (mkF m 82 #[vR a0, vR a1, vI j66_l2_251, vI j66_l3_252, vI (4 : Int32)] []) := fun t k => pre265 t (st266 t k)
  obtain ⟨lo266, N266, X266⟩ : ∃ lo, Fr n0 lo ∧ Stand p l e ({ frames := 1, cells := 4, slots := 20, locals := 12 } : Room) s m #[(.ref a0), (.ref a1)] below meth c T266 lo 4 20 := ⟨_, Fr.snoc X266 N259 bo19, X266⟩
  have av266 : Arv Z h266 b19 kA19 .int (5 : Int32) [(.int (0 : Int32)), (.int ((0 : Int32) + w0)), (.int j66_l2_153), (.int j66_l2_202), (.int j66_l2_251)] (.int (0 : Int32)) := Arv.set Ar266 q266 S266 M266 H266 G266 rfl W266 4 rfl (Nat.le_of_ble_eq_true rfl)
  have f267_1 := Exa.wr W266 f260_1
  have f267_2 := Fld.other W266 f260_2 (Or.inl ne20)
  have f267_3 := Fld.other W266 f260_3 (Or.inl ne20)
  have f267_4 := Fld.other W266 f260_4 (Or.inl ne20)
  have f267_5 := Fld.other W266 f260_5 (Or.inl ne20)
  have f267_6 := Fld.other W266 f260_6 (Or.inl ne20)
  have f267_7 := Fld.other W266 f260_7 (Or.inl ne20)
  have f267_8 := f260_8.other W266 ne21
  have f267_9 := av259.other W266 ne22
  have f267_10 := f260_10.other W266 (Ne.symm ne37)
  have f267_11 := f260_11.other W266 (Ne.symm ne52)
  have zz268 : n0 ≤ h266.size := Nat.le_trans zz261 (Keep.of_wr W266).1
  have kp269 : Keep h0 h266 [a0] := kp262.wr W266 (Or.inr ol19)
  have pre270 : Go p.tables e below S0 T266 (mkF m 83 #[vR a0, vR a1, vI j66_l2_251, vI j66_l3_252, vI (4 : Int32)] [(.ref a0)]) := fun t k => pre266 t (by
    refine XS.aloadN X266.here hx rfl (hb hby d4_82) rfl rfl ?_
    exact k)
  obtain ⟨T271, X271, e271, st271⟩ := getF X266 hx hZ hown (host := "") (Or.inl (hw _ (List.mem_of_getElem? (i := 26) rfl))) Via.refl e266 f267_4 (g := (mkF m 83 #[vR a0, vR a1, vI j66_l2_251, vI j66_l3_252, vI (4 : Int32)] [(.ref a0)])) rfl rfl (hb hby d4_83)
  have pre271 : Go p.tables e below S0 T271 (mkF m 86 #[vR a0, vR a1, vI j66_l2_251, vI j66_l3_252, vI (4 : Int32)] [(.ref b33)]) := fun t k => pre270 t (st271 t k)
  have pre272 : Go p.tables e below S0 T271 (mkF m 92 #[vR a0, vR a1, vI j66_l2_251, vI j66_l3_252, vI (4 : Int32)] [(.int (4 : Int32)), (.ref a1), (.long (1 : Int64)), (.int (4 : Int32)), (.ref b33)]) := fun t k => pre271 t (by
    refine XS.iload X271.here hx rfl (hb hby d4_86) rfl ?_
    refine XS.lconst X271.here hx rfl (hb hby d4_88) ?_
    refine XS.aloadN X271.here hx rfl (hb hby d4_89) rfl rfl ?_
    show Steps p.tables e below (T271.setTop (mkF m 90 #[vR a0, vR a1, vI j66_l2_251, vI j66_l3_252, vI (4 : Int32)] [(.ref a1), (.long (1 : Int64)), (.int (4 : Int32)), (.ref b33)])) _
    refine XS.iload X271.here hx rfl (hb hby d4_90) rfl ?_
    exact k)
  obtain ⟨cl273, Ar273, q273, S273, M273, H273, G273⟩ := id f267_8
  have in273 : ¬ ((4 : Int32) < 0 ∨ cl273.slots.size ≤ ((4 : Int32)).toNatClampNeg) := inb_of S273 ⟨by decide, by decide⟩
  have at273 : cl273.slots[((4 : Int32)).toNatClampNeg]? = some (.int w4) := H273.at in273 rfl
  have pre274 : Go p.tables e below S0 T271 (mkF m 96 #[vR a0, vR a1, vI j66_l2_251, vI j66_l3_252, vI (4 : Int32)] [(.long (((1 : Int64) <<< (w4 &&& 0x3f).toInt64) - (1 : Int64))), (.int (4 : Int32)), (.ref b33)]) := fun t k => pre272 t (by
    refine X271.iaload hx (j := (4 : Int32)) (v := (.int w4)) (by rw [e271]; exact Ar273.1) (State.isArrayOf_alike hZ.alike Ar273.2.1) Ar273.2.2 in273 at273 (g := (mkF m 92 #[vR a0, vR a1, vI j66_l2_251, vI j66_l3_252, vI (4 : Int32)] [(.int (4 : Int32)), (.ref a1), (.long (1 : Int64)), (.int (4 : Int32)), (.ref b33)])) rfl rfl (hb hby d4_92) _ ?_
    refine XS.lshl X271.here hx rfl (hb hby d4_93) rfl ?_
    refine XS.lconst X271.here hx rfl (hb hby d4_94) ?_
    show Steps p.tables e below (T271.setTop (mkF m 95 #[vR a0, vR a1, vI j66_l2_251, vI j66_l3_252, vI (4 : Int32)] [(.long (1 : Int64)), (.long ((1 : Int64) <<< (w4 &&& 0x3f).toInt64)), (.int (4 : Int32)), (.ref b33)])) _
    refine XS.lsub X271.here hx rfl (hb hby d4_95) rfl ?_
    exact k)
  obtain ⟨cl275, Ar275, q275, S275, M275, H275, G275⟩ := id f267_10
  have in275 : ¬ ((4 : Int32) < 0 ∨ cl275.slots.size ≤ ((4 : Int32)).toNatClampNeg) := inb_of S275 ⟨by decide, by decide⟩
  obtain ⟨T275, h275, X275, e275, W275, st275⟩ := stJ X271 hx hZ e271 Ar275 (j := (4 : Int32)) in275 (g := (mkF m 96 #[vR a0, vR a1, vI j66_l2_251, vI j66_l3_252, vI (4 : Int32)] [(.long (((1 : Int64) <<< (w4 &&& 0x3f).toInt64) - (1 : Int64))), (.int (4 : Int32)), (.ref b33)])) rfl rfl (hb hby d4_96)
  have pre275 : Go p.tables e below S0 T275 (mkF m 97 #[vR a0, vR a1, vI j66_l2_251, vI j66_l3_252, vI (4 : Int32)] []) := fun t k => pre274 t (st275 t k)
  obtain ⟨lo275, N275, X275⟩ : ∃ lo, Fr n0 lo ∧ Stand p l e ({ frames := 1, cells := 4, slots := 20, locals := 12 } : Room) s m #[(.ref a0), (.ref a1)] below meth c T275 lo 4 20 := ⟨_, Fr.snoc X275 N266 bo33, X275⟩
  have av275 : Arv Z h275 b33 kA33 .long (5 : Int32) [(.long (((1 : Int64) <<< (w0 &&& 0x3f).toInt64) - (1 : Int64))), (.long (((1 : Int64) <<< (w1 &&& 0x3f).toInt64) - (1 : Int64))), (.long (((1 : Int64) <<< (w2 &&& 0x3f).toInt64) - (1 : Int64))), (.long (((1 : Int64) <<< (w3 &&& 0x3f).toInt64) - (1 : Int64))), (.long (((1 : Int64) <<< (w4 &&& 0x3f).toInt64) - (1 : Int64)))] (.long (0 : Int64)) := Arv.set Ar275 q275 S275 M275 H275 G275 rfl W275 4 rfl (Nat.le_of_ble_eq_true rfl)
  have f276_1 := Exa.wr W275 f267_1
  have f276_2 := Fld.other W275 f267_2 (Or.inl ne34)
  have f276_3 := Fld.other W275 f267_3 (Or.inl ne34)
  have f276_4 := Fld.other W275 f267_4 (Or.inl ne34)
  have f276_5 := Fld.other W275 f267_5 (Or.inl ne34)
  have f276_6 := Fld.other W275 f267_6 (Or.inl ne34)
  have f276_7 := Fld.other W275 f267_7 (Or.inl ne34)
  have f276_8 := f267_8.other W275 ne35
  have f276_9 := f267_9.other W275 ne36
  have f276_10 := av266.other W275 ne37
  have f276_11 := f267_11.other W275 (Ne.symm ne53)
  have zz277 : n0 ≤ h275.size := Nat.le_trans zz268 (Keep.of_wr W275).1
  have kp278 : Keep h0 h275 [a0] := kp269.wr W275 (Or.inr ol33)
  have pre279 : Go p.tables e below S0 T275 (mkF m 98 #[vR a0, vR a1, vI j66_l2_251, vI j66_l3_252, vI (4 : Int32)] [(.ref a0)]) := fun t k => pre275 t (by
    refine XS.aloadN X275.here hx rfl (hb hby d4_97) rfl rfl ?_
    exact k)
  obtain ⟨T280, X280, e280, st280⟩ := getF X275 hx hZ hown (host := "") (Or.inl (hw _ (List.mem_of_getElem? (i := 28) rfl))) Via.refl e275 f276_5 (g := (mkF m 98 #[vR a0, vR a1, vI j66_l2_251, vI j66_l3_252, vI (4 : Int32)] [(.ref a0)])) rfl rfl (hb hby d4_98)
  have pre280 : Go p.tables e below S0 T280 (mkF m 101 #[vR a0, vR a1, vI j66_l2_251, vI j66_l3_252, vI (4 : Int32)] [(.ref b48)]) := fun t k => pre279 t (st280 t k)
  have pre281 : Go p.tables e below S0 T280 (mkF m 104 #[vR a0, vR a1, vI j66_l2_251, vI j66_l3_252, vI (4 : Int32)] [(.ref a0), (.int (4 : Int32)), (.ref b48)]) := fun t k => pre280 t (by
    refine XS.iload X280.here hx rfl (hb hby d4_101) rfl ?_
    refine XS.aloadN X280.here hx rfl (hb hby d4_103) rfl rfl ?_
    exact k)
  obtain ⟨T282, X282, e282, st282⟩ := getF X280 hx hZ hown (host := "") (Or.inl (hw _ (List.mem_of_getElem? (i := 26) rfl))) Via.refl e280 f276_4 (g := (mkF m 104 #[vR a0, vR a1, vI j66_l2_251, vI j66_l3_252, vI (4 : Int32)] [(.ref a0), (.int (4 : Int32)), (.ref b48)])) rfl rfl (hb hby d4_104)
  have pre282 : Go p.tables e below S0 T282 (mkF m 107 #[vR a0, vR a1, vI j66_l2_251, vI j66_l3_252, vI (4 : Int32)] [(.ref b33), (.int (4 : Int32)), (.ref b48)]) := fun t k => pre281 t (st282 t k)
  have pre283 : Go p.tables e below S0 T282 (mkF m 109 #[vR a0, vR a1, vI j66_l2_251, vI j66_l3_252, vI (4 : Int32)] [(.int (4 : Int32)), (.ref b33), (.int (4 : Int32)), (.ref b48)]) := fun t k => pre282 t (by
    refine XS.iload X282.here hx rfl (hb hby d4_107) rfl ?_
    exact k)
  obtain ⟨cl284, Ar284, q284, S284, M284, H284, G284⟩ := id av275
  have in284 : ¬ ((4 : Int32) < 0 ∨ cl284.slots.size ≤ ((4 : Int32)).toNatClampNeg) := inb_of S284 ⟨by decide, by decide⟩
  have at284 : cl284.slots[((4 : Int32)).toNatClampNeg]? = some (.long (((1 : Int64) <<< (w4 &&& 0x3f).toInt64) - (1 : Int64))) := H284.at in284 rfl
  have pre285 : Go p.tables e below S0 T282 (mkF m 116 #[vR a0, vR a1, vI j66_l2_251, vI j66_l3_252, vI (4 : Int32)] [(.long (((((1 : Int64) <<< (w4 &&& 0x3f).toInt64) - (1 : Int64)) <<< (j66_l2_251 &&& 0x3f).toInt64) ^^^ (-1 : Int64))), (.int (4 : Int32)), (.ref b48)]) := fun t k => pre283 t (by
    refine X282.laload hx (j := (4 : Int32)) (v := (.long (((1 : Int64) <<< (w4 &&& 0x3f).toInt64) - (1 : Int64)))) (by rw [e282]; exact Ar284.1) (State.isArrayOf_alike hZ.alike Ar284.2.1) Ar284.2.2 in284 at284 (g := (mkF m 109 #[vR a0, vR a1, vI j66_l2_251, vI j66_l3_252, vI (4 : Int32)] [(.int (4 : Int32)), (.ref b33), (.int (4 : Int32)), (.ref b48)])) rfl rfl (hb hby d4_109) _ ?_
    refine XS.iloadN X282.here hx rfl (hb hby d4_110) rfl ?_
    refine XS.lshl X282.here hx rfl (hb hby d4_111) rfl ?_
    show Steps p.tables e below (T282.setTop (mkF m 112 #[vR a0, vR a1, vI j66_l2_251, vI j66_l3_252, vI (4 : Int32)] [(.long ((((1 : Int64) <<< (w4 &&& 0x3f).toInt64) - (1 : Int64)) <<< (j66_l2_251 &&& 0x3f).toInt64)), (.int (4 : Int32)), (.ref b48)])) _
    refine X282.ldc2Long hx hown (mvT hZ (hw _ (List.mem_of_getElem? (i := 30) rfl))) (g := (mkF m 112 #[vR a0, vR a1, vI j66_l2_251, vI j66_l3_252, vI (4 : Int32)] [(.long ((((1 : Int64) <<< (w4 &&& 0x3f).toInt64) - (1 : Int64)) <<< (j66_l2_251 &&& 0x3f).toInt64)), (.int (4 : Int32)), (.ref b48)])) rfl (hb hby d4_112) _ ?_
    refine XS.lxor X282.here hx rfl (hb hby d4_115) rfl ?_
    exact k)
  obtain ⟨cl286, Ar286, q286, S286, M286, H286, G286⟩ := id f276_11
  have in286 : ¬ ((4 : Int32) < 0 ∨ cl286.slots.size ≤ ((4 : Int32)).toNatClampNeg) := inb_of S286 ⟨by decide, by decide⟩
  obtain ⟨T286, h286, X286, e286, W286, st286⟩ := stJ X282 hx hZ e282 Ar286 (j := (4 : Int32)) in286 (g := (mkF m 116 #[vR a0, vR a1, vI j66_l2_251, vI j66_l3_252, vI (4 : Int32)] [(.long (((((1 : Int64) <<< (w4 &&& 0x3f).toInt64) - (1 : Int64)) <<< (j66_l2_251 &&& 0x3f).toInt64) ^^^ (-1 : Int64))), (.int (4 : Int32)), (.ref b48)])) rfl rfl (hb hby d4_116)
  have pre286 : Go p.tables e below S0 T286 (mkF m 117 #[vR a0, vR a1, vI j66_l2_251, vI j66_l3_252, vI (4 : Int32)] []) := fun t k => pre285 t (st286 t k)
  obtain ⟨lo286, N286, X286⟩ : ∃ lo, Fr n0 lo ∧ Stand p l e ({ frames := 1, cells := 4, slots := 20, locals := 12 } : Room) s m #[(.ref a0), (.ref a1)] below meth c T286 lo 4 20 := ⟨_, Fr.snoc X286 N275 bo48, X286⟩
  have av286 : Arv Z h286 b48 kA48 .long (5 : Int32) [(.long (((((1 : Int64) <<< (w0 &&& 0x3f).toInt64) - (1 : Int64)) <<< ((0 : Int32) &&& 0x3f).toInt64) ^^^ (-1 : Int64))), (.long (((((1 : Int64) <<< (w1 &&& 0x3f).toInt64) - (1 : Int64)) <<< (((0 : Int32) + w0) &&& 0x3f).toInt64) ^^^ (-1 : Int64))), (.long (((((1 : Int64) <<< (w2 &&& 0x3f).toInt64) - (1 : Int64)) <<< (j66_l2_153 &&& 0x3f).toInt64) ^^^ (-1 : Int64))), (.long (((((1 : Int64) <<< (w3 &&& 0x3f).toInt64) - (1 : Int64)) <<< (j66_l2_202 &&& 0x3f).toInt64) ^^^ (-1 : Int64))), (.long (((((1 : Int64) <<< (w4 &&& 0x3f).toInt64) - (1 : Int64)) <<< (j66_l2_251 &&& 0x3f).toInt64) ^^^ (-1 : Int64)))] (.long (0 : Int64)) := Arv.set Ar286 q286 S286 M286 H286 G286 rfl W286 4 rfl (Nat.le_of_ble_eq_true rfl)
  have f287_1 := Exa.wr W286 f276_1
  have f287_2 := Fld.other W286 f276_2 (Or.inl ne49)
  have f287_3 := Fld.other W286 f276_3 (Or.inl ne49)
  have f287_4 := Fld.other W286 f276_4 (Or.inl ne49)
  have f287_5 := Fld.other W286 f276_5 (Or.inl ne49)
  have f287_6 := Fld.other W286 f276_6 (Or.inl ne49)
  have f287_7 := Fld.other W286 f276_7 (Or.inl ne49)
  have f287_8 := f276_8.other W286 ne50
  have f287_9 := f276_9.other W286 ne51
  have f287_10 := f276_10.other W286 ne52
  have f287_11 := av275.other W286 ne53
  have zz288 : n0 ≤ h286.size := Nat.le_trans zz277 (Keep.of_wr W286).1
  have kp289 : Keep h0 h286 [a0] := kp278.wr W286 (Or.inr ol48)
  have pre290 : Go p.tables e below S0 T286 (mkF m 121 #[vR a0, vR a1, vI j66_l2_251, vI j66_l3_252, vI (4 : Int32)] [(.int (4 : Int32)), (.ref a1), (.int j66_l2_251)]) := fun t k => pre286 t (by
    refine XS.iloadN X286.here hx rfl (hb hby d4_117) rfl ?_
    refine XS.aloadN X286.here hx rfl (hb hby d4_118) rfl rfl ?_
    refine XS.iload X286.here hx rfl (hb hby d4_119) rfl ?_
    show Steps p.tables e below (T286.setTop (mkF m 121 #[vR a0, vR a1, vI j66_l2_251, vI j66_l3_252, vI (4 : Int32)] [(.int (4 : Int32)), (.ref a1), (.int j66_l2_251)])) _
    exact k)
  obtain ⟨cl291, Ar291, q291, S291, M291, H291, G291⟩ := id f287_8
  have in291 : ¬ ((4 : Int32) < 0 ∨ cl291.slots.size ≤ ((4 : Int32)).toNatClampNeg) := inb_of S291 ⟨by decide, by decide⟩
  have at291 : cl291.slots[((4 : Int32)).toNatClampNeg]? = some (.int w4) := H291.at in291 rfl
  have pre292 : Go p.tables e below S0 T286 (mkF m 46 #[vR a0, vR a1, vI (j66_l2_251 + w4), vI j66_l3_252, vI (5 : Int32)] [(.ref a1), (.int (5 : Int32))]) := fun t k => pre290 t (by
    refine X286.iaload hx (j := (4 : Int32)) (v := (.int w4)) (by rw [e286]; exact Ar291.1) (State.isArrayOf_alike hZ.alike Ar291.2.1) Ar291.2.2 in291 at291 (g := (mkF m 121 #[vR a0, vR a1, vI j66_l2_251, vI j66_l3_252, vI (4 : Int32)] [(.int (4 : Int32)), (.ref a1), (.int j66_l2_251)])) rfl rfl (hb hby d4_121) _ ?_
    refine XS.iadd X286.here hx rfl (hb hby d4_122) rfl ?_
    refine XS.istoreN X286.here hx rfl (hb hby d4_123) rfl (l' := #[vR a0, vR a1, vI (j66_l2_251 + w4), vI j66_l3_252, vI (4 : Int32)]) rfl ?_
    show Steps p.tables e below (T286.setTop (mkF m 124 #[vR a0, vR a1, vI (j66_l2_251 + w4), vI j66_l3_252, vI (4 : Int32)] [])) _
    refine XS.iinc X286.here hx rfl (hb hby d4_124) rfl (l' := #[vR a0, vR a1, vI (j66_l2_251 + w4), vI j66_l3_252, vI (5 : Int32)]) rfl ?_
    refine XS.goto X286.here hx rfl (pc0 := 127) (pc' := 43) rfl (hb hby d4_127) (by decide) (by decide) ?_
    refine XS.iload X286.here hx rfl (hb hby d4_43) rfl ?_
    show Steps p.tables e below (T286.setTop (mkF m 45 #[vR a0, vR a1, vI (j66_l2_251 + w4), vI j66_l3_252, vI (5 : Int32)] [(.int (5 : Int32))])) _
    refine XS.aloadN X286.here hx rfl (hb hby d4_45) rfl rfl ?_
    exact k)
  obtain ⟨cl293, Ar293, q293, S293, M293, H293, G293⟩ := id f287_8
  have pre294 : Go p.tables e below S0 T286 (mkF m 134 #[vR a0, vR a1, vI (j66_l2_251 + w4), vI j66_l3_252, vI (5 : Int32)] [(.int (j66_l3_252 + (1 : Int32))), (.ref a0)]) := fun t k => pre292 t (by
    refine X286.arraylength hx (by rw [e286]; exact Ar293.1) (State.isArrayOf_alike hZ.alike Ar293.2.1) (g := (mkF m 46 #[vR a0, vR a1, vI (j66_l2_251 + w4), vI j66_l3_252, vI (5 : Int32)] [(.ref a1), (.int (5 : Int32))])) rfl rfl (hb hby d4_46) _ ?_
    rw [len_of S293 M293]
    refine XS.icmpYes X286.here hx rfl (pc0 := 47) (pc' := 130) rfl (hb hby d4_47) rfl (flt (by decide : ¬ ((5 : Int32) < (5 : Int32)))).2.1 (by decide) (by decide) ?_
    refine XS.aloadN X286.here hx rfl (hb hby d4_130) rfl rfl ?_
    show Steps p.tables e below (T286.setTop (mkF m 131 #[vR a0, vR a1, vI (j66_l2_251 + w4), vI j66_l3_252, vI (5 : Int32)] [(.ref a0)])) _
    refine XS.iloadN X286.here hx rfl (hb hby d4_131) rfl ?_
    refine XS.iconst X286.here hx rfl (hb hby d4_132) ?_
    refine XS.iadd X286.here hx rfl (hb hby d4_133) rfl ?_
    show Steps p.tables e below (T286.setTop (mkF m 134 #[vR a0, vR a1, vI (j66_l2_251 + w4), vI j66_l3_252, vI (5 : Int32)] [(.int (j66_l3_252 + (1 : Int32))), (.ref a0)])) _
    exact k)
  obtain ⟨T295, h295, X295, e295, W295, st295⟩ := putF X286 hx hZ hown (host := "") (Or.inl (hw _ (List.mem_of_getElem? (i := 31) rfl))) Via.refl e286 f287_6 f287_1 (Or.inr ⟨(hw _ (List.mem_of_getElem? (i := 32) rfl)), rfl, hnm⟩) (hw _ (List.mem_of_getElem? (i := 14) rfl)) (ty := .int) (by decide) rfl rfl (g := (mkF m 134 #[vR a0, vR a1, vI (j66_l2_251 + w4), vI j66_l3_252, vI (5 : Int32)] [(.int (j66_l3_252 + (1 : Int32))), (.ref a0)])) rfl rfl (hb hby d4_134)
  have pre295 : Go p.tables e below S0 T295 (mkF m 137 #[vR a0, vR a1, vI (j66_l2_251 + w4), vI j66_l3_252, vI (5 : Int32)] []) := fun t k => pre294 t (st295 t k)
  obtain ⟨lo295, N295, X295⟩ : ∃ lo, Fr n0 lo ∧ Stand p l e ({ frames := 1, cells := 4, slots := 20, locals := 12 } : Room) s m #[(.ref a0), (.ref a1)] below meth c T295 lo 4 20 := ⟨_, Fr.snoc X295 N286 g0, X295⟩
  have fw295 : Fld Z h295 a0 "com/example/garantia/garantia/engine/StateLayout" "words" "I" (.int (j66_l3_252 + (1 : Int32))) := Fld.same W295 f287_6
  have f296_1 := Exa.wr W295 f287_1
  have f296_2 := Fld.other W295 f287_2 (Or.inr (slot_ne (Or.inr (hw _ (List.mem_of_getElem? (i := 23) rfl))) (Or.inr (hw _ (List.mem_of_getElem? (i := 32) rfl))) (by decide) (t := (.array .int)) (t' := .int) (by decide) (by decide)))
  have f296_3 := Fld.other W295 f287_3 (Or.inr (slot_ne (Or.inr (hw _ (List.mem_of_getElem? (i := 25) rfl))) (Or.inr (hw _ (List.mem_of_getElem? (i := 32) rfl))) (by decide) (t := (.array .int)) (t' := .int) (by decide) (by decide)))
  have f296_4 := Fld.other W295 f287_4 (Or.inr (slot_ne (Or.inr (hw _ (List.mem_of_getElem? (i := 27) rfl))) (Or.inr (hw _ (List.mem_of_getElem? (i := 32) rfl))) (by decide) (t := (.array .long)) (t' := .int) (by decide) (by decide)))
  have f296_5 := Fld.other W295 f287_5 (Or.inr (slot_ne (Or.inr (hw _ (List.mem_of_getElem? (i := 29) rfl))) (Or.inr (hw _ (List.mem_of_getElem? (i := 32) rfl))) (by decide) (t := (.array .long)) (t' := .int) (by decide) (by decide)))
  have f296_6 := Fld.other W295 f287_7 (Or.inr (slot_ne (Or.inr (hw _ (List.mem_of_getElem? (i := 34) rfl))) (Or.inr (hw _ (List.mem_of_getElem? (i := 32) rfl))) (by decide) (t := .boolean) (t' := .int) (by decide) (by decide)))
  have f296_7 := f287_8.other W295 xe1
  have f296_8 := f287_9.other W295 (Ne.symm ne7)
  have f296_9 := f287_10.other W295 (Ne.symm ne20)
  have f296_10 := f287_11.other W295 (Ne.symm ne34)
  have f296_11 := av286.other W295 (Ne.symm ne49)
  have zz297 : n0 ≤ h295.size := Nat.le_trans zz288 (Keep.of_wr W295).1
  have kp298 : Keep h0 h295 [a0] := kp289.wr W295 (Or.inl (List.mem_of_getElem? (i := 0) rfl))
  have pre299 : Go p.tables e below S0 T295 (mkF m 139 #[vR a0, vR a1, vI (j66_l2_251 + w4), vI j66_l3_252, vI (5 : Int32)] [(.ref a0), (.ref a0)]) := fun t k => pre295 t (by
    refine XS.aloadN X295.here hx rfl (hb hby d4_137) rfl rfl ?_
    refine XS.aloadN X295.here hx rfl (hb hby d4_138) rfl rfl ?_
    exact k)
  obtain ⟨T300, X300, e300, st300⟩ := getF X295 hx hZ hown (host := "") (Or.inl (hw _ (List.mem_of_getElem? (i := 31) rfl))) Via.refl e295 fw295 (g := (mkF m 139 #[vR a0, vR a1, vI (j66_l2_251 + w4), vI j66_l3_252, vI (5 : Int32)] [(.ref a0), (.ref a0)])) rfl rfl (hb hby d4_139)
  have pre300 : Go p.tables e below S0 T300 (mkF m 142 #[vR a0, vR a1, vI (j66_l2_251 + w4), vI j66_l3_252, vI (5 : Int32)] [(.int (j66_l3_252 + (1 : Int32))), (.ref a0)]) := fun t k => pre299 t (st300 t k)
  have pre301 : Go p.tables e below S0 T300 (mkF m 143 #[vR a0, vR a1, vI (j66_l2_251 + w4), vI j66_l3_252, vI (5 : Int32)] [(.int (1 : Int32)), (.int (j66_l3_252 + (1 : Int32))), (.ref a0)]) := fun t k => pre300 t (by
    refine XS.iconst X300.here hx rfl (hb hby d4_142) ?_
    exact k)
  by_cases c143_302 : (j66_l3_252 + (1 : Int32)) = (1 : Int32)
  · skip
    have pre303 : Go p.tables e below S0 T300 (mkF m 149 #[vR a0, vR a1, vI (j66_l2_251 + w4), vI j66_l3_252, vI (5 : Int32)] [(.int (32 : Int32)), (.int (j66_l2_251 + w4)), (.ref a0)]) := fun t k => pre301 t (by
      refine XS.icmpNo X300.here hx rfl (hb hby d4_143) rfl (teq c143_302).2 ?_
      refine XS.iloadN X300.here hx rfl (hb hby d4_146) rfl ?_
      refine XS.bipush X300.here hx rfl (hb hby d4_147) ?_
      show Steps p.tables e below (T300.setTop (mkF m 149 #[vR a0, vR a1, vI (j66_l2_251 + w4), vI j66_l3_252, vI (5 : Int32)] [(.int (32 : Int32)), (.int (j66_l2_251 + w4)), (.ref a0)])) _
      exact k)
    by_cases c149_304 : (32 : Int32) < (j66_l2_251 + w4)
    · skip
      have pre305 : Go p.tables e below S0 T300 (mkF m 157 #[vR a0, vR a1, vI (j66_l2_251 + w4), vI j66_l3_252, vI (5 : Int32)] [(.int (0 : Int32)), (.ref a0)]) := fun t k => pre303 t (by
        refine XS.icmpYes X300.here hx rfl (pc0 := 149) (pc' := 156) rfl (hb hby d4_149) rfl (tlt c149_304).2.2.1 (by decide) (by decide) ?_
        refine XS.iconst X300.here hx rfl (hb hby d4_156) ?_
        exact k)
      obtain ⟨T306, h306, X306, e306, W306, st306⟩ := putFN X300 hx hZ hown (hw _ (List.mem_of_getElem? (i := 33) rfl)) Via.refl e300 f296_6 f296_1 (Or.inr ⟨(hw _ (List.mem_of_getElem? (i := 34) rfl)), rfl, hnm⟩) (hw _ (List.mem_of_getElem? (i := 14) rfl)) (ty := .boolean) (v' := (.int (0 : Int32))) (by decide) rfl rfl (g := (mkF m 157 #[vR a0, vR a1, vI (j66_l2_251 + w4), vI j66_l3_252, vI (5 : Int32)] [(.int (0 : Int32)), (.ref a0)])) rfl rfl (hb hby d4_157)
      have pre306 : Go p.tables e below S0 T306 (mkF m 160 #[vR a0, vR a1, vI (j66_l2_251 + w4), vI j66_l3_252, vI (5 : Int32)] []) := fun t k => pre305 t (st306 t k)
      obtain ⟨lo306, N306, X306⟩ : ∃ lo, Fr n0 lo ∧ Stand p l e ({ frames := 1, cells := 4, slots := 20, locals := 12 } : Room) s m #[(.ref a0), (.ref a1)] below meth c T306 lo 4 20 := ⟨_, Fr.snoc X306 N295 g0, X306⟩
      have fw306 : Fld Z h306 a0 "com/example/garantia/garantia/engine/StateLayout" "narrow" "Z" (.int (0 : Int32)) := Fld.same W306 f296_6
      have f307_1 := Exa.wr W306 f296_1
      have f307_2 := Fld.other W306 f296_2 (Or.inr (slot_ne (Or.inr (hw _ (List.mem_of_getElem? (i := 23) rfl))) (Or.inr (hw _ (List.mem_of_getElem? (i := 34) rfl))) (by decide) (t := (.array .int)) (t' := .boolean) (by decide) (by decide)))
      have f307_3 := Fld.other W306 f296_3 (Or.inr (slot_ne (Or.inr (hw _ (List.mem_of_getElem? (i := 25) rfl))) (Or.inr (hw _ (List.mem_of_getElem? (i := 34) rfl))) (by decide) (t := (.array .int)) (t' := .boolean) (by decide) (by decide)))
      have f307_4 := Fld.other W306 f296_4 (Or.inr (slot_ne (Or.inr (hw _ (List.mem_of_getElem? (i := 27) rfl))) (Or.inr (hw _ (List.mem_of_getElem? (i := 34) rfl))) (by decide) (t := (.array .long)) (t' := .boolean) (by decide) (by decide)))
      have f307_5 := Fld.other W306 f296_5 (Or.inr (slot_ne (Or.inr (hw _ (List.mem_of_getElem? (i := 29) rfl))) (Or.inr (hw _ (List.mem_of_getElem? (i := 34) rfl))) (by decide) (t := (.array .long)) (t' := .boolean) (by decide) (by decide)))
      have f307_6 := Fld.other W306 fw295 (Or.inr (slot_ne (Or.inr (hw _ (List.mem_of_getElem? (i := 32) rfl))) (Or.inr (hw _ (List.mem_of_getElem? (i := 34) rfl))) (by decide) (t := .int) (t' := .boolean) (by decide) (by decide)))
      have f307_7 := f296_7.other W306 xe1
      have f307_8 := f296_8.other W306 (Ne.symm ne7)
      have f307_9 := f296_9.other W306 (Ne.symm ne20)
      have f307_10 := f296_10.other W306 (Ne.symm ne34)
      have f307_11 := f296_11.other W306 (Ne.symm ne49)
      have zz308 : n0 ≤ h306.size := Nat.le_trans zz297 (Keep.of_wr W306).1
      have kp309 : Keep h0 h306 [a0] := kp298.wr W306 (Or.inl (List.mem_of_getElem? (i := 0) rfl))
      obtain ⟨fs, hr, hrun, hended, hW, hsame⟩ := X306.leave (v := none) (fun _ => rfl)
      exact ⟨_, _, pre306.fin hS0 (X306.returnOut hx Bd.returns (hb hby d4_160) hr), hrun, hended, _, _, rfl, (by
        show Q4 Z a0 a1 k1 w0 w1 w2 w3 w4 h0 n0 _ T306.heap _
        rw [e306]
        exact ⟨rfl, N306, b6, b19, b33, b48, _, _, _, _, _, _, _, _, _, _, ⟨hj66_155, hj66_204, hj66_253⟩, ⟨ol6, ol19, ol33, ol48⟩, ⟨ne22, ne36, ne51, ne37, ne52, ne53⟩, kp309, f307_1, f307_2, f307_3, f307_4, f307_5, f307_6, f307_8, f307_9, f307_10, f307_11⟩), ⟨_, rfl⟩, hW, hsame.mono (by decide) (by decide)⟩
    · skip
      have pre310 : Go p.tables e below S0 T300 (mkF m 157 #[vR a0, vR a1, vI (j66_l2_251 + w4), vI j66_l3_252, vI (5 : Int32)] [(.int (1 : Int32)), (.ref a0)]) := fun t k => pre303 t (by
        refine XS.icmpNo X300.here hx rfl (hb hby d4_149) rfl (flt c149_304).2.2.1 ?_
        refine XS.iconst X300.here hx rfl (hb hby d4_152) ?_
        refine XS.goto X300.here hx rfl (pc0 := 153) (pc' := 157) rfl (hb hby d4_153) (by decide) (by decide) ?_
        show Steps p.tables e below (T300.setTop (mkF m 157 #[vR a0, vR a1, vI (j66_l2_251 + w4), vI j66_l3_252, vI (5 : Int32)] [(.int (1 : Int32)), (.ref a0)])) _
        exact k)
      obtain ⟨T311, h311, X311, e311, W311, st311⟩ := putFN X300 hx hZ hown (hw _ (List.mem_of_getElem? (i := 33) rfl)) Via.refl e300 f296_6 f296_1 (Or.inr ⟨(hw _ (List.mem_of_getElem? (i := 34) rfl)), rfl, hnm⟩) (hw _ (List.mem_of_getElem? (i := 14) rfl)) (ty := .boolean) (v' := (.int (1 : Int32))) (by decide) rfl rfl (g := (mkF m 157 #[vR a0, vR a1, vI (j66_l2_251 + w4), vI j66_l3_252, vI (5 : Int32)] [(.int (1 : Int32)), (.ref a0)])) rfl rfl (hb hby d4_157)
      have pre311 : Go p.tables e below S0 T311 (mkF m 160 #[vR a0, vR a1, vI (j66_l2_251 + w4), vI j66_l3_252, vI (5 : Int32)] []) := fun t k => pre310 t (st311 t k)
      obtain ⟨lo311, N311, X311⟩ : ∃ lo, Fr n0 lo ∧ Stand p l e ({ frames := 1, cells := 4, slots := 20, locals := 12 } : Room) s m #[(.ref a0), (.ref a1)] below meth c T311 lo 4 20 := ⟨_, Fr.snoc X311 N295 g0, X311⟩
      have fw311 : Fld Z h311 a0 "com/example/garantia/garantia/engine/StateLayout" "narrow" "Z" (.int (1 : Int32)) := Fld.same W311 f296_6
      have f312_1 := Exa.wr W311 f296_1
      have f312_2 := Fld.other W311 f296_2 (Or.inr (slot_ne (Or.inr (hw _ (List.mem_of_getElem? (i := 23) rfl))) (Or.inr (hw _ (List.mem_of_getElem? (i := 34) rfl))) (by decide) (t := (.array .int)) (t' := .boolean) (by decide) (by decide)))
      have f312_3 := Fld.other W311 f296_3 (Or.inr (slot_ne (Or.inr (hw _ (List.mem_of_getElem? (i := 25) rfl))) (Or.inr (hw _ (List.mem_of_getElem? (i := 34) rfl))) (by decide) (t := (.array .int)) (t' := .boolean) (by decide) (by decide)))
      have f312_4 := Fld.other W311 f296_4 (Or.inr (slot_ne (Or.inr (hw _ (List.mem_of_getElem? (i := 27) rfl))) (Or.inr (hw _ (List.mem_of_getElem? (i := 34) rfl))) (by decide) (t := (.array .long)) (t' := .boolean) (by decide) (by decide)))
      have f312_5 := Fld.other W311 f296_5 (Or.inr (slot_ne (Or.inr (hw _ (List.mem_of_getElem? (i := 29) rfl))) (Or.inr (hw _ (List.mem_of_getElem? (i := 34) rfl))) (by decide) (t := (.array .long)) (t' := .boolean) (by decide) (by decide)))
      have f312_6 := Fld.other W311 fw295 (Or.inr (slot_ne (Or.inr (hw _ (List.mem_of_getElem? (i := 32) rfl))) (Or.inr (hw _ (List.mem_of_getElem? (i := 34) rfl))) (by decide) (t := .int) (t' := .boolean) (by decide) (by decide)))
      have f312_7 := f296_7.other W311 xe1
      have f312_8 := f296_8.other W311 (Ne.symm ne7)
      have f312_9 := f296_9.other W311 (Ne.symm ne20)
      have f312_10 := f296_10.other W311 (Ne.symm ne34)
      have f312_11 := f296_11.other W311 (Ne.symm ne49)
      have zz313 : n0 ≤ h311.size := Nat.le_trans zz297 (Keep.of_wr W311).1
      have kp314 : Keep h0 h311 [a0] := kp298.wr W311 (Or.inl (List.mem_of_getElem? (i := 0) rfl))
      obtain ⟨fs, hr, hrun, hended, hW, hsame⟩ := X311.leave (v := none) (fun _ => rfl)
      exact ⟨_, _, pre311.fin hS0 (X311.returnOut hx Bd.returns (hb hby d4_160) hr), hrun, hended, _, _, rfl, (by
        show Q4 Z a0 a1 k1 w0 w1 w2 w3 w4 h0 n0 _ T311.heap _
        rw [e311]
        exact ⟨rfl, N311, b6, b19, b33, b48, _, _, _, _, _, _, _, _, _, _, ⟨hj66_155, hj66_204, hj66_253⟩, ⟨ol6, ol19, ol33, ol48⟩, ⟨ne22, ne36, ne51, ne37, ne52, ne53⟩, kp314, f312_1, f312_2, f312_3, f312_4, f312_5, f312_6, f312_8, f312_9, f312_10, f312_11⟩), ⟨_, rfl⟩, hW, hsame.mono (by decide) (by decide)⟩
  · skip
    have pre315 : Go p.tables e below S0 T300 (mkF m 157 #[vR a0, vR a1, vI (j66_l2_251 + w4), vI j66_l3_252, vI (5 : Int32)] [(.int (0 : Int32)), (.ref a0)]) := fun t k => pre301 t (by
      refine XS.icmpYes X300.here hx rfl (pc0 := 143) (pc' := 156) rfl (hb hby d4_143) rfl (feq c143_302).2 (by decide) (by decide) ?_
      refine XS.iconst X300.here hx rfl (hb hby d4_156) ?_
      exact k)
    obtain ⟨T316, h316, X316, e316, W316, st316⟩ := putFN X300 hx hZ hown (hw _ (List.mem_of_getElem? (i := 33) rfl)) Via.refl e300 f296_6 f296_1 (Or.inr ⟨(hw _ (List.mem_of_getElem? (i := 34) rfl)), rfl, hnm⟩) (hw _ (List.mem_of_getElem? (i := 14) rfl)) (ty := .boolean) (v' := (.int (0 : Int32))) (by decide) rfl rfl (g := (mkF m 157 #[vR a0, vR a1, vI (j66_l2_251 + w4), vI j66_l3_252, vI (5 : Int32)] [(.int (0 : Int32)), (.ref a0)])) rfl rfl (hb hby d4_157)
    have pre316 : Go p.tables e below S0 T316 (mkF m 160 #[vR a0, vR a1, vI (j66_l2_251 + w4), vI j66_l3_252, vI (5 : Int32)] []) := fun t k => pre315 t (st316 t k)
    obtain ⟨lo316, N316, X316⟩ : ∃ lo, Fr n0 lo ∧ Stand p l e ({ frames := 1, cells := 4, slots := 20, locals := 12 } : Room) s m #[(.ref a0), (.ref a1)] below meth c T316 lo 4 20 := ⟨_, Fr.snoc X316 N295 g0, X316⟩
    have fw316 : Fld Z h316 a0 "com/example/garantia/garantia/engine/StateLayout" "narrow" "Z" (.int (0 : Int32)) := Fld.same W316 f296_6
    have f317_1 := Exa.wr W316 f296_1
    have f317_2 := Fld.other W316 f296_2 (Or.inr (slot_ne (Or.inr (hw _ (List.mem_of_getElem? (i := 23) rfl))) (Or.inr (hw _ (List.mem_of_getElem? (i := 34) rfl))) (by decide) (t := (.array .int)) (t' := .boolean) (by decide) (by decide)))
    have f317_3 := Fld.other W316 f296_3 (Or.inr (slot_ne (Or.inr (hw _ (List.mem_of_getElem? (i := 25) rfl))) (Or.inr (hw _ (List.mem_of_getElem? (i := 34) rfl))) (by decide) (t := (.array .int)) (t' := .boolean) (by decide) (by decide)))
    have f317_4 := Fld.other W316 f296_4 (Or.inr (slot_ne (Or.inr (hw _ (List.mem_of_getElem? (i := 27) rfl))) (Or.inr (hw _ (List.mem_of_getElem? (i := 34) rfl))) (by decide) (t := (.array .long)) (t' := .boolean) (by decide) (by decide)))
    have f317_5 := Fld.other W316 f296_5 (Or.inr (slot_ne (Or.inr (hw _ (List.mem_of_getElem? (i := 29) rfl))) (Or.inr (hw _ (List.mem_of_getElem? (i := 34) rfl))) (by decide) (t := (.array .long)) (t' := .boolean) (by decide) (by decide)))
    have f317_6 := Fld.other W316 fw295 (Or.inr (slot_ne (Or.inr (hw _ (List.mem_of_getElem? (i := 32) rfl))) (Or.inr (hw _ (List.mem_of_getElem? (i := 34) rfl))) (by decide) (t := .int) (t' := .boolean) (by decide) (by decide)))
    have f317_7 := f296_7.other W316 xe1
    have f317_8 := f296_8.other W316 (Ne.symm ne7)
    have f317_9 := f296_9.other W316 (Ne.symm ne20)
    have f317_10 := f296_10.other W316 (Ne.symm ne34)
    have f317_11 := f296_11.other W316 (Ne.symm ne49)
    have zz318 : n0 ≤ h316.size := Nat.le_trans zz297 (Keep.of_wr W316).1
    have kp319 : Keep h0 h316 [a0] := kp298.wr W316 (Or.inl (List.mem_of_getElem? (i := 0) rfl))
    obtain ⟨fs, hr, hrun, hended, hW, hsame⟩ := X316.leave (v := none) (fun _ => rfl)
    exact ⟨_, _, pre316.fin hS0 (X316.returnOut hx Bd.returns (hb hby d4_160) hr), hrun, hended, _, _, rfl, (by
      show Q4 Z a0 a1 k1 w0 w1 w2 w3 w4 h0 n0 _ T316.heap _
      rw [e316]
      exact ⟨rfl, N316, b6, b19, b33, b48, _, _, _, _, _, _, _, _, _, _, ⟨hj66_155, hj66_204, hj66_253⟩, ⟨ol6, ol19, ol33, ol48⟩, ⟨ne22, ne36, ne51, ne37, ne52, ne53⟩, kp319, f317_1, f317_2, f317_3, f317_4, f317_5, f317_6, f317_8, f317_9, f317_10, f317_11⟩), ⟨_, rfl⟩, hW, hsame.mono (by decide) (by decide)⟩
theorem ef_6_00000 (m : MethodId) (x0 : Addr) (x1 : Addr) (x2 : Addr) (x3 : Int32) : entryFrame m #[(.ref x0), (.ref x1), (.ref x2), (.int x3)] 8 = mkF m 0 #[.val (.ref x0), .val (.ref x1), .val (.ref x2), .val (.int x3), .unset, .unset, .unset, .unset] [] := by first | (simp [entryFrame, mkF, argsToLocals, Value.category]; done) | rfl
theorem d6_0 : decode prog_46_method_4_code 0 = .ok (.aload_n 0, 1) := by decide +kernel
theorem d6_1 : decode prog_46_method_4_code 1 = .ok (.getfield 27, 3) := by decide +kernel
theorem d6_4 : decode prog_46_method_4_code 4 = .ok (.iconst 1, 1) := by decide +kernel
theorem d6_5 : decode prog_46_method_4_code 5 = .ok (.if_icmp .ne 48, 3) := by decide +kernel
theorem d6_8 : decode prog_46_method_4_code 8 = .ok (.lconst 0, 1) := by decide +kernel
theorem d6_9 : decode prog_46_method_4_code 9 = .ok (.lstore 4, 2) := by decide +kernel
theorem d6_11 : decode prog_46_method_4_code 11 = .ok (.iconst 0, 1) := by decide +kernel
theorem d6_12 : decode prog_46_method_4_code 12 = .ok (.istore 6, 2) := by decide +kernel
theorem d6_14 : decode prog_46_method_4_code 14 = .ok (.iload 6, 2) := by decide +kernel
theorem d6_16 : decode prog_46_method_4_code 16 = .ok (.aload_n 1, 1) := by decide +kernel
theorem d6_17 : decode prog_46_method_4_code 17 = .ok (.arraylength, 1) := by decide +kernel
theorem d6_18 : decode prog_46_method_4_code 18 = .ok (.if_icmp .ge 27, 3) := by decide +kernel
theorem d6_21 : decode prog_46_method_4_code 21 = .ok (.lload 4, 2) := by decide +kernel
theorem d6_23 : decode prog_46_method_4_code 23 = .ok (.aload_n 1, 1) := by decide +kernel
theorem d6_24 : decode prog_46_method_4_code 24 = .ok (.iload 6, 2) := by decide +kernel
theorem d6_26 : decode prog_46_method_4_code 26 = .ok (.iaload, 1) := by decide +kernel
theorem d6_27 : decode prog_46_method_4_code 27 = .ok (.i2l, 1) := by decide +kernel
theorem d6_28 : decode prog_46_method_4_code 28 = .ok (.aload_n 0, 1) := by decide +kernel
theorem d6_29 : decode prog_46_method_4_code 29 = .ok (.getfield 13, 3) := by decide +kernel
theorem d6_32 : decode prog_46_method_4_code 32 = .ok (.iload 6, 2) := by decide +kernel
theorem d6_34 : decode prog_46_method_4_code 34 = .ok (.iaload, 1) := by decide +kernel
theorem d6_35 : decode prog_46_method_4_code 35 = .ok (.lshl, 1) := by decide +kernel
theorem d6_36 : decode prog_46_method_4_code 36 = .ok (.lor, 1) := by decide +kernel
theorem d6_37 : decode prog_46_method_4_code 37 = .ok (.lstore 4, 2) := by decide +kernel
theorem d6_39 : decode prog_46_method_4_code 39 = .ok (.iinc 6 1, 3) := by decide +kernel
theorem d6_42 : decode prog_46_method_4_code 42 = .ok (.goto (-28), 3) := by decide +kernel
theorem d6_45 : decode prog_46_method_4_code 45 = .ok (.aload_n 2, 1) := by decide +kernel
theorem d6_46 : decode prog_46_method_4_code 46 = .ok (.iload_n 3, 1) := by decide +kernel
theorem d6_47 : decode prog_46_method_4_code 47 = .ok (.lload 4, 2) := by decide +kernel
theorem d6_49 : decode prog_46_method_4_code 49 = .ok (.lastore, 1) := by decide +kernel
theorem d6_50 : decode prog_46_method_4_code 50 = .ok (.goto 83, 3) := by decide +kernel
theorem d6_133 : decode prog_46_method_4_code 133 = .ok (.return_, 1) := by decide +kernel
def Q6_00000 (Z : State) (a0 a1 a2 : Addr) (p3 : Int32) (aw as : Addr) (kw ks k1 k2 : ClassId) (u0 u1 u2 u3 u4 y0 y1 y2 y3 y4 : Int32) (x0 x1 x2 x3 x4 x5 : Int64) (h0 : Heap) (n0 : Nat) (v : Option Value) (h : Heap) (L : List Loc) : Prop := v = none ∧ Fr n0 L ∧ ∃ (z0 z1 z2 z3 z4 z5 : Int64), (z0 = (own_putL p3 (0 : Int32) ((((((0 : Int64) ||| ((y0.toInt64) <<< (u0 &&& 0x3f).toInt64)) ||| ((y1.toInt64) <<< (u1 &&& 0x3f).toInt64)) ||| ((y2.toInt64) <<< (u2 &&& 0x3f).toInt64)) ||| ((y3.toInt64) <<< (u3 &&& 0x3f).toInt64)) ||| ((y4.toInt64) <<< (u4 &&& 0x3f).toInt64)) x0) ∧ z1 = (own_putL p3 (1 : Int32) ((((((0 : Int64) ||| ((y0.toInt64) <<< (u0 &&& 0x3f).toInt64)) ||| ((y1.toInt64) <<< (u1 &&& 0x3f).toInt64)) ||| ((y2.toInt64) <<< (u2 &&& 0x3f).toInt64)) ||| ((y3.toInt64) <<< (u3 &&& 0x3f).toInt64)) ||| ((y4.toInt64) <<< (u4 &&& 0x3f).toInt64)) x1) ∧ z2 = (own_putL p3 (2 : Int32) ((((((0 : Int64) ||| ((y0.toInt64) <<< (u0 &&& 0x3f).toInt64)) ||| ((y1.toInt64) <<< (u1 &&& 0x3f).toInt64)) ||| ((y2.toInt64) <<< (u2 &&& 0x3f).toInt64)) ||| ((y3.toInt64) <<< (u3 &&& 0x3f).toInt64)) ||| ((y4.toInt64) <<< (u4 &&& 0x3f).toInt64)) x2) ∧ z3 = (own_putL p3 (3 : Int32) ((((((0 : Int64) ||| ((y0.toInt64) <<< (u0 &&& 0x3f).toInt64)) ||| ((y1.toInt64) <<< (u1 &&& 0x3f).toInt64)) ||| ((y2.toInt64) <<< (u2 &&& 0x3f).toInt64)) ||| ((y3.toInt64) <<< (u3 &&& 0x3f).toInt64)) ||| ((y4.toInt64) <<< (u4 &&& 0x3f).toInt64)) x3) ∧ z4 = (own_putL p3 (4 : Int32) ((((((0 : Int64) ||| ((y0.toInt64) <<< (u0 &&& 0x3f).toInt64)) ||| ((y1.toInt64) <<< (u1 &&& 0x3f).toInt64)) ||| ((y2.toInt64) <<< (u2 &&& 0x3f).toInt64)) ||| ((y3.toInt64) <<< (u3 &&& 0x3f).toInt64)) ||| ((y4.toInt64) <<< (u4 &&& 0x3f).toInt64)) x4) ∧ z5 = (own_putL p3 (5 : Int32) ((((((0 : Int64) ||| ((y0.toInt64) <<< (u0 &&& 0x3f).toInt64)) ||| ((y1.toInt64) <<< (u1 &&& 0x3f).toInt64)) ||| ((y2.toInt64) <<< (u2 &&& 0x3f).toInt64)) ||| ((y3.toInt64) <<< (u3 &&& 0x3f).toInt64)) ||| ((y4.toInt64) <<< (u4 &&& 0x3f).toInt64)) x5)) ∧ Keep h0 h [a2] ∧ (Arv Z h a2 k2 .long (6 : Int32) [(.long z0), (.long z1), (.long z2), (.long z3), (.long z4), (.long z5)] (.long (0 : Int64)))
set_option maxRecDepth 65536 in
set_option maxHeartbeats 40000000 in
theorem rm6_00000 (l : Launch) (Z : State) (A0 : Array Value) (hw : ∀ d ∈ tables_1, d.before A0 Z = true) (ws : List Jvm.Cond) (a0 : Addr) (a1 : Addr) (a2 : Addr) (p3 : Int32) (aw as : Addr) (kw ks k1 k2 : ClassId) (u0 u1 u2 u3 u4 y0 y1 y2 y3 y4 : Int32) (x0 x1 x2 x3 x4 x5 : Int64) (h0 : Heap) (n0 : Nat) (Z0 : n0 ≤ h0.size) (Fn : Fld Z h0 a0 "com/example/garantia/garantia/engine/StateLayout" "words" "I" (.int (1 : Int32))) (Fw : Fld Z h0 a0 "com/example/garantia/garantia/engine/StateLayout" "word" "[I" (.ref aw)) (Fs : Fld Z h0 a0 "com/example/garantia/garantia/engine/StateLayout" "shift" "[I" (.ref as)) (V1 : Arv Z h0 aw kw .int (5 : Int32) [(.int (0 : Int32)), (.int (0 : Int32)), (.int (0 : Int32)), (.int (0 : Int32)), (.int (0 : Int32))] (.int (0 : Int32))) (V2 : Arv Z h0 as ks .int (5 : Int32) [(.int u0), (.int u1), (.int u2), (.int u3), (.int u4)] (.int (0 : Int32))) (V3 : Arv Z h0 a1 k1 .int (5 : Int32) [(.int y0), (.int y1), (.int y2), (.int y3), (.int y4)] (.int (0 : Int32))) (V4 : Arv Z h0 a2 k2 .long (6 : Int32) [(.long x0), (.long x1), (.long x2), (.long x3), (.long x4), (.long x5)] (.long (0 : Int64))) (xe0 : a0 ≠ a2) (xe1 : aw ≠ a2) (xe2 : as ≠ a2) (xe3 : a1 ≠ a2) (g0 : n0 ≤ a2) (hin0 : ¬ p3 < 0 ∧ p3 < (6 : Int32)) :
    MetFree l (⟨"com/example/garantia/garantia/engine/StateLayout", "pack", "([I[JI)V"⟩ : MethodName) (head1 (Jvm.Cond.code (⟨"com/example/garantia/garantia/engine/StateLayout", "pack", "([I[JI)V"⟩ : MethodName) prog_46_method_4_code 8 none :: ws) ({ frames := 0, cells := 0, slots := 0, locals := 0 } : Room)) (fun a U => a = #[(.ref a0), (.ref a1), (.ref a2), (.int p3)] ∧ Z.Warmed39 U.vm ∧ U.heap = h0) (fun _ _ _ _ _ => True) (fun _ U o U' => ∃ v L, o = .returned v ∧ Q6_00000 Z a0 a1 a2 p3 aw as kw ks k1 k2 u0 u1 u2 u3 u4 y0 y1 y2 y3 y4 x0 x1 x2 x3 x4 x5 h0 n0 v U'.heap L ∧ FrameEnd U o U' L ({ frames := 0, cells := 0, slots := 0, locals := 0 } : Room).cells ({ frames := 0, cells := 0, slots := 0, locals := 0 } : Room).slots) := by
  refine MetFree.of_bodySF (plainFor_of_name pn_1) hisR ?_
  intro p e s m args below meth c s₁ Bd hml0 hP hK
  obtain ⟨rfl, hZ, hh⟩ := hP
  have hx := Bd.exec
  have hby := Bd.bytes
  have hml : c.maxLocals = 8 := hml0
  have hown : s.vm.findClass "com/example/garantia/garantia/engine/StateLayout" = some m.cls := findClass_of_methodNamed Bd.named
  have hnm := (name_of_methodNamed Bd.named Bd.method).1
  have X0 : Stand p l e ({ frames := 0, cells := 0, slots := 0, locals := 0 } : Room) s m #[(.ref a0), (.ref a1), (.ref a2), (.int p3)] below meth c s₁ [] 0 0 := Stand.of_body Bd
  have e0 : s₁.heap = h0 := by rw [← hh, Bd.state]; rfl
  have N0 := Fr.nil n0
  have kp0 : Keep h0 h0 [a2] := Keep.refl _ _
  obtain ⟨S0, hS0⟩ : ∃ z, z = s₁.setTop (entryFrame m #[(.ref a0), (.ref a1), (.ref a2), (.int p3)] 8) := ⟨_, rfl⟩
  have pre0 : Go p.tables e below S0 s₁ (mkF m 0 #[vR a0, vR a1, vR a2, vI p3, .unset, .unset, .unset, .unset] []) := fun t k => by rw [hS0]; exact castTop (ef_6_00000 m a0 a1 a2 p3) k
  have pre1 : Go p.tables e below S0 s₁ (mkF m 1 #[vR a0, vR a1, vR a2, vI p3, .unset, .unset, .unset, .unset] [(.ref a0)]) := fun t k => pre0 t (by
    refine XS.aloadN X0.here hx rfl (hb hby d6_0) rfl rfl ?_
    exact k)
  obtain ⟨T2, X2, e2, st2⟩ := getF X0 hx hZ hown (host := "") (Or.inl (hw _ (List.mem_of_getElem? (i := 31) rfl))) Via.refl e0 Fn (g := (mkF m 1 #[vR a0, vR a1, vR a2, vI p3, .unset, .unset, .unset, .unset] [(.ref a0)])) rfl rfl (hb hby d6_1)
  have pre2 : Go p.tables e below S0 T2 (mkF m 4 #[vR a0, vR a1, vR a2, vI p3, .unset, .unset, .unset, .unset] [(.int (1 : Int32))]) := fun t k => pre1 t (st2 t k)
  have pre3 : Go p.tables e below S0 T2 (mkF m 17 #[vR a0, vR a1, vR a2, vI p3, vJ (0 : Int64), .second, vI (0 : Int32), .unset] [(.ref a1), (.int (0 : Int32))]) := fun t k => pre2 t (by
    refine XS.iconst X2.here hx rfl (hb hby d6_4) ?_
    refine XS.icmpNo X2.here hx rfl (hb hby d6_5) rfl (teq (rfl : (1 : Int32) = (1 : Int32))).2 ?_
    refine XS.lconst X2.here hx rfl (hb hby d6_8) ?_
    show Steps p.tables e below (T2.setTop (mkF m 9 #[vR a0, vR a1, vR a2, vI p3, .unset, .unset, .unset, .unset] [(.long (0 : Int64))])) _
    refine XS.lstore X2.here hx rfl (hb hby d6_9) rfl (l' := #[vR a0, vR a1, vR a2, vI p3, vJ (0 : Int64), .second, .unset, .unset]) rfl ?_
    refine XS.iconst X2.here hx rfl (hb hby d6_11) ?_
    refine XS.istore X2.here hx rfl (hb hby d6_12) rfl (l' := #[vR a0, vR a1, vR a2, vI p3, vJ (0 : Int64), .second, vI (0 : Int32), .unset]) rfl ?_
    show Steps p.tables e below (T2.setTop (mkF m 14 #[vR a0, vR a1, vR a2, vI p3, vJ (0 : Int64), .second, vI (0 : Int32), .unset] [])) _
    refine XS.iload X2.here hx rfl (hb hby d6_14) rfl ?_
    refine XS.aloadN X2.here hx rfl (hb hby d6_16) rfl rfl ?_
    exact k)
  obtain ⟨cl4, Ar4, q4, S4, M4, H4, G4⟩ := id V3
  have pre5 : Go p.tables e below S0 T2 (mkF m 26 #[vR a0, vR a1, vR a2, vI p3, vJ (0 : Int64), .second, vI (0 : Int32), .unset] [(.int (0 : Int32)), (.ref a1), (.long (0 : Int64))]) := fun t k => pre3 t (by
    refine X2.arraylength hx (by rw [e2]; exact Ar4.1) (State.isArrayOf_alike hZ.alike Ar4.2.1) (g := (mkF m 17 #[vR a0, vR a1, vR a2, vI p3, vJ (0 : Int64), .second, vI (0 : Int32), .unset] [(.ref a1), (.int (0 : Int32))])) rfl rfl (hb hby d6_17) _ ?_
    rw [len_of S4 M4]
    refine XS.icmpNo X2.here hx rfl (hb hby d6_18) rfl (tlt (by decide : (0 : Int32) < (5 : Int32))).2.1 ?_
    refine XS.lload X2.here hx rfl (hb hby d6_21) rfl ?_
    show Steps p.tables e below (T2.setTop (mkF m 23 #[vR a0, vR a1, vR a2, vI p3, vJ (0 : Int64), .second, vI (0 : Int32), .unset] [(.long (0 : Int64))])) _
    refine XS.aloadN X2.here hx rfl (hb hby d6_23) rfl rfl ?_
    refine XS.iload X2.here hx rfl (hb hby d6_24) rfl ?_
    exact k)
  obtain ⟨cl6, Ar6, q6, S6, M6, H6, G6⟩ := id V3
  have in6 : ¬ ((0 : Int32) < 0 ∨ cl6.slots.size ≤ ((0 : Int32)).toNatClampNeg) := inb_of S6 ⟨by decide, by decide⟩
  have at6 : cl6.slots[((0 : Int32)).toNatClampNeg]? = some (.int y0) := H6.at in6 rfl
  have pre7 : Go p.tables e below S0 T2 (mkF m 29 #[vR a0, vR a1, vR a2, vI p3, vJ (0 : Int64), .second, vI (0 : Int32), .unset] [(.ref a0), (.long (y0.toInt64)), (.long (0 : Int64))]) := fun t k => pre5 t (by
    refine X2.iaload hx (j := (0 : Int32)) (v := (.int y0)) (by rw [e2]; exact Ar6.1) (State.isArrayOf_alike hZ.alike Ar6.2.1) Ar6.2.2 in6 at6 (g := (mkF m 26 #[vR a0, vR a1, vR a2, vI p3, vJ (0 : Int64), .second, vI (0 : Int32), .unset] [(.int (0 : Int32)), (.ref a1), (.long (0 : Int64))])) rfl rfl (hb hby d6_26) _ ?_
    refine XS.i2l X2.here hx rfl (hb hby d6_27) rfl ?_
    refine XS.aloadN X2.here hx rfl (hb hby d6_28) rfl rfl ?_
    show Steps p.tables e below (T2.setTop (mkF m 29 #[vR a0, vR a1, vR a2, vI p3, vJ (0 : Int64), .second, vI (0 : Int32), .unset] [(.ref a0), (.long (y0.toInt64)), (.long (0 : Int64))])) _
    exact k)
  obtain ⟨T8, X8, e8, st8⟩ := getF X2 hx hZ hown (host := "") (Or.inl (hw _ (List.mem_of_getElem? (i := 24) rfl))) Via.refl e2 Fs (g := (mkF m 29 #[vR a0, vR a1, vR a2, vI p3, vJ (0 : Int64), .second, vI (0 : Int32), .unset] [(.ref a0), (.long (y0.toInt64)), (.long (0 : Int64))])) rfl rfl (hb hby d6_29)
  have pre8 : Go p.tables e below S0 T8 (mkF m 32 #[vR a0, vR a1, vR a2, vI p3, vJ (0 : Int64), .second, vI (0 : Int32), .unset] [(.ref as), (.long (y0.toInt64)), (.long (0 : Int64))]) := fun t k => pre7 t (st8 t k)
  have pre9 : Go p.tables e below S0 T8 (mkF m 34 #[vR a0, vR a1, vR a2, vI p3, vJ (0 : Int64), .second, vI (0 : Int32), .unset] [(.int (0 : Int32)), (.ref as), (.long (y0.toInt64)), (.long (0 : Int64))]) := fun t k => pre8 t (by
    refine XS.iload X8.here hx rfl (hb hby d6_32) rfl ?_
    exact k)
  obtain ⟨cl10, Ar10, q10, S10, M10, H10, G10⟩ := id V2
  have in10 : ¬ ((0 : Int32) < 0 ∨ cl10.slots.size ≤ ((0 : Int32)).toNatClampNeg) := inb_of S10 ⟨by decide, by decide⟩
  have at10 : cl10.slots[((0 : Int32)).toNatClampNeg]? = some (.int u0) := H10.at in10 rfl
  obtain ⟨v11, hv11, pre11⟩ : ∃ z : Int64, z = ((0 : Int64) ||| ((y0.toInt64) <<< (u0 &&& 0x3f).toInt64)) ∧ Go p.tables e below S0 T8 (mkF m 39 #[vR a0, vR a1, vR a2, vI p3, vJ z, .second, vI (0 : Int32), .unset] []) := ⟨_, rfl, fun t k => pre9 t (by
    refine X8.iaload hx (j := (0 : Int32)) (v := (.int u0)) (by rw [e8]; exact Ar10.1) (State.isArrayOf_alike hZ.alike Ar10.2.1) Ar10.2.2 in10 at10 (g := (mkF m 34 #[vR a0, vR a1, vR a2, vI p3, vJ (0 : Int64), .second, vI (0 : Int32), .unset] [(.int (0 : Int32)), (.ref as), (.long (y0.toInt64)), (.long (0 : Int64))])) rfl rfl (hb hby d6_34) _ ?_
    refine XS.lshl X8.here hx rfl (hb hby d6_35) rfl ?_
    refine XS.lor X8.here hx rfl (hb hby d6_36) rfl ?_
    show Steps p.tables e below (T8.setTop (mkF m 37 #[vR a0, vR a1, vR a2, vI p3, vJ (0 : Int64), .second, vI (0 : Int32), .unset] [(.long ((0 : Int64) ||| ((y0.toInt64) <<< (u0 &&& 0x3f).toInt64)))])) _
    refine XS.lstore X8.here hx rfl (hb hby d6_37) rfl (l' := #[vR a0, vR a1, vR a2, vI p3, vJ ((0 : Int64) ||| ((y0.toInt64) <<< (u0 &&& 0x3f).toInt64)), .second, vI (0 : Int32), .unset]) rfl ?_
    exact k)⟩
  have pre12 : Go p.tables e below S0 T8 (mkF m 17 #[vR a0, vR a1, vR a2, vI p3, vJ v11, .second, vI (1 : Int32), .unset] [(.ref a1), (.int (1 : Int32))]) := fun t k => pre11 t (by
    refine XS.iinc X8.here hx rfl (hb hby d6_39) rfl (l' := #[vR a0, vR a1, vR a2, vI p3, vJ v11, .second, vI (1 : Int32), .unset]) rfl ?_
    refine XS.goto X8.here hx rfl (pc0 := 42) (pc' := 14) rfl (hb hby d6_42) (by decide) (by decide) ?_
    refine XS.iload X8.here hx rfl (hb hby d6_14) rfl ?_
    show Steps p.tables e below (T8.setTop (mkF m 16 #[vR a0, vR a1, vR a2, vI p3, vJ v11, .second, vI (1 : Int32), .unset] [(.int (1 : Int32))])) _
    refine XS.aloadN X8.here hx rfl (hb hby d6_16) rfl rfl ?_
    exact k)
  obtain ⟨cl13, Ar13, q13, S13, M13, H13, G13⟩ := id V3
  have pre14 : Go p.tables e below S0 T8 (mkF m 26 #[vR a0, vR a1, vR a2, vI p3, vJ v11, .second, vI (1 : Int32), .unset] [(.int (1 : Int32)), (.ref a1), (.long v11)]) := fun t k => pre12 t (by
    refine X8.arraylength hx (by rw [e8]; exact Ar13.1) (State.isArrayOf_alike hZ.alike Ar13.2.1) (g := (mkF m 17 #[vR a0, vR a1, vR a2, vI p3, vJ v11, .second, vI (1 : Int32), .unset] [(.ref a1), (.int (1 : Int32))])) rfl rfl (hb hby d6_17) _ ?_
    rw [len_of S13 M13]
    refine XS.icmpNo X8.here hx rfl (hb hby d6_18) rfl (tlt (by decide : (1 : Int32) < (5 : Int32))).2.1 ?_
    refine XS.lload X8.here hx rfl (hb hby d6_21) rfl ?_
    show Steps p.tables e below (T8.setTop (mkF m 23 #[vR a0, vR a1, vR a2, vI p3, vJ v11, .second, vI (1 : Int32), .unset] [(.long v11)])) _
    refine XS.aloadN X8.here hx rfl (hb hby d6_23) rfl rfl ?_
    refine XS.iload X8.here hx rfl (hb hby d6_24) rfl ?_
    exact k)
  obtain ⟨cl15, Ar15, q15, S15, M15, H15, G15⟩ := id V3
  have in15 : ¬ ((1 : Int32) < 0 ∨ cl15.slots.size ≤ ((1 : Int32)).toNatClampNeg) := inb_of S15 ⟨by decide, by decide⟩
  have at15 : cl15.slots[((1 : Int32)).toNatClampNeg]? = some (.int y1) := H15.at in15 rfl
  have pre16 : Go p.tables e below S0 T8 (mkF m 29 #[vR a0, vR a1, vR a2, vI p3, vJ v11, .second, vI (1 : Int32), .unset] [(.ref a0), (.long (y1.toInt64)), (.long v11)]) := fun t k => pre14 t (by
    refine X8.iaload hx (j := (1 : Int32)) (v := (.int y1)) (by rw [e8]; exact Ar15.1) (State.isArrayOf_alike hZ.alike Ar15.2.1) Ar15.2.2 in15 at15 (g := (mkF m 26 #[vR a0, vR a1, vR a2, vI p3, vJ v11, .second, vI (1 : Int32), .unset] [(.int (1 : Int32)), (.ref a1), (.long v11)])) rfl rfl (hb hby d6_26) _ ?_
    refine XS.i2l X8.here hx rfl (hb hby d6_27) rfl ?_
    refine XS.aloadN X8.here hx rfl (hb hby d6_28) rfl rfl ?_
    show Steps p.tables e below (T8.setTop (mkF m 29 #[vR a0, vR a1, vR a2, vI p3, vJ v11, .second, vI (1 : Int32), .unset] [(.ref a0), (.long (y1.toInt64)), (.long v11)])) _
    exact k)
  obtain ⟨T17, X17, e17, st17⟩ := getF X8 hx hZ hown (host := "") (Or.inl (hw _ (List.mem_of_getElem? (i := 24) rfl))) Via.refl e8 Fs (g := (mkF m 29 #[vR a0, vR a1, vR a2, vI p3, vJ v11, .second, vI (1 : Int32), .unset] [(.ref a0), (.long (y1.toInt64)), (.long v11)])) rfl rfl (hb hby d6_29)
  have pre17 : Go p.tables e below S0 T17 (mkF m 32 #[vR a0, vR a1, vR a2, vI p3, vJ v11, .second, vI (1 : Int32), .unset] [(.ref as), (.long (y1.toInt64)), (.long v11)]) := fun t k => pre16 t (st17 t k)
  have pre18 : Go p.tables e below S0 T17 (mkF m 34 #[vR a0, vR a1, vR a2, vI p3, vJ v11, .second, vI (1 : Int32), .unset] [(.int (1 : Int32)), (.ref as), (.long (y1.toInt64)), (.long v11)]) := fun t k => pre17 t (by
    refine XS.iload X17.here hx rfl (hb hby d6_32) rfl ?_
    exact k)
  obtain ⟨cl19, Ar19, q19, S19, M19, H19, G19⟩ := id V2
  have in19 : ¬ ((1 : Int32) < 0 ∨ cl19.slots.size ≤ ((1 : Int32)).toNatClampNeg) := inb_of S19 ⟨by decide, by decide⟩
  have at19 : cl19.slots[((1 : Int32)).toNatClampNeg]? = some (.int u1) := H19.at in19 rfl
  obtain ⟨v20, hv20, pre20⟩ : ∃ z : Int64, z = (v11 ||| ((y1.toInt64) <<< (u1 &&& 0x3f).toInt64)) ∧ Go p.tables e below S0 T17 (mkF m 39 #[vR a0, vR a1, vR a2, vI p3, vJ z, .second, vI (1 : Int32), .unset] []) := ⟨_, rfl, fun t k => pre18 t (by
    refine X17.iaload hx (j := (1 : Int32)) (v := (.int u1)) (by rw [e17]; exact Ar19.1) (State.isArrayOf_alike hZ.alike Ar19.2.1) Ar19.2.2 in19 at19 (g := (mkF m 34 #[vR a0, vR a1, vR a2, vI p3, vJ v11, .second, vI (1 : Int32), .unset] [(.int (1 : Int32)), (.ref as), (.long (y1.toInt64)), (.long v11)])) rfl rfl (hb hby d6_34) _ ?_
    refine XS.lshl X17.here hx rfl (hb hby d6_35) rfl ?_
    refine XS.lor X17.here hx rfl (hb hby d6_36) rfl ?_
    show Steps p.tables e below (T17.setTop (mkF m 37 #[vR a0, vR a1, vR a2, vI p3, vJ v11, .second, vI (1 : Int32), .unset] [(.long (v11 ||| ((y1.toInt64) <<< (u1 &&& 0x3f).toInt64)))])) _
    refine XS.lstore X17.here hx rfl (hb hby d6_37) rfl (l' := #[vR a0, vR a1, vR a2, vI p3, vJ (v11 ||| ((y1.toInt64) <<< (u1 &&& 0x3f).toInt64)), .second, vI (1 : Int32), .unset]) rfl ?_
    exact k)⟩
  have pre21 : Go p.tables e below S0 T17 (mkF m 17 #[vR a0, vR a1, vR a2, vI p3, vJ v20, .second, vI (2 : Int32), .unset] [(.ref a1), (.int (2 : Int32))]) := fun t k => pre20 t (by
    refine XS.iinc X17.here hx rfl (hb hby d6_39) rfl (l' := #[vR a0, vR a1, vR a2, vI p3, vJ v20, .second, vI (2 : Int32), .unset]) rfl ?_
    refine XS.goto X17.here hx rfl (pc0 := 42) (pc' := 14) rfl (hb hby d6_42) (by decide) (by decide) ?_
    refine XS.iload X17.here hx rfl (hb hby d6_14) rfl ?_
    show Steps p.tables e below (T17.setTop (mkF m 16 #[vR a0, vR a1, vR a2, vI p3, vJ v20, .second, vI (2 : Int32), .unset] [(.int (2 : Int32))])) _
    refine XS.aloadN X17.here hx rfl (hb hby d6_16) rfl rfl ?_
    exact k)
  obtain ⟨cl22, Ar22, q22, S22, M22, H22, G22⟩ := id V3
  have pre23 : Go p.tables e below S0 T17 (mkF m 26 #[vR a0, vR a1, vR a2, vI p3, vJ v20, .second, vI (2 : Int32), .unset] [(.int (2 : Int32)), (.ref a1), (.long v20)]) := fun t k => pre21 t (by
    refine X17.arraylength hx (by rw [e17]; exact Ar22.1) (State.isArrayOf_alike hZ.alike Ar22.2.1) (g := (mkF m 17 #[vR a0, vR a1, vR a2, vI p3, vJ v20, .second, vI (2 : Int32), .unset] [(.ref a1), (.int (2 : Int32))])) rfl rfl (hb hby d6_17) _ ?_
    rw [len_of S22 M22]
    refine XS.icmpNo X17.here hx rfl (hb hby d6_18) rfl (tlt (by decide : (2 : Int32) < (5 : Int32))).2.1 ?_
    refine XS.lload X17.here hx rfl (hb hby d6_21) rfl ?_
    show Steps p.tables e below (T17.setTop (mkF m 23 #[vR a0, vR a1, vR a2, vI p3, vJ v20, .second, vI (2 : Int32), .unset] [(.long v20)])) _
    refine XS.aloadN X17.here hx rfl (hb hby d6_23) rfl rfl ?_
    refine XS.iload X17.here hx rfl (hb hby d6_24) rfl ?_
    exact k)
  obtain ⟨cl24, Ar24, q24, S24, M24, H24, G24⟩ := id V3
  have in24 : ¬ ((2 : Int32) < 0 ∨ cl24.slots.size ≤ ((2 : Int32)).toNatClampNeg) := inb_of S24 ⟨by decide, by decide⟩
  have at24 : cl24.slots[((2 : Int32)).toNatClampNeg]? = some (.int y2) := H24.at in24 rfl
  have pre25 : Go p.tables e below S0 T17 (mkF m 29 #[vR a0, vR a1, vR a2, vI p3, vJ v20, .second, vI (2 : Int32), .unset] [(.ref a0), (.long (y2.toInt64)), (.long v20)]) := fun t k => pre23 t (by
    refine X17.iaload hx (j := (2 : Int32)) (v := (.int y2)) (by rw [e17]; exact Ar24.1) (State.isArrayOf_alike hZ.alike Ar24.2.1) Ar24.2.2 in24 at24 (g := (mkF m 26 #[vR a0, vR a1, vR a2, vI p3, vJ v20, .second, vI (2 : Int32), .unset] [(.int (2 : Int32)), (.ref a1), (.long v20)])) rfl rfl (hb hby d6_26) _ ?_
    refine XS.i2l X17.here hx rfl (hb hby d6_27) rfl ?_
    refine XS.aloadN X17.here hx rfl (hb hby d6_28) rfl rfl ?_
    show Steps p.tables e below (T17.setTop (mkF m 29 #[vR a0, vR a1, vR a2, vI p3, vJ v20, .second, vI (2 : Int32), .unset] [(.ref a0), (.long (y2.toInt64)), (.long v20)])) _
    exact k)
  obtain ⟨T26, X26, e26, st26⟩ := getF X17 hx hZ hown (host := "") (Or.inl (hw _ (List.mem_of_getElem? (i := 24) rfl))) Via.refl e17 Fs (g := (mkF m 29 #[vR a0, vR a1, vR a2, vI p3, vJ v20, .second, vI (2 : Int32), .unset] [(.ref a0), (.long (y2.toInt64)), (.long v20)])) rfl rfl (hb hby d6_29)
  have pre26 : Go p.tables e below S0 T26 (mkF m 32 #[vR a0, vR a1, vR a2, vI p3, vJ v20, .second, vI (2 : Int32), .unset] [(.ref as), (.long (y2.toInt64)), (.long v20)]) := fun t k => pre25 t (st26 t k)
  have pre27 : Go p.tables e below S0 T26 (mkF m 34 #[vR a0, vR a1, vR a2, vI p3, vJ v20, .second, vI (2 : Int32), .unset] [(.int (2 : Int32)), (.ref as), (.long (y2.toInt64)), (.long v20)]) := fun t k => pre26 t (by
    refine XS.iload X26.here hx rfl (hb hby d6_32) rfl ?_
    exact k)
  obtain ⟨cl28, Ar28, q28, S28, M28, H28, G28⟩ := id V2
  have in28 : ¬ ((2 : Int32) < 0 ∨ cl28.slots.size ≤ ((2 : Int32)).toNatClampNeg) := inb_of S28 ⟨by decide, by decide⟩
  have at28 : cl28.slots[((2 : Int32)).toNatClampNeg]? = some (.int u2) := H28.at in28 rfl
  obtain ⟨v29, hv29, pre29⟩ : ∃ z : Int64, z = (v20 ||| ((y2.toInt64) <<< (u2 &&& 0x3f).toInt64)) ∧ Go p.tables e below S0 T26 (mkF m 39 #[vR a0, vR a1, vR a2, vI p3, vJ z, .second, vI (2 : Int32), .unset] []) := ⟨_, rfl, fun t k => pre27 t (by
    refine X26.iaload hx (j := (2 : Int32)) (v := (.int u2)) (by rw [e26]; exact Ar28.1) (State.isArrayOf_alike hZ.alike Ar28.2.1) Ar28.2.2 in28 at28 (g := (mkF m 34 #[vR a0, vR a1, vR a2, vI p3, vJ v20, .second, vI (2 : Int32), .unset] [(.int (2 : Int32)), (.ref as), (.long (y2.toInt64)), (.long v20)])) rfl rfl (hb hby d6_34) _ ?_
    refine XS.lshl X26.here hx rfl (hb hby d6_35) rfl ?_
    refine XS.lor X26.here hx rfl (hb hby d6_36) rfl ?_
    show Steps p.tables e below (T26.setTop (mkF m 37 #[vR a0, vR a1, vR a2, vI p3, vJ v20, .second, vI (2 : Int32), .unset] [(.long (v20 ||| ((y2.toInt64) <<< (u2 &&& 0x3f).toInt64)))])) _
    refine XS.lstore X26.here hx rfl (hb hby d6_37) rfl (l' := #[vR a0, vR a1, vR a2, vI p3, vJ (v20 ||| ((y2.toInt64) <<< (u2 &&& 0x3f).toInt64)), .second, vI (2 : Int32), .unset]) rfl ?_
    exact k)⟩
  have pre30 : Go p.tables e below S0 T26 (mkF m 17 #[vR a0, vR a1, vR a2, vI p3, vJ v29, .second, vI (3 : Int32), .unset] [(.ref a1), (.int (3 : Int32))]) := fun t k => pre29 t (by
    refine XS.iinc X26.here hx rfl (hb hby d6_39) rfl (l' := #[vR a0, vR a1, vR a2, vI p3, vJ v29, .second, vI (3 : Int32), .unset]) rfl ?_
    refine XS.goto X26.here hx rfl (pc0 := 42) (pc' := 14) rfl (hb hby d6_42) (by decide) (by decide) ?_
    refine XS.iload X26.here hx rfl (hb hby d6_14) rfl ?_
    show Steps p.tables e below (T26.setTop (mkF m 16 #[vR a0, vR a1, vR a2, vI p3, vJ v29, .second, vI (3 : Int32), .unset] [(.int (3 : Int32))])) _
    refine XS.aloadN X26.here hx rfl (hb hby d6_16) rfl rfl ?_
    exact k)
  obtain ⟨cl31, Ar31, q31, S31, M31, H31, G31⟩ := id V3
  have pre32 : Go p.tables e below S0 T26 (mkF m 26 #[vR a0, vR a1, vR a2, vI p3, vJ v29, .second, vI (3 : Int32), .unset] [(.int (3 : Int32)), (.ref a1), (.long v29)]) := fun t k => pre30 t (by
    refine X26.arraylength hx (by rw [e26]; exact Ar31.1) (State.isArrayOf_alike hZ.alike Ar31.2.1) (g := (mkF m 17 #[vR a0, vR a1, vR a2, vI p3, vJ v29, .second, vI (3 : Int32), .unset] [(.ref a1), (.int (3 : Int32))])) rfl rfl (hb hby d6_17) _ ?_
    rw [len_of S31 M31]
    refine XS.icmpNo X26.here hx rfl (hb hby d6_18) rfl (tlt (by decide : (3 : Int32) < (5 : Int32))).2.1 ?_
    refine XS.lload X26.here hx rfl (hb hby d6_21) rfl ?_
    show Steps p.tables e below (T26.setTop (mkF m 23 #[vR a0, vR a1, vR a2, vI p3, vJ v29, .second, vI (3 : Int32), .unset] [(.long v29)])) _
    refine XS.aloadN X26.here hx rfl (hb hby d6_23) rfl rfl ?_
    refine XS.iload X26.here hx rfl (hb hby d6_24) rfl ?_
    exact k)
  obtain ⟨cl33, Ar33, q33, S33, M33, H33, G33⟩ := id V3
  have in33 : ¬ ((3 : Int32) < 0 ∨ cl33.slots.size ≤ ((3 : Int32)).toNatClampNeg) := inb_of S33 ⟨by decide, by decide⟩
  have at33 : cl33.slots[((3 : Int32)).toNatClampNeg]? = some (.int y3) := H33.at in33 rfl
  have pre34 : Go p.tables e below S0 T26 (mkF m 29 #[vR a0, vR a1, vR a2, vI p3, vJ v29, .second, vI (3 : Int32), .unset] [(.ref a0), (.long (y3.toInt64)), (.long v29)]) := fun t k => pre32 t (by
    refine X26.iaload hx (j := (3 : Int32)) (v := (.int y3)) (by rw [e26]; exact Ar33.1) (State.isArrayOf_alike hZ.alike Ar33.2.1) Ar33.2.2 in33 at33 (g := (mkF m 26 #[vR a0, vR a1, vR a2, vI p3, vJ v29, .second, vI (3 : Int32), .unset] [(.int (3 : Int32)), (.ref a1), (.long v29)])) rfl rfl (hb hby d6_26) _ ?_
    refine XS.i2l X26.here hx rfl (hb hby d6_27) rfl ?_
    refine XS.aloadN X26.here hx rfl (hb hby d6_28) rfl rfl ?_
    show Steps p.tables e below (T26.setTop (mkF m 29 #[vR a0, vR a1, vR a2, vI p3, vJ v29, .second, vI (3 : Int32), .unset] [(.ref a0), (.long (y3.toInt64)), (.long v29)])) _
    exact k)
  obtain ⟨T35, X35, e35, st35⟩ := getF X26 hx hZ hown (host := "") (Or.inl (hw _ (List.mem_of_getElem? (i := 24) rfl))) Via.refl e26 Fs (g := (mkF m 29 #[vR a0, vR a1, vR a2, vI p3, vJ v29, .second, vI (3 : Int32), .unset] [(.ref a0), (.long (y3.toInt64)), (.long v29)])) rfl rfl (hb hby d6_29)
  have pre35 : Go p.tables e below S0 T35 (mkF m 32 #[vR a0, vR a1, vR a2, vI p3, vJ v29, .second, vI (3 : Int32), .unset] [(.ref as), (.long (y3.toInt64)), (.long v29)]) := fun t k => pre34 t (st35 t k)
  have pre36 : Go p.tables e below S0 T35 (mkF m 34 #[vR a0, vR a1, vR a2, vI p3, vJ v29, .second, vI (3 : Int32), .unset] [(.int (3 : Int32)), (.ref as), (.long (y3.toInt64)), (.long v29)]) := fun t k => pre35 t (by
    refine XS.iload X35.here hx rfl (hb hby d6_32) rfl ?_
    exact k)
  obtain ⟨cl37, Ar37, q37, S37, M37, H37, G37⟩ := id V2
  have in37 : ¬ ((3 : Int32) < 0 ∨ cl37.slots.size ≤ ((3 : Int32)).toNatClampNeg) := inb_of S37 ⟨by decide, by decide⟩
  have at37 : cl37.slots[((3 : Int32)).toNatClampNeg]? = some (.int u3) := H37.at in37 rfl
  obtain ⟨v38, hv38, pre38⟩ : ∃ z : Int64, z = (v29 ||| ((y3.toInt64) <<< (u3 &&& 0x3f).toInt64)) ∧ Go p.tables e below S0 T35 (mkF m 39 #[vR a0, vR a1, vR a2, vI p3, vJ z, .second, vI (3 : Int32), .unset] []) := ⟨_, rfl, fun t k => pre36 t (by
    refine X35.iaload hx (j := (3 : Int32)) (v := (.int u3)) (by rw [e35]; exact Ar37.1) (State.isArrayOf_alike hZ.alike Ar37.2.1) Ar37.2.2 in37 at37 (g := (mkF m 34 #[vR a0, vR a1, vR a2, vI p3, vJ v29, .second, vI (3 : Int32), .unset] [(.int (3 : Int32)), (.ref as), (.long (y3.toInt64)), (.long v29)])) rfl rfl (hb hby d6_34) _ ?_
    refine XS.lshl X35.here hx rfl (hb hby d6_35) rfl ?_
    refine XS.lor X35.here hx rfl (hb hby d6_36) rfl ?_
    show Steps p.tables e below (T35.setTop (mkF m 37 #[vR a0, vR a1, vR a2, vI p3, vJ v29, .second, vI (3 : Int32), .unset] [(.long (v29 ||| ((y3.toInt64) <<< (u3 &&& 0x3f).toInt64)))])) _
    refine XS.lstore X35.here hx rfl (hb hby d6_37) rfl (l' := #[vR a0, vR a1, vR a2, vI p3, vJ (v29 ||| ((y3.toInt64) <<< (u3 &&& 0x3f).toInt64)), .second, vI (3 : Int32), .unset]) rfl ?_
    exact k)⟩
  have pre39 : Go p.tables e below S0 T35 (mkF m 17 #[vR a0, vR a1, vR a2, vI p3, vJ v38, .second, vI (4 : Int32), .unset] [(.ref a1), (.int (4 : Int32))]) := fun t k => pre38 t (by
    refine XS.iinc X35.here hx rfl (hb hby d6_39) rfl (l' := #[vR a0, vR a1, vR a2, vI p3, vJ v38, .second, vI (4 : Int32), .unset]) rfl ?_
    refine XS.goto X35.here hx rfl (pc0 := 42) (pc' := 14) rfl (hb hby d6_42) (by decide) (by decide) ?_
    refine XS.iload X35.here hx rfl (hb hby d6_14) rfl ?_
    show Steps p.tables e below (T35.setTop (mkF m 16 #[vR a0, vR a1, vR a2, vI p3, vJ v38, .second, vI (4 : Int32), .unset] [(.int (4 : Int32))])) _
    refine XS.aloadN X35.here hx rfl (hb hby d6_16) rfl rfl ?_
    exact k)
  obtain ⟨cl40, Ar40, q40, S40, M40, H40, G40⟩ := id V3
  have pre41 : Go p.tables e below S0 T35 (mkF m 26 #[vR a0, vR a1, vR a2, vI p3, vJ v38, .second, vI (4 : Int32), .unset] [(.int (4 : Int32)), (.ref a1), (.long v38)]) := fun t k => pre39 t (by
    refine X35.arraylength hx (by rw [e35]; exact Ar40.1) (State.isArrayOf_alike hZ.alike Ar40.2.1) (g := (mkF m 17 #[vR a0, vR a1, vR a2, vI p3, vJ v38, .second, vI (4 : Int32), .unset] [(.ref a1), (.int (4 : Int32))])) rfl rfl (hb hby d6_17) _ ?_
    rw [len_of S40 M40]
    refine XS.icmpNo X35.here hx rfl (hb hby d6_18) rfl (tlt (by decide : (4 : Int32) < (5 : Int32))).2.1 ?_
    refine XS.lload X35.here hx rfl (hb hby d6_21) rfl ?_
    show Steps p.tables e below (T35.setTop (mkF m 23 #[vR a0, vR a1, vR a2, vI p3, vJ v38, .second, vI (4 : Int32), .unset] [(.long v38)])) _
    refine XS.aloadN X35.here hx rfl (hb hby d6_23) rfl rfl ?_
    refine XS.iload X35.here hx rfl (hb hby d6_24) rfl ?_
    exact k)
  obtain ⟨cl42, Ar42, q42, S42, M42, H42, G42⟩ := id V3
  have in42 : ¬ ((4 : Int32) < 0 ∨ cl42.slots.size ≤ ((4 : Int32)).toNatClampNeg) := inb_of S42 ⟨by decide, by decide⟩
  have at42 : cl42.slots[((4 : Int32)).toNatClampNeg]? = some (.int y4) := H42.at in42 rfl
  have pre43 : Go p.tables e below S0 T35 (mkF m 29 #[vR a0, vR a1, vR a2, vI p3, vJ v38, .second, vI (4 : Int32), .unset] [(.ref a0), (.long (y4.toInt64)), (.long v38)]) := fun t k => pre41 t (by
    refine X35.iaload hx (j := (4 : Int32)) (v := (.int y4)) (by rw [e35]; exact Ar42.1) (State.isArrayOf_alike hZ.alike Ar42.2.1) Ar42.2.2 in42 at42 (g := (mkF m 26 #[vR a0, vR a1, vR a2, vI p3, vJ v38, .second, vI (4 : Int32), .unset] [(.int (4 : Int32)), (.ref a1), (.long v38)])) rfl rfl (hb hby d6_26) _ ?_
    refine XS.i2l X35.here hx rfl (hb hby d6_27) rfl ?_
    refine XS.aloadN X35.here hx rfl (hb hby d6_28) rfl rfl ?_
    show Steps p.tables e below (T35.setTop (mkF m 29 #[vR a0, vR a1, vR a2, vI p3, vJ v38, .second, vI (4 : Int32), .unset] [(.ref a0), (.long (y4.toInt64)), (.long v38)])) _
    exact k)
  obtain ⟨T44, X44, e44, st44⟩ := getF X35 hx hZ hown (host := "") (Or.inl (hw _ (List.mem_of_getElem? (i := 24) rfl))) Via.refl e35 Fs (g := (mkF m 29 #[vR a0, vR a1, vR a2, vI p3, vJ v38, .second, vI (4 : Int32), .unset] [(.ref a0), (.long (y4.toInt64)), (.long v38)])) rfl rfl (hb hby d6_29)
  have pre44 : Go p.tables e below S0 T44 (mkF m 32 #[vR a0, vR a1, vR a2, vI p3, vJ v38, .second, vI (4 : Int32), .unset] [(.ref as), (.long (y4.toInt64)), (.long v38)]) := fun t k => pre43 t (st44 t k)
  have pre45 : Go p.tables e below S0 T44 (mkF m 34 #[vR a0, vR a1, vR a2, vI p3, vJ v38, .second, vI (4 : Int32), .unset] [(.int (4 : Int32)), (.ref as), (.long (y4.toInt64)), (.long v38)]) := fun t k => pre44 t (by
    refine XS.iload X44.here hx rfl (hb hby d6_32) rfl ?_
    exact k)
  obtain ⟨cl46, Ar46, q46, S46, M46, H46, G46⟩ := id V2
  have in46 : ¬ ((4 : Int32) < 0 ∨ cl46.slots.size ≤ ((4 : Int32)).toNatClampNeg) := inb_of S46 ⟨by decide, by decide⟩
  have at46 : cl46.slots[((4 : Int32)).toNatClampNeg]? = some (.int u4) := H46.at in46 rfl
  obtain ⟨v47, hv47, pre47⟩ : ∃ z : Int64, z = (v38 ||| ((y4.toInt64) <<< (u4 &&& 0x3f).toInt64)) ∧ Go p.tables e below S0 T44 (mkF m 39 #[vR a0, vR a1, vR a2, vI p3, vJ z, .second, vI (4 : Int32), .unset] []) := ⟨_, rfl, fun t k => pre45 t (by
    refine X44.iaload hx (j := (4 : Int32)) (v := (.int u4)) (by rw [e44]; exact Ar46.1) (State.isArrayOf_alike hZ.alike Ar46.2.1) Ar46.2.2 in46 at46 (g := (mkF m 34 #[vR a0, vR a1, vR a2, vI p3, vJ v38, .second, vI (4 : Int32), .unset] [(.int (4 : Int32)), (.ref as), (.long (y4.toInt64)), (.long v38)])) rfl rfl (hb hby d6_34) _ ?_
    refine XS.lshl X44.here hx rfl (hb hby d6_35) rfl ?_
    refine XS.lor X44.here hx rfl (hb hby d6_36) rfl ?_
    show Steps p.tables e below (T44.setTop (mkF m 37 #[vR a0, vR a1, vR a2, vI p3, vJ v38, .second, vI (4 : Int32), .unset] [(.long (v38 ||| ((y4.toInt64) <<< (u4 &&& 0x3f).toInt64)))])) _
    refine XS.lstore X44.here hx rfl (hb hby d6_37) rfl (l' := #[vR a0, vR a1, vR a2, vI p3, vJ (v38 ||| ((y4.toInt64) <<< (u4 &&& 0x3f).toInt64)), .second, vI (4 : Int32), .unset]) rfl ?_
    exact k)⟩
  have pre48 : Go p.tables e below S0 T44 (mkF m 17 #[vR a0, vR a1, vR a2, vI p3, vJ v47, .second, vI (5 : Int32), .unset] [(.ref a1), (.int (5 : Int32))]) := fun t k => pre47 t (by
    refine XS.iinc X44.here hx rfl (hb hby d6_39) rfl (l' := #[vR a0, vR a1, vR a2, vI p3, vJ v47, .second, vI (5 : Int32), .unset]) rfl ?_
    refine XS.goto X44.here hx rfl (pc0 := 42) (pc' := 14) rfl (hb hby d6_42) (by decide) (by decide) ?_
    refine XS.iload X44.here hx rfl (hb hby d6_14) rfl ?_
    show Steps p.tables e below (T44.setTop (mkF m 16 #[vR a0, vR a1, vR a2, vI p3, vJ v47, .second, vI (5 : Int32), .unset] [(.int (5 : Int32))])) _
    refine XS.aloadN X44.here hx rfl (hb hby d6_16) rfl rfl ?_
    exact k)
  obtain ⟨cl49, Ar49, q49, S49, M49, H49, G49⟩ := id V3
  have pre50 : Go p.tables e below S0 T44 (mkF m 49 #[vR a0, vR a1, vR a2, vI p3, vJ v47, .second, vI (5 : Int32), .unset] [(.long v47), (.int p3), (.ref a2)]) := fun t k => pre48 t (by
    refine X44.arraylength hx (by rw [e44]; exact Ar49.1) (State.isArrayOf_alike hZ.alike Ar49.2.1) (g := (mkF m 17 #[vR a0, vR a1, vR a2, vI p3, vJ v47, .second, vI (5 : Int32), .unset] [(.ref a1), (.int (5 : Int32))])) rfl rfl (hb hby d6_17) _ ?_
    rw [len_of S49 M49]
    refine XS.icmpYes X44.here hx rfl (pc0 := 18) (pc' := 45) rfl (hb hby d6_18) rfl (flt (by decide : ¬ ((5 : Int32) < (5 : Int32)))).2.1 (by decide) (by decide) ?_
    refine XS.aloadN X44.here hx rfl (hb hby d6_45) rfl rfl ?_
    show Steps p.tables e below (T44.setTop (mkF m 46 #[vR a0, vR a1, vR a2, vI p3, vJ v47, .second, vI (5 : Int32), .unset] [(.ref a2)])) _
    refine XS.iloadN X44.here hx rfl (hb hby d6_46) rfl ?_
    refine XS.lload X44.here hx rfl (hb hby d6_47) rfl ?_
    exact k)
  obtain ⟨cl51, Ar51, q51, S51, M51, H51, G51⟩ := id V4
  have in51 : ¬ (p3 < 0 ∨ cl51.slots.size ≤ (p3).toNatClampNeg) := inb_of S51 hin0
  obtain ⟨T51, h51, X51, e51, W51, st51⟩ := stJ X44 hx hZ e44 Ar51 (j := p3) in51 (g := (mkF m 49 #[vR a0, vR a1, vR a2, vI p3, vJ v47, .second, vI (5 : Int32), .unset] [(.long v47), (.int p3), (.ref a2)])) rfl rfl (hb hby d6_49)
  have pre51 : Go p.tables e below S0 T51 (mkF m 50 #[vR a0, vR a1, vR a2, vI p3, vJ v47, .second, vI (5 : Int32), .unset] []) := fun t k => pre50 t (st51 t k)
  obtain ⟨lo51, N51, X51⟩ : ∃ lo, Fr n0 lo ∧ Stand p l e ({ frames := 0, cells := 0, slots := 0, locals := 0 } : Room) s m #[(.ref a0), (.ref a1), (.ref a2), (.int p3)] below meth c T51 lo 0 0 := ⟨_, Fr.snoc X51 N0 g0, X51⟩
  have av51 : Arv Z h51 a2 k2 .long (6 : Int32) [(.long (own_putL p3 (0 : Int32) v47 x0)), (.long (own_putL p3 (1 : Int32) v47 x1)), (.long (own_putL p3 (2 : Int32) v47 x2)), (.long (own_putL p3 (3 : Int32) v47 x3)), (.long (own_putL p3 (4 : Int32) v47 x4)), (.long (own_putL p3 (5 : Int32) v47 x5))] (.long (0 : Int64)) := by
    have q := Arv.set Ar51 q51 S51 M51 H51 G51 rfl W51 _ rfl (own_setJ6 (w := 0) (x0 := 0) (x1 := 0) (x2 := 0) (x3 := 0) (x4 := 0) (x5 := 0) hin0).1
    rw [(own_setJ6 hin0).2] at q
    exact q
  have f52_1 := Fld.other W51 Fn (Or.inl xe0)
  have f52_2 := Fld.other W51 Fw (Or.inl xe0)
  have f52_3 := Fld.other W51 Fs (Or.inl xe0)
  have f52_4 := V1.other W51 xe1
  have f52_5 := V2.other W51 xe2
  have f52_6 := V3.other W51 xe3
  have zz53 : n0 ≤ h51.size := Nat.le_trans Z0 (Keep.of_wr W51).1
  have kp54 : Keep h0 h51 [a2] := kp0.wr W51 (Or.inl (List.mem_of_getElem? (i := 0) rfl))
  have pre55 : Go p.tables e below S0 T51 (mkF m 133 #[vR a0, vR a1, vR a2, vI p3, vJ v47, .second, vI (5 : Int32), .unset] []) := fun t k => pre51 t (by
    refine XS.goto X51.here hx rfl (pc0 := 50) (pc' := 133) rfl (hb hby d6_50) (by decide) (by decide) ?_
    exact k)
  obtain ⟨fs, hr, hrun, hended, hW, hsame⟩ := X51.leave (v := none) (fun _ => rfl)
  exact ⟨_, _, pre55.fin hS0 (X51.returnOut hx Bd.returns (hb hby d6_133) hr), hrun, hended, _, _, rfl, (by
    show Q6_00000 Z a0 a1 a2 p3 aw as kw ks k1 k2 u0 u1 u2 u3 u4 y0 y1 y2 y3 y4 x0 x1 x2 x3 x4 x5 h0 n0 _ T51.heap _
    rw [e51]
    subst hv47 hv38 hv29 hv20 hv11
    exact ⟨rfl, N51, _, _, _, _, _, _, ⟨rfl, rfl, rfl, rfl, rfl, rfl⟩, kp54, av51⟩), ⟨_, rfl⟩, hW, hsame.mono (by decide) (by decide)⟩
theorem ef_6_00001 (m : MethodId) (x0 : Addr) (x1 : Addr) (x2 : Addr) (x3 : Int32) : entryFrame m #[(.ref x0), (.ref x1), (.ref x2), (.int x3)] 8 = mkF m 0 #[.val (.ref x0), .val (.ref x1), .val (.ref x2), .val (.int x3), .unset, .unset, .unset, .unset] [] := by first | (simp [entryFrame, mkF, argsToLocals, Value.category]; done) | rfl
theorem d6_53 : decode prog_46_method_4_code 53 = .ok (.iconst 0, 1) := by decide +kernel
theorem d6_54 : decode prog_46_method_4_code 54 = .ok (.istore 4, 2) := by decide +kernel
theorem d6_56 : decode prog_46_method_4_code 56 = .ok (.lconst 0, 1) := by decide +kernel
theorem d6_57 : decode prog_46_method_4_code 57 = .ok (.lstore 5, 2) := by decide +kernel
theorem d6_59 : decode prog_46_method_4_code 59 = .ok (.iconst 0, 1) := by decide +kernel
theorem d6_60 : decode prog_46_method_4_code 60 = .ok (.istore 7, 2) := by decide +kernel
theorem d6_62 : decode prog_46_method_4_code 62 = .ok (.iload 7, 2) := by decide +kernel
theorem d6_64 : decode prog_46_method_4_code 64 = .ok (.aload_n 1, 1) := by decide +kernel
theorem d6_65 : decode prog_46_method_4_code 65 = .ok (.arraylength, 1) := by decide +kernel
theorem d6_66 : decode prog_46_method_4_code 66 = .ok (.if_icmp .ge 59, 3) := by decide +kernel
theorem d6_69 : decode prog_46_method_4_code 69 = .ok (.aload_n 0, 1) := by decide +kernel
theorem d6_70 : decode prog_46_method_4_code 70 = .ok (.getfield 7, 3) := by decide +kernel
theorem d6_73 : decode prog_46_method_4_code 73 = .ok (.iload 7, 2) := by decide +kernel
theorem d6_75 : decode prog_46_method_4_code 75 = .ok (.iaload, 1) := by decide +kernel
theorem d6_76 : decode prog_46_method_4_code 76 = .ok (.iload 4, 2) := by decide +kernel
theorem d6_78 : decode prog_46_method_4_code 78 = .ok (.if_icmp .eq 23, 3) := by decide +kernel
theorem d6_81 : decode prog_46_method_4_code 81 = .ok (.aload_n 2, 1) := by decide +kernel
theorem d6_82 : decode prog_46_method_4_code 82 = .ok (.iload_n 3, 1) := by decide +kernel
theorem d6_83 : decode prog_46_method_4_code 83 = .ok (.iload 4, 2) := by decide +kernel
theorem d6_85 : decode prog_46_method_4_code 85 = .ok (.iadd, 1) := by decide +kernel
theorem d6_86 : decode prog_46_method_4_code 86 = .ok (.lload 5, 2) := by decide +kernel
theorem d6_88 : decode prog_46_method_4_code 88 = .ok (.lastore, 1) := by decide +kernel
theorem d6_89 : decode prog_46_method_4_code 89 = .ok (.aload_n 0, 1) := by decide +kernel
theorem d6_90 : decode prog_46_method_4_code 90 = .ok (.getfield 7, 3) := by decide +kernel
theorem d6_93 : decode prog_46_method_4_code 93 = .ok (.iload 7, 2) := by decide +kernel
theorem d6_95 : decode prog_46_method_4_code 95 = .ok (.iaload, 1) := by decide +kernel
theorem d6_96 : decode prog_46_method_4_code 96 = .ok (.istore 4, 2) := by decide +kernel
theorem d6_98 : decode prog_46_method_4_code 98 = .ok (.lconst 0, 1) := by decide +kernel
theorem d6_99 : decode prog_46_method_4_code 99 = .ok (.lstore 5, 2) := by decide +kernel
theorem d6_101 : decode prog_46_method_4_code 101 = .ok (.lload 5, 2) := by decide +kernel
theorem d6_103 : decode prog_46_method_4_code 103 = .ok (.aload_n 1, 1) := by decide +kernel
theorem d6_104 : decode prog_46_method_4_code 104 = .ok (.iload 7, 2) := by decide +kernel
theorem d6_106 : decode prog_46_method_4_code 106 = .ok (.iaload, 1) := by decide +kernel
theorem d6_107 : decode prog_46_method_4_code 107 = .ok (.i2l, 1) := by decide +kernel
theorem d6_108 : decode prog_46_method_4_code 108 = .ok (.aload_n 0, 1) := by decide +kernel
theorem d6_109 : decode prog_46_method_4_code 109 = .ok (.getfield 13, 3) := by decide +kernel
theorem d6_112 : decode prog_46_method_4_code 112 = .ok (.iload 7, 2) := by decide +kernel
theorem d6_114 : decode prog_46_method_4_code 114 = .ok (.iaload, 1) := by decide +kernel
theorem d6_115 : decode prog_46_method_4_code 115 = .ok (.lshl, 1) := by decide +kernel
theorem d6_116 : decode prog_46_method_4_code 116 = .ok (.lor, 1) := by decide +kernel
theorem d6_117 : decode prog_46_method_4_code 117 = .ok (.lstore 5, 2) := by decide +kernel
theorem d6_119 : decode prog_46_method_4_code 119 = .ok (.iinc 7 1, 3) := by decide +kernel
theorem d6_122 : decode prog_46_method_4_code 122 = .ok (.goto (-60), 3) := by decide +kernel
theorem d6_125 : decode prog_46_method_4_code 125 = .ok (.aload_n 2, 1) := by decide +kernel
theorem d6_126 : decode prog_46_method_4_code 126 = .ok (.iload_n 3, 1) := by decide +kernel
theorem d6_127 : decode prog_46_method_4_code 127 = .ok (.iload 4, 2) := by decide +kernel
theorem d6_129 : decode prog_46_method_4_code 129 = .ok (.iadd, 1) := by decide +kernel
theorem d6_130 : decode prog_46_method_4_code 130 = .ok (.lload 5, 2) := by decide +kernel
theorem d6_132 : decode prog_46_method_4_code 132 = .ok (.lastore, 1) := by decide +kernel
def Q6_00001 (Z : State) (a0 a1 a2 : Addr) (p3 : Int32) (aw as : Addr) (kw ks k1 k2 : ClassId) (u0 u1 u2 u3 u4 y0 y1 y2 y3 y4 : Int32) (x0 x1 x2 x3 x4 x5 : Int64) (h0 : Heap) (n0 : Nat) (v : Option Value) (h : Heap) (L : List Loc) : Prop := v = none ∧ Fr n0 L ∧ ∃ (z0 z1 z2 z3 z4 z5 : Int64), (z0 = (own_putL (p3 + (1 : Int32)) (0 : Int32) ((0 : Int64) ||| ((y4.toInt64) <<< (u4 &&& 0x3f).toInt64)) (own_putL (p3 + (0 : Int32)) (0 : Int32) (((((0 : Int64) ||| ((y0.toInt64) <<< (u0 &&& 0x3f).toInt64)) ||| ((y1.toInt64) <<< (u1 &&& 0x3f).toInt64)) ||| ((y2.toInt64) <<< (u2 &&& 0x3f).toInt64)) ||| ((y3.toInt64) <<< (u3 &&& 0x3f).toInt64)) x0)) ∧ z1 = (own_putL (p3 + (1 : Int32)) (1 : Int32) ((0 : Int64) ||| ((y4.toInt64) <<< (u4 &&& 0x3f).toInt64)) (own_putL (p3 + (0 : Int32)) (1 : Int32) (((((0 : Int64) ||| ((y0.toInt64) <<< (u0 &&& 0x3f).toInt64)) ||| ((y1.toInt64) <<< (u1 &&& 0x3f).toInt64)) ||| ((y2.toInt64) <<< (u2 &&& 0x3f).toInt64)) ||| ((y3.toInt64) <<< (u3 &&& 0x3f).toInt64)) x1)) ∧ z2 = (own_putL (p3 + (1 : Int32)) (2 : Int32) ((0 : Int64) ||| ((y4.toInt64) <<< (u4 &&& 0x3f).toInt64)) (own_putL (p3 + (0 : Int32)) (2 : Int32) (((((0 : Int64) ||| ((y0.toInt64) <<< (u0 &&& 0x3f).toInt64)) ||| ((y1.toInt64) <<< (u1 &&& 0x3f).toInt64)) ||| ((y2.toInt64) <<< (u2 &&& 0x3f).toInt64)) ||| ((y3.toInt64) <<< (u3 &&& 0x3f).toInt64)) x2)) ∧ z3 = (own_putL (p3 + (1 : Int32)) (3 : Int32) ((0 : Int64) ||| ((y4.toInt64) <<< (u4 &&& 0x3f).toInt64)) (own_putL (p3 + (0 : Int32)) (3 : Int32) (((((0 : Int64) ||| ((y0.toInt64) <<< (u0 &&& 0x3f).toInt64)) ||| ((y1.toInt64) <<< (u1 &&& 0x3f).toInt64)) ||| ((y2.toInt64) <<< (u2 &&& 0x3f).toInt64)) ||| ((y3.toInt64) <<< (u3 &&& 0x3f).toInt64)) x3)) ∧ z4 = (own_putL (p3 + (1 : Int32)) (4 : Int32) ((0 : Int64) ||| ((y4.toInt64) <<< (u4 &&& 0x3f).toInt64)) (own_putL (p3 + (0 : Int32)) (4 : Int32) (((((0 : Int64) ||| ((y0.toInt64) <<< (u0 &&& 0x3f).toInt64)) ||| ((y1.toInt64) <<< (u1 &&& 0x3f).toInt64)) ||| ((y2.toInt64) <<< (u2 &&& 0x3f).toInt64)) ||| ((y3.toInt64) <<< (u3 &&& 0x3f).toInt64)) x4)) ∧ z5 = (own_putL (p3 + (1 : Int32)) (5 : Int32) ((0 : Int64) ||| ((y4.toInt64) <<< (u4 &&& 0x3f).toInt64)) (own_putL (p3 + (0 : Int32)) (5 : Int32) (((((0 : Int64) ||| ((y0.toInt64) <<< (u0 &&& 0x3f).toInt64)) ||| ((y1.toInt64) <<< (u1 &&& 0x3f).toInt64)) ||| ((y2.toInt64) <<< (u2 &&& 0x3f).toInt64)) ||| ((y3.toInt64) <<< (u3 &&& 0x3f).toInt64)) x5))) ∧ Keep h0 h [a2] ∧ (Arv Z h a2 k2 .long (6 : Int32) [(.long z0), (.long z1), (.long z2), (.long z3), (.long z4), (.long z5)] (.long (0 : Int64)))
set_option maxRecDepth 65536 in
set_option maxHeartbeats 40000000 in
theorem rm6_00001 (l : Launch) (Z : State) (A0 : Array Value) (hw : ∀ d ∈ tables_1, d.before A0 Z = true) (ws : List Jvm.Cond) (a0 : Addr) (a1 : Addr) (a2 : Addr) (p3 : Int32) (aw as : Addr) (kw ks k1 k2 : ClassId) (u0 u1 u2 u3 u4 y0 y1 y2 y3 y4 : Int32) (x0 x1 x2 x3 x4 x5 : Int64) (h0 : Heap) (n0 : Nat) (Z0 : n0 ≤ h0.size) (Fn : Fld Z h0 a0 "com/example/garantia/garantia/engine/StateLayout" "words" "I" (.int (2 : Int32))) (Fw : Fld Z h0 a0 "com/example/garantia/garantia/engine/StateLayout" "word" "[I" (.ref aw)) (Fs : Fld Z h0 a0 "com/example/garantia/garantia/engine/StateLayout" "shift" "[I" (.ref as)) (V1 : Arv Z h0 aw kw .int (5 : Int32) [(.int (0 : Int32)), (.int (0 : Int32)), (.int (0 : Int32)), (.int (0 : Int32)), (.int (1 : Int32))] (.int (0 : Int32))) (V2 : Arv Z h0 as ks .int (5 : Int32) [(.int u0), (.int u1), (.int u2), (.int u3), (.int u4)] (.int (0 : Int32))) (V3 : Arv Z h0 a1 k1 .int (5 : Int32) [(.int y0), (.int y1), (.int y2), (.int y3), (.int y4)] (.int (0 : Int32))) (V4 : Arv Z h0 a2 k2 .long (6 : Int32) [(.long x0), (.long x1), (.long x2), (.long x3), (.long x4), (.long x5)] (.long (0 : Int64))) (xe0 : a0 ≠ a2) (xe1 : aw ≠ a2) (xe2 : as ≠ a2) (xe3 : a1 ≠ a2) (g0 : n0 ≤ a2) (hin0 : ¬ (p3 + (0 : Int32)) < 0 ∧ (p3 + (0 : Int32)) < (6 : Int32)) (hin1 : ¬ (p3 + (1 : Int32)) < 0 ∧ (p3 + (1 : Int32)) < (6 : Int32)) :
    MetFree l (⟨"com/example/garantia/garantia/engine/StateLayout", "pack", "([I[JI)V"⟩ : MethodName) (head1 (Jvm.Cond.code (⟨"com/example/garantia/garantia/engine/StateLayout", "pack", "([I[JI)V"⟩ : MethodName) prog_46_method_4_code 8 none :: ws) ({ frames := 0, cells := 0, slots := 0, locals := 0 } : Room)) (fun a U => a = #[(.ref a0), (.ref a1), (.ref a2), (.int p3)] ∧ Z.Warmed39 U.vm ∧ U.heap = h0) (fun _ _ _ _ _ => True) (fun _ U o U' => ∃ v L, o = .returned v ∧ Q6_00001 Z a0 a1 a2 p3 aw as kw ks k1 k2 u0 u1 u2 u3 u4 y0 y1 y2 y3 y4 x0 x1 x2 x3 x4 x5 h0 n0 v U'.heap L ∧ FrameEnd U o U' L ({ frames := 0, cells := 0, slots := 0, locals := 0 } : Room).cells ({ frames := 0, cells := 0, slots := 0, locals := 0 } : Room).slots) := by
  refine MetFree.of_bodySF (plainFor_of_name pn_1) hisR ?_
  intro p e s m args below meth c s₁ Bd hml0 hP hK
  obtain ⟨rfl, hZ, hh⟩ := hP
  have hx := Bd.exec
  have hby := Bd.bytes
  have hml : c.maxLocals = 8 := hml0
  have hown : s.vm.findClass "com/example/garantia/garantia/engine/StateLayout" = some m.cls := findClass_of_methodNamed Bd.named
  have hnm := (name_of_methodNamed Bd.named Bd.method).1
  have X0 : Stand p l e ({ frames := 0, cells := 0, slots := 0, locals := 0 } : Room) s m #[(.ref a0), (.ref a1), (.ref a2), (.int p3)] below meth c s₁ [] 0 0 := Stand.of_body Bd
  have e0 : s₁.heap = h0 := by rw [← hh, Bd.state]; rfl
  have N0 := Fr.nil n0
  have kp0 : Keep h0 h0 [a2] := Keep.refl _ _
  obtain ⟨S0, hS0⟩ : ∃ z, z = s₁.setTop (entryFrame m #[(.ref a0), (.ref a1), (.ref a2), (.int p3)] 8) := ⟨_, rfl⟩
  have pre0 : Go p.tables e below S0 s₁ (mkF m 0 #[vR a0, vR a1, vR a2, vI p3, .unset, .unset, .unset, .unset] []) := fun t k => by rw [hS0]; exact castTop (ef_6_00001 m a0 a1 a2 p3) k
  have pre1 : Go p.tables e below S0 s₁ (mkF m 1 #[vR a0, vR a1, vR a2, vI p3, .unset, .unset, .unset, .unset] [(.ref a0)]) := fun t k => pre0 t (by
    refine XS.aloadN X0.here hx rfl (hb hby d6_0) rfl rfl ?_
    exact k)
  obtain ⟨T2, X2, e2, st2⟩ := getF X0 hx hZ hown (host := "") (Or.inl (hw _ (List.mem_of_getElem? (i := 31) rfl))) Via.refl e0 Fn (g := (mkF m 1 #[vR a0, vR a1, vR a2, vI p3, .unset, .unset, .unset, .unset] [(.ref a0)])) rfl rfl (hb hby d6_1)
  have pre2 : Go p.tables e below S0 T2 (mkF m 4 #[vR a0, vR a1, vR a2, vI p3, .unset, .unset, .unset, .unset] [(.int (2 : Int32))]) := fun t k => pre1 t (st2 t k)
  have pre3 : Go p.tables e below S0 T2 (mkF m 65 #[vR a0, vR a1, vR a2, vI p3, vI (0 : Int32), vJ (0 : Int64), .second, vI (0 : Int32)] [(.ref a1), (.int (0 : Int32))]) := fun t k => pre2 t (by
    refine XS.iconst X2.here hx rfl (hb hby d6_4) ?_
    refine XS.icmpYes X2.here hx rfl (pc0 := 5) (pc' := 53) rfl (hb hby d6_5) rfl (feq (by decide : ¬ ((2 : Int32) = (1 : Int32)))).2 (by decide) (by decide) ?_
    refine XS.iconst X2.here hx rfl (hb hby d6_53) ?_
    show Steps p.tables e below (T2.setTop (mkF m 54 #[vR a0, vR a1, vR a2, vI p3, .unset, .unset, .unset, .unset] [(.int (0 : Int32))])) _
    refine XS.istore X2.here hx rfl (hb hby d6_54) rfl (l' := #[vR a0, vR a1, vR a2, vI p3, vI (0 : Int32), .unset, .unset, .unset]) rfl ?_
    refine XS.lconst X2.here hx rfl (hb hby d6_56) ?_
    refine XS.lstore X2.here hx rfl (hb hby d6_57) rfl (l' := #[vR a0, vR a1, vR a2, vI p3, vI (0 : Int32), vJ (0 : Int64), .second, .unset]) rfl ?_
    show Steps p.tables e below (T2.setTop (mkF m 59 #[vR a0, vR a1, vR a2, vI p3, vI (0 : Int32), vJ (0 : Int64), .second, .unset] [])) _
    refine XS.iconst X2.here hx rfl (hb hby d6_59) ?_
    refine XS.istore X2.here hx rfl (hb hby d6_60) rfl (l' := #[vR a0, vR a1, vR a2, vI p3, vI (0 : Int32), vJ (0 : Int64), .second, vI (0 : Int32)]) rfl ?_
    refine XS.iload X2.here hx rfl (hb hby d6_62) rfl ?_
    show Steps p.tables e below (T2.setTop (mkF m 64 #[vR a0, vR a1, vR a2, vI p3, vI (0 : Int32), vJ (0 : Int64), .second, vI (0 : Int32)] [(.int (0 : Int32))])) _
    refine XS.aloadN X2.here hx rfl (hb hby d6_64) rfl rfl ?_
    exact k)
  obtain ⟨cl4, Ar4, q4, S4, M4, H4, G4⟩ := id V3
  have pre5 : Go p.tables e below S0 T2 (mkF m 70 #[vR a0, vR a1, vR a2, vI p3, vI (0 : Int32), vJ (0 : Int64), .second, vI (0 : Int32)] [(.ref a0)]) := fun t k => pre3 t (by
    refine X2.arraylength hx (by rw [e2]; exact Ar4.1) (State.isArrayOf_alike hZ.alike Ar4.2.1) (g := (mkF m 65 #[vR a0, vR a1, vR a2, vI p3, vI (0 : Int32), vJ (0 : Int64), .second, vI (0 : Int32)] [(.ref a1), (.int (0 : Int32))])) rfl rfl (hb hby d6_65) _ ?_
    rw [len_of S4 M4]
    refine XS.icmpNo X2.here hx rfl (hb hby d6_66) rfl (tlt (by decide : (0 : Int32) < (5 : Int32))).2.1 ?_
    refine XS.aloadN X2.here hx rfl (hb hby d6_69) rfl rfl ?_
    show Steps p.tables e below (T2.setTop (mkF m 70 #[vR a0, vR a1, vR a2, vI p3, vI (0 : Int32), vJ (0 : Int64), .second, vI (0 : Int32)] [(.ref a0)])) _
    exact k)
  obtain ⟨T6, X6, e6, st6⟩ := getF X2 hx hZ hown (host := "") (Or.inl (hw _ (List.mem_of_getElem? (i := 22) rfl))) Via.refl e2 Fw (g := (mkF m 70 #[vR a0, vR a1, vR a2, vI p3, vI (0 : Int32), vJ (0 : Int64), .second, vI (0 : Int32)] [(.ref a0)])) rfl rfl (hb hby d6_70)
  have pre6 : Go p.tables e below S0 T6 (mkF m 73 #[vR a0, vR a1, vR a2, vI p3, vI (0 : Int32), vJ (0 : Int64), .second, vI (0 : Int32)] [(.ref aw)]) := fun t k => pre5 t (st6 t k)
  have pre7 : Go p.tables e below S0 T6 (mkF m 75 #[vR a0, vR a1, vR a2, vI p3, vI (0 : Int32), vJ (0 : Int64), .second, vI (0 : Int32)] [(.int (0 : Int32)), (.ref aw)]) := fun t k => pre6 t (by
    refine XS.iload X6.here hx rfl (hb hby d6_73) rfl ?_
    exact k)
  obtain ⟨cl8, Ar8, q8, S8, M8, H8, G8⟩ := id V1
  have in8 : ¬ ((0 : Int32) < 0 ∨ cl8.slots.size ≤ ((0 : Int32)).toNatClampNeg) := inb_of S8 ⟨by decide, by decide⟩
  have at8 : cl8.slots[((0 : Int32)).toNatClampNeg]? = some (.int (0 : Int32)) := H8.at in8 rfl
  have pre9 : Go p.tables e below S0 T6 (mkF m 106 #[vR a0, vR a1, vR a2, vI p3, vI (0 : Int32), vJ (0 : Int64), .second, vI (0 : Int32)] [(.int (0 : Int32)), (.ref a1), (.long (0 : Int64))]) := fun t k => pre7 t (by
    refine X6.iaload hx (j := (0 : Int32)) (v := (.int (0 : Int32))) (by rw [e6]; exact Ar8.1) (State.isArrayOf_alike hZ.alike Ar8.2.1) Ar8.2.2 in8 at8 (g := (mkF m 75 #[vR a0, vR a1, vR a2, vI p3, vI (0 : Int32), vJ (0 : Int64), .second, vI (0 : Int32)] [(.int (0 : Int32)), (.ref aw)])) rfl rfl (hb hby d6_75) _ ?_
    refine XS.iload X6.here hx rfl (hb hby d6_76) rfl ?_
    refine XS.icmpYes X6.here hx rfl (pc0 := 78) (pc' := 101) rfl (hb hby d6_78) rfl (teq (rfl : (0 : Int32) = (0 : Int32))).1 (by decide) (by decide) ?_
    show Steps p.tables e below (T6.setTop (mkF m 101 #[vR a0, vR a1, vR a2, vI p3, vI (0 : Int32), vJ (0 : Int64), .second, vI (0 : Int32)] [])) _
    refine XS.lload X6.here hx rfl (hb hby d6_101) rfl ?_
    refine XS.aloadN X6.here hx rfl (hb hby d6_103) rfl rfl ?_
    refine XS.iload X6.here hx rfl (hb hby d6_104) rfl ?_
    show Steps p.tables e below (T6.setTop (mkF m 106 #[vR a0, vR a1, vR a2, vI p3, vI (0 : Int32), vJ (0 : Int64), .second, vI (0 : Int32)] [(.int (0 : Int32)), (.ref a1), (.long (0 : Int64))])) _
    exact k)
  obtain ⟨cl10, Ar10, q10, S10, M10, H10, G10⟩ := id V3
  have in10 : ¬ ((0 : Int32) < 0 ∨ cl10.slots.size ≤ ((0 : Int32)).toNatClampNeg) := inb_of S10 ⟨by decide, by decide⟩
  have at10 : cl10.slots[((0 : Int32)).toNatClampNeg]? = some (.int y0) := H10.at in10 rfl
  have pre11 : Go p.tables e below S0 T6 (mkF m 109 #[vR a0, vR a1, vR a2, vI p3, vI (0 : Int32), vJ (0 : Int64), .second, vI (0 : Int32)] [(.ref a0), (.long (y0.toInt64)), (.long (0 : Int64))]) := fun t k => pre9 t (by
    refine X6.iaload hx (j := (0 : Int32)) (v := (.int y0)) (by rw [e6]; exact Ar10.1) (State.isArrayOf_alike hZ.alike Ar10.2.1) Ar10.2.2 in10 at10 (g := (mkF m 106 #[vR a0, vR a1, vR a2, vI p3, vI (0 : Int32), vJ (0 : Int64), .second, vI (0 : Int32)] [(.int (0 : Int32)), (.ref a1), (.long (0 : Int64))])) rfl rfl (hb hby d6_106) _ ?_
    refine XS.i2l X6.here hx rfl (hb hby d6_107) rfl ?_
    refine XS.aloadN X6.here hx rfl (hb hby d6_108) rfl rfl ?_
    show Steps p.tables e below (T6.setTop (mkF m 109 #[vR a0, vR a1, vR a2, vI p3, vI (0 : Int32), vJ (0 : Int64), .second, vI (0 : Int32)] [(.ref a0), (.long (y0.toInt64)), (.long (0 : Int64))])) _
    exact k)
  obtain ⟨T12, X12, e12, st12⟩ := getF X6 hx hZ hown (host := "") (Or.inl (hw _ (List.mem_of_getElem? (i := 24) rfl))) Via.refl e6 Fs (g := (mkF m 109 #[vR a0, vR a1, vR a2, vI p3, vI (0 : Int32), vJ (0 : Int64), .second, vI (0 : Int32)] [(.ref a0), (.long (y0.toInt64)), (.long (0 : Int64))])) rfl rfl (hb hby d6_109)
  have pre12 : Go p.tables e below S0 T12 (mkF m 112 #[vR a0, vR a1, vR a2, vI p3, vI (0 : Int32), vJ (0 : Int64), .second, vI (0 : Int32)] [(.ref as), (.long (y0.toInt64)), (.long (0 : Int64))]) := fun t k => pre11 t (st12 t k)
  have pre13 : Go p.tables e below S0 T12 (mkF m 114 #[vR a0, vR a1, vR a2, vI p3, vI (0 : Int32), vJ (0 : Int64), .second, vI (0 : Int32)] [(.int (0 : Int32)), (.ref as), (.long (y0.toInt64)), (.long (0 : Int64))]) := fun t k => pre12 t (by
    refine XS.iload X12.here hx rfl (hb hby d6_112) rfl ?_
    exact k)
  obtain ⟨cl14, Ar14, q14, S14, M14, H14, G14⟩ := id V2
  have in14 : ¬ ((0 : Int32) < 0 ∨ cl14.slots.size ≤ ((0 : Int32)).toNatClampNeg) := inb_of S14 ⟨by decide, by decide⟩
  have at14 : cl14.slots[((0 : Int32)).toNatClampNeg]? = some (.int u0) := H14.at in14 rfl
  obtain ⟨v15, hv15, pre15⟩ : ∃ z : Int64, z = ((0 : Int64) ||| ((y0.toInt64) <<< (u0 &&& 0x3f).toInt64)) ∧ Go p.tables e below S0 T12 (mkF m 119 #[vR a0, vR a1, vR a2, vI p3, vI (0 : Int32), vJ z, .second, vI (0 : Int32)] []) := ⟨_, rfl, fun t k => pre13 t (by
    refine X12.iaload hx (j := (0 : Int32)) (v := (.int u0)) (by rw [e12]; exact Ar14.1) (State.isArrayOf_alike hZ.alike Ar14.2.1) Ar14.2.2 in14 at14 (g := (mkF m 114 #[vR a0, vR a1, vR a2, vI p3, vI (0 : Int32), vJ (0 : Int64), .second, vI (0 : Int32)] [(.int (0 : Int32)), (.ref as), (.long (y0.toInt64)), (.long (0 : Int64))])) rfl rfl (hb hby d6_114) _ ?_
    refine XS.lshl X12.here hx rfl (hb hby d6_115) rfl ?_
    refine XS.lor X12.here hx rfl (hb hby d6_116) rfl ?_
    show Steps p.tables e below (T12.setTop (mkF m 117 #[vR a0, vR a1, vR a2, vI p3, vI (0 : Int32), vJ (0 : Int64), .second, vI (0 : Int32)] [(.long ((0 : Int64) ||| ((y0.toInt64) <<< (u0 &&& 0x3f).toInt64)))])) _
    refine XS.lstore X12.here hx rfl (hb hby d6_117) rfl (l' := #[vR a0, vR a1, vR a2, vI p3, vI (0 : Int32), vJ ((0 : Int64) ||| ((y0.toInt64) <<< (u0 &&& 0x3f).toInt64)), .second, vI (0 : Int32)]) rfl ?_
    exact k)⟩
  have pre16 : Go p.tables e below S0 T12 (mkF m 65 #[vR a0, vR a1, vR a2, vI p3, vI (0 : Int32), vJ v15, .second, vI (1 : Int32)] [(.ref a1), (.int (1 : Int32))]) := fun t k => pre15 t (by
    refine XS.iinc X12.here hx rfl (hb hby d6_119) rfl (l' := #[vR a0, vR a1, vR a2, vI p3, vI (0 : Int32), vJ v15, .second, vI (1 : Int32)]) rfl ?_
    refine XS.goto X12.here hx rfl (pc0 := 122) (pc' := 62) rfl (hb hby d6_122) (by decide) (by decide) ?_
    refine XS.iload X12.here hx rfl (hb hby d6_62) rfl ?_
    show Steps p.tables e below (T12.setTop (mkF m 64 #[vR a0, vR a1, vR a2, vI p3, vI (0 : Int32), vJ v15, .second, vI (1 : Int32)] [(.int (1 : Int32))])) _
    refine XS.aloadN X12.here hx rfl (hb hby d6_64) rfl rfl ?_
    exact k)
  obtain ⟨cl17, Ar17, q17, S17, M17, H17, G17⟩ := id V3
  have pre18 : Go p.tables e below S0 T12 (mkF m 70 #[vR a0, vR a1, vR a2, vI p3, vI (0 : Int32), vJ v15, .second, vI (1 : Int32)] [(.ref a0)]) := fun t k => pre16 t (by
    refine X12.arraylength hx (by rw [e12]; exact Ar17.1) (State.isArrayOf_alike hZ.alike Ar17.2.1) (g := (mkF m 65 #[vR a0, vR a1, vR a2, vI p3, vI (0 : Int32), vJ v15, .second, vI (1 : Int32)] [(.ref a1), (.int (1 : Int32))])) rfl rfl (hb hby d6_65) _ ?_
    rw [len_of S17 M17]
    refine XS.icmpNo X12.here hx rfl (hb hby d6_66) rfl (tlt (by decide : (1 : Int32) < (5 : Int32))).2.1 ?_
    refine XS.aloadN X12.here hx rfl (hb hby d6_69) rfl rfl ?_
    show Steps p.tables e below (T12.setTop (mkF m 70 #[vR a0, vR a1, vR a2, vI p3, vI (0 : Int32), vJ v15, .second, vI (1 : Int32)] [(.ref a0)])) _
    exact k)
  obtain ⟨T19, X19, e19, st19⟩ := getF X12 hx hZ hown (host := "") (Or.inl (hw _ (List.mem_of_getElem? (i := 22) rfl))) Via.refl e12 Fw (g := (mkF m 70 #[vR a0, vR a1, vR a2, vI p3, vI (0 : Int32), vJ v15, .second, vI (1 : Int32)] [(.ref a0)])) rfl rfl (hb hby d6_70)
  have pre19 : Go p.tables e below S0 T19 (mkF m 73 #[vR a0, vR a1, vR a2, vI p3, vI (0 : Int32), vJ v15, .second, vI (1 : Int32)] [(.ref aw)]) := fun t k => pre18 t (st19 t k)
  have pre20 : Go p.tables e below S0 T19 (mkF m 75 #[vR a0, vR a1, vR a2, vI p3, vI (0 : Int32), vJ v15, .second, vI (1 : Int32)] [(.int (1 : Int32)), (.ref aw)]) := fun t k => pre19 t (by
    refine XS.iload X19.here hx rfl (hb hby d6_73) rfl ?_
    exact k)
  obtain ⟨cl21, Ar21, q21, S21, M21, H21, G21⟩ := id V1
  have in21 : ¬ ((1 : Int32) < 0 ∨ cl21.slots.size ≤ ((1 : Int32)).toNatClampNeg) := inb_of S21 ⟨by decide, by decide⟩
  have at21 : cl21.slots[((1 : Int32)).toNatClampNeg]? = some (.int (0 : Int32)) := H21.at in21 rfl
  have pre22 : Go p.tables e below S0 T19 (mkF m 106 #[vR a0, vR a1, vR a2, vI p3, vI (0 : Int32), vJ v15, .second, vI (1 : Int32)] [(.int (1 : Int32)), (.ref a1), (.long v15)]) := fun t k => pre20 t (by
    refine X19.iaload hx (j := (1 : Int32)) (v := (.int (0 : Int32))) (by rw [e19]; exact Ar21.1) (State.isArrayOf_alike hZ.alike Ar21.2.1) Ar21.2.2 in21 at21 (g := (mkF m 75 #[vR a0, vR a1, vR a2, vI p3, vI (0 : Int32), vJ v15, .second, vI (1 : Int32)] [(.int (1 : Int32)), (.ref aw)])) rfl rfl (hb hby d6_75) _ ?_
    refine XS.iload X19.here hx rfl (hb hby d6_76) rfl ?_
    refine XS.icmpYes X19.here hx rfl (pc0 := 78) (pc' := 101) rfl (hb hby d6_78) rfl (teq (rfl : (0 : Int32) = (0 : Int32))).1 (by decide) (by decide) ?_
    show Steps p.tables e below (T19.setTop (mkF m 101 #[vR a0, vR a1, vR a2, vI p3, vI (0 : Int32), vJ v15, .second, vI (1 : Int32)] [])) _
    refine XS.lload X19.here hx rfl (hb hby d6_101) rfl ?_
    refine XS.aloadN X19.here hx rfl (hb hby d6_103) rfl rfl ?_
    refine XS.iload X19.here hx rfl (hb hby d6_104) rfl ?_
    show Steps p.tables e below (T19.setTop (mkF m 106 #[vR a0, vR a1, vR a2, vI p3, vI (0 : Int32), vJ v15, .second, vI (1 : Int32)] [(.int (1 : Int32)), (.ref a1), (.long v15)])) _
    exact k)
  obtain ⟨cl23, Ar23, q23, S23, M23, H23, G23⟩ := id V3
  have in23 : ¬ ((1 : Int32) < 0 ∨ cl23.slots.size ≤ ((1 : Int32)).toNatClampNeg) := inb_of S23 ⟨by decide, by decide⟩
  have at23 : cl23.slots[((1 : Int32)).toNatClampNeg]? = some (.int y1) := H23.at in23 rfl
  have pre24 : Go p.tables e below S0 T19 (mkF m 109 #[vR a0, vR a1, vR a2, vI p3, vI (0 : Int32), vJ v15, .second, vI (1 : Int32)] [(.ref a0), (.long (y1.toInt64)), (.long v15)]) := fun t k => pre22 t (by
    refine X19.iaload hx (j := (1 : Int32)) (v := (.int y1)) (by rw [e19]; exact Ar23.1) (State.isArrayOf_alike hZ.alike Ar23.2.1) Ar23.2.2 in23 at23 (g := (mkF m 106 #[vR a0, vR a1, vR a2, vI p3, vI (0 : Int32), vJ v15, .second, vI (1 : Int32)] [(.int (1 : Int32)), (.ref a1), (.long v15)])) rfl rfl (hb hby d6_106) _ ?_
    refine XS.i2l X19.here hx rfl (hb hby d6_107) rfl ?_
    refine XS.aloadN X19.here hx rfl (hb hby d6_108) rfl rfl ?_
    show Steps p.tables e below (T19.setTop (mkF m 109 #[vR a0, vR a1, vR a2, vI p3, vI (0 : Int32), vJ v15, .second, vI (1 : Int32)] [(.ref a0), (.long (y1.toInt64)), (.long v15)])) _
    exact k)
  obtain ⟨T25, X25, e25, st25⟩ := getF X19 hx hZ hown (host := "") (Or.inl (hw _ (List.mem_of_getElem? (i := 24) rfl))) Via.refl e19 Fs (g := (mkF m 109 #[vR a0, vR a1, vR a2, vI p3, vI (0 : Int32), vJ v15, .second, vI (1 : Int32)] [(.ref a0), (.long (y1.toInt64)), (.long v15)])) rfl rfl (hb hby d6_109)
  have pre25 : Go p.tables e below S0 T25 (mkF m 112 #[vR a0, vR a1, vR a2, vI p3, vI (0 : Int32), vJ v15, .second, vI (1 : Int32)] [(.ref as), (.long (y1.toInt64)), (.long v15)]) := fun t k => pre24 t (st25 t k)
  have pre26 : Go p.tables e below S0 T25 (mkF m 114 #[vR a0, vR a1, vR a2, vI p3, vI (0 : Int32), vJ v15, .second, vI (1 : Int32)] [(.int (1 : Int32)), (.ref as), (.long (y1.toInt64)), (.long v15)]) := fun t k => pre25 t (by
    refine XS.iload X25.here hx rfl (hb hby d6_112) rfl ?_
    exact k)
  obtain ⟨cl27, Ar27, q27, S27, M27, H27, G27⟩ := id V2
  have in27 : ¬ ((1 : Int32) < 0 ∨ cl27.slots.size ≤ ((1 : Int32)).toNatClampNeg) := inb_of S27 ⟨by decide, by decide⟩
  have at27 : cl27.slots[((1 : Int32)).toNatClampNeg]? = some (.int u1) := H27.at in27 rfl
  obtain ⟨v28, hv28, pre28⟩ : ∃ z : Int64, z = (v15 ||| ((y1.toInt64) <<< (u1 &&& 0x3f).toInt64)) ∧ Go p.tables e below S0 T25 (mkF m 119 #[vR a0, vR a1, vR a2, vI p3, vI (0 : Int32), vJ z, .second, vI (1 : Int32)] []) := ⟨_, rfl, fun t k => pre26 t (by
    refine X25.iaload hx (j := (1 : Int32)) (v := (.int u1)) (by rw [e25]; exact Ar27.1) (State.isArrayOf_alike hZ.alike Ar27.2.1) Ar27.2.2 in27 at27 (g := (mkF m 114 #[vR a0, vR a1, vR a2, vI p3, vI (0 : Int32), vJ v15, .second, vI (1 : Int32)] [(.int (1 : Int32)), (.ref as), (.long (y1.toInt64)), (.long v15)])) rfl rfl (hb hby d6_114) _ ?_
    refine XS.lshl X25.here hx rfl (hb hby d6_115) rfl ?_
    refine XS.lor X25.here hx rfl (hb hby d6_116) rfl ?_
    show Steps p.tables e below (T25.setTop (mkF m 117 #[vR a0, vR a1, vR a2, vI p3, vI (0 : Int32), vJ v15, .second, vI (1 : Int32)] [(.long (v15 ||| ((y1.toInt64) <<< (u1 &&& 0x3f).toInt64)))])) _
    refine XS.lstore X25.here hx rfl (hb hby d6_117) rfl (l' := #[vR a0, vR a1, vR a2, vI p3, vI (0 : Int32), vJ (v15 ||| ((y1.toInt64) <<< (u1 &&& 0x3f).toInt64)), .second, vI (1 : Int32)]) rfl ?_
    exact k)⟩
  have pre29 : Go p.tables e below S0 T25 (mkF m 65 #[vR a0, vR a1, vR a2, vI p3, vI (0 : Int32), vJ v28, .second, vI (2 : Int32)] [(.ref a1), (.int (2 : Int32))]) := fun t k => pre28 t (by
    refine XS.iinc X25.here hx rfl (hb hby d6_119) rfl (l' := #[vR a0, vR a1, vR a2, vI p3, vI (0 : Int32), vJ v28, .second, vI (2 : Int32)]) rfl ?_
    refine XS.goto X25.here hx rfl (pc0 := 122) (pc' := 62) rfl (hb hby d6_122) (by decide) (by decide) ?_
    refine XS.iload X25.here hx rfl (hb hby d6_62) rfl ?_
    show Steps p.tables e below (T25.setTop (mkF m 64 #[vR a0, vR a1, vR a2, vI p3, vI (0 : Int32), vJ v28, .second, vI (2 : Int32)] [(.int (2 : Int32))])) _
    refine XS.aloadN X25.here hx rfl (hb hby d6_64) rfl rfl ?_
    exact k)
  obtain ⟨cl30, Ar30, q30, S30, M30, H30, G30⟩ := id V3
  have pre31 : Go p.tables e below S0 T25 (mkF m 70 #[vR a0, vR a1, vR a2, vI p3, vI (0 : Int32), vJ v28, .second, vI (2 : Int32)] [(.ref a0)]) := fun t k => pre29 t (by
    refine X25.arraylength hx (by rw [e25]; exact Ar30.1) (State.isArrayOf_alike hZ.alike Ar30.2.1) (g := (mkF m 65 #[vR a0, vR a1, vR a2, vI p3, vI (0 : Int32), vJ v28, .second, vI (2 : Int32)] [(.ref a1), (.int (2 : Int32))])) rfl rfl (hb hby d6_65) _ ?_
    rw [len_of S30 M30]
    refine XS.icmpNo X25.here hx rfl (hb hby d6_66) rfl (tlt (by decide : (2 : Int32) < (5 : Int32))).2.1 ?_
    refine XS.aloadN X25.here hx rfl (hb hby d6_69) rfl rfl ?_
    show Steps p.tables e below (T25.setTop (mkF m 70 #[vR a0, vR a1, vR a2, vI p3, vI (0 : Int32), vJ v28, .second, vI (2 : Int32)] [(.ref a0)])) _
    exact k)
  obtain ⟨T32, X32, e32, st32⟩ := getF X25 hx hZ hown (host := "") (Or.inl (hw _ (List.mem_of_getElem? (i := 22) rfl))) Via.refl e25 Fw (g := (mkF m 70 #[vR a0, vR a1, vR a2, vI p3, vI (0 : Int32), vJ v28, .second, vI (2 : Int32)] [(.ref a0)])) rfl rfl (hb hby d6_70)
  have pre32 : Go p.tables e below S0 T32 (mkF m 73 #[vR a0, vR a1, vR a2, vI p3, vI (0 : Int32), vJ v28, .second, vI (2 : Int32)] [(.ref aw)]) := fun t k => pre31 t (st32 t k)
  have pre33 : Go p.tables e below S0 T32 (mkF m 75 #[vR a0, vR a1, vR a2, vI p3, vI (0 : Int32), vJ v28, .second, vI (2 : Int32)] [(.int (2 : Int32)), (.ref aw)]) := fun t k => pre32 t (by
    refine XS.iload X32.here hx rfl (hb hby d6_73) rfl ?_
    exact k)
  obtain ⟨cl34, Ar34, q34, S34, M34, H34, G34⟩ := id V1
  have in34 : ¬ ((2 : Int32) < 0 ∨ cl34.slots.size ≤ ((2 : Int32)).toNatClampNeg) := inb_of S34 ⟨by decide, by decide⟩
  have at34 : cl34.slots[((2 : Int32)).toNatClampNeg]? = some (.int (0 : Int32)) := H34.at in34 rfl
  have pre35 : Go p.tables e below S0 T32 (mkF m 106 #[vR a0, vR a1, vR a2, vI p3, vI (0 : Int32), vJ v28, .second, vI (2 : Int32)] [(.int (2 : Int32)), (.ref a1), (.long v28)]) := fun t k => pre33 t (by
    refine X32.iaload hx (j := (2 : Int32)) (v := (.int (0 : Int32))) (by rw [e32]; exact Ar34.1) (State.isArrayOf_alike hZ.alike Ar34.2.1) Ar34.2.2 in34 at34 (g := (mkF m 75 #[vR a0, vR a1, vR a2, vI p3, vI (0 : Int32), vJ v28, .second, vI (2 : Int32)] [(.int (2 : Int32)), (.ref aw)])) rfl rfl (hb hby d6_75) _ ?_
    refine XS.iload X32.here hx rfl (hb hby d6_76) rfl ?_
    refine XS.icmpYes X32.here hx rfl (pc0 := 78) (pc' := 101) rfl (hb hby d6_78) rfl (teq (rfl : (0 : Int32) = (0 : Int32))).1 (by decide) (by decide) ?_
    show Steps p.tables e below (T32.setTop (mkF m 101 #[vR a0, vR a1, vR a2, vI p3, vI (0 : Int32), vJ v28, .second, vI (2 : Int32)] [])) _
    refine XS.lload X32.here hx rfl (hb hby d6_101) rfl ?_
    refine XS.aloadN X32.here hx rfl (hb hby d6_103) rfl rfl ?_
    refine XS.iload X32.here hx rfl (hb hby d6_104) rfl ?_
    show Steps p.tables e below (T32.setTop (mkF m 106 #[vR a0, vR a1, vR a2, vI p3, vI (0 : Int32), vJ v28, .second, vI (2 : Int32)] [(.int (2 : Int32)), (.ref a1), (.long v28)])) _
    exact k)
  obtain ⟨cl36, Ar36, q36, S36, M36, H36, G36⟩ := id V3
  have in36 : ¬ ((2 : Int32) < 0 ∨ cl36.slots.size ≤ ((2 : Int32)).toNatClampNeg) := inb_of S36 ⟨by decide, by decide⟩
  have at36 : cl36.slots[((2 : Int32)).toNatClampNeg]? = some (.int y2) := H36.at in36 rfl
  have pre37 : Go p.tables e below S0 T32 (mkF m 109 #[vR a0, vR a1, vR a2, vI p3, vI (0 : Int32), vJ v28, .second, vI (2 : Int32)] [(.ref a0), (.long (y2.toInt64)), (.long v28)]) := fun t k => pre35 t (by
    refine X32.iaload hx (j := (2 : Int32)) (v := (.int y2)) (by rw [e32]; exact Ar36.1) (State.isArrayOf_alike hZ.alike Ar36.2.1) Ar36.2.2 in36 at36 (g := (mkF m 106 #[vR a0, vR a1, vR a2, vI p3, vI (0 : Int32), vJ v28, .second, vI (2 : Int32)] [(.int (2 : Int32)), (.ref a1), (.long v28)])) rfl rfl (hb hby d6_106) _ ?_
    refine XS.i2l X32.here hx rfl (hb hby d6_107) rfl ?_
    refine XS.aloadN X32.here hx rfl (hb hby d6_108) rfl rfl ?_
    show Steps p.tables e below (T32.setTop (mkF m 109 #[vR a0, vR a1, vR a2, vI p3, vI (0 : Int32), vJ v28, .second, vI (2 : Int32)] [(.ref a0), (.long (y2.toInt64)), (.long v28)])) _
    exact k)
  obtain ⟨T38, X38, e38, st38⟩ := getF X32 hx hZ hown (host := "") (Or.inl (hw _ (List.mem_of_getElem? (i := 24) rfl))) Via.refl e32 Fs (g := (mkF m 109 #[vR a0, vR a1, vR a2, vI p3, vI (0 : Int32), vJ v28, .second, vI (2 : Int32)] [(.ref a0), (.long (y2.toInt64)), (.long v28)])) rfl rfl (hb hby d6_109)
  have pre38 : Go p.tables e below S0 T38 (mkF m 112 #[vR a0, vR a1, vR a2, vI p3, vI (0 : Int32), vJ v28, .second, vI (2 : Int32)] [(.ref as), (.long (y2.toInt64)), (.long v28)]) := fun t k => pre37 t (st38 t k)
  have pre39 : Go p.tables e below S0 T38 (mkF m 114 #[vR a0, vR a1, vR a2, vI p3, vI (0 : Int32), vJ v28, .second, vI (2 : Int32)] [(.int (2 : Int32)), (.ref as), (.long (y2.toInt64)), (.long v28)]) := fun t k => pre38 t (by
    refine XS.iload X38.here hx rfl (hb hby d6_112) rfl ?_
    exact k)
  obtain ⟨cl40, Ar40, q40, S40, M40, H40, G40⟩ := id V2
  have in40 : ¬ ((2 : Int32) < 0 ∨ cl40.slots.size ≤ ((2 : Int32)).toNatClampNeg) := inb_of S40 ⟨by decide, by decide⟩
  have at40 : cl40.slots[((2 : Int32)).toNatClampNeg]? = some (.int u2) := H40.at in40 rfl
  obtain ⟨v41, hv41, pre41⟩ : ∃ z : Int64, z = (v28 ||| ((y2.toInt64) <<< (u2 &&& 0x3f).toInt64)) ∧ Go p.tables e below S0 T38 (mkF m 119 #[vR a0, vR a1, vR a2, vI p3, vI (0 : Int32), vJ z, .second, vI (2 : Int32)] []) := ⟨_, rfl, fun t k => pre39 t (by
    refine X38.iaload hx (j := (2 : Int32)) (v := (.int u2)) (by rw [e38]; exact Ar40.1) (State.isArrayOf_alike hZ.alike Ar40.2.1) Ar40.2.2 in40 at40 (g := (mkF m 114 #[vR a0, vR a1, vR a2, vI p3, vI (0 : Int32), vJ v28, .second, vI (2 : Int32)] [(.int (2 : Int32)), (.ref as), (.long (y2.toInt64)), (.long v28)])) rfl rfl (hb hby d6_114) _ ?_
    refine XS.lshl X38.here hx rfl (hb hby d6_115) rfl ?_
    refine XS.lor X38.here hx rfl (hb hby d6_116) rfl ?_
    show Steps p.tables e below (T38.setTop (mkF m 117 #[vR a0, vR a1, vR a2, vI p3, vI (0 : Int32), vJ v28, .second, vI (2 : Int32)] [(.long (v28 ||| ((y2.toInt64) <<< (u2 &&& 0x3f).toInt64)))])) _
    refine XS.lstore X38.here hx rfl (hb hby d6_117) rfl (l' := #[vR a0, vR a1, vR a2, vI p3, vI (0 : Int32), vJ (v28 ||| ((y2.toInt64) <<< (u2 &&& 0x3f).toInt64)), .second, vI (2 : Int32)]) rfl ?_
    exact k)⟩
  have pre42 : Go p.tables e below S0 T38 (mkF m 65 #[vR a0, vR a1, vR a2, vI p3, vI (0 : Int32), vJ v41, .second, vI (3 : Int32)] [(.ref a1), (.int (3 : Int32))]) := fun t k => pre41 t (by
    refine XS.iinc X38.here hx rfl (hb hby d6_119) rfl (l' := #[vR a0, vR a1, vR a2, vI p3, vI (0 : Int32), vJ v41, .second, vI (3 : Int32)]) rfl ?_
    refine XS.goto X38.here hx rfl (pc0 := 122) (pc' := 62) rfl (hb hby d6_122) (by decide) (by decide) ?_
    refine XS.iload X38.here hx rfl (hb hby d6_62) rfl ?_
    show Steps p.tables e below (T38.setTop (mkF m 64 #[vR a0, vR a1, vR a2, vI p3, vI (0 : Int32), vJ v41, .second, vI (3 : Int32)] [(.int (3 : Int32))])) _
    refine XS.aloadN X38.here hx rfl (hb hby d6_64) rfl rfl ?_
    exact k)
  obtain ⟨cl43, Ar43, q43, S43, M43, H43, G43⟩ := id V3
  have pre44 : Go p.tables e below S0 T38 (mkF m 70 #[vR a0, vR a1, vR a2, vI p3, vI (0 : Int32), vJ v41, .second, vI (3 : Int32)] [(.ref a0)]) := fun t k => pre42 t (by
    refine X38.arraylength hx (by rw [e38]; exact Ar43.1) (State.isArrayOf_alike hZ.alike Ar43.2.1) (g := (mkF m 65 #[vR a0, vR a1, vR a2, vI p3, vI (0 : Int32), vJ v41, .second, vI (3 : Int32)] [(.ref a1), (.int (3 : Int32))])) rfl rfl (hb hby d6_65) _ ?_
    rw [len_of S43 M43]
    refine XS.icmpNo X38.here hx rfl (hb hby d6_66) rfl (tlt (by decide : (3 : Int32) < (5 : Int32))).2.1 ?_
    refine XS.aloadN X38.here hx rfl (hb hby d6_69) rfl rfl ?_
    show Steps p.tables e below (T38.setTop (mkF m 70 #[vR a0, vR a1, vR a2, vI p3, vI (0 : Int32), vJ v41, .second, vI (3 : Int32)] [(.ref a0)])) _
    exact k)
  obtain ⟨T45, X45, e45, st45⟩ := getF X38 hx hZ hown (host := "") (Or.inl (hw _ (List.mem_of_getElem? (i := 22) rfl))) Via.refl e38 Fw (g := (mkF m 70 #[vR a0, vR a1, vR a2, vI p3, vI (0 : Int32), vJ v41, .second, vI (3 : Int32)] [(.ref a0)])) rfl rfl (hb hby d6_70)
  have pre45 : Go p.tables e below S0 T45 (mkF m 73 #[vR a0, vR a1, vR a2, vI p3, vI (0 : Int32), vJ v41, .second, vI (3 : Int32)] [(.ref aw)]) := fun t k => pre44 t (st45 t k)
  have pre46 : Go p.tables e below S0 T45 (mkF m 75 #[vR a0, vR a1, vR a2, vI p3, vI (0 : Int32), vJ v41, .second, vI (3 : Int32)] [(.int (3 : Int32)), (.ref aw)]) := fun t k => pre45 t (by
    refine XS.iload X45.here hx rfl (hb hby d6_73) rfl ?_
    exact k)
  obtain ⟨cl47, Ar47, q47, S47, M47, H47, G47⟩ := id V1
  have in47 : ¬ ((3 : Int32) < 0 ∨ cl47.slots.size ≤ ((3 : Int32)).toNatClampNeg) := inb_of S47 ⟨by decide, by decide⟩
  have at47 : cl47.slots[((3 : Int32)).toNatClampNeg]? = some (.int (0 : Int32)) := H47.at in47 rfl
  have pre48 : Go p.tables e below S0 T45 (mkF m 106 #[vR a0, vR a1, vR a2, vI p3, vI (0 : Int32), vJ v41, .second, vI (3 : Int32)] [(.int (3 : Int32)), (.ref a1), (.long v41)]) := fun t k => pre46 t (by
    refine X45.iaload hx (j := (3 : Int32)) (v := (.int (0 : Int32))) (by rw [e45]; exact Ar47.1) (State.isArrayOf_alike hZ.alike Ar47.2.1) Ar47.2.2 in47 at47 (g := (mkF m 75 #[vR a0, vR a1, vR a2, vI p3, vI (0 : Int32), vJ v41, .second, vI (3 : Int32)] [(.int (3 : Int32)), (.ref aw)])) rfl rfl (hb hby d6_75) _ ?_
    refine XS.iload X45.here hx rfl (hb hby d6_76) rfl ?_
    refine XS.icmpYes X45.here hx rfl (pc0 := 78) (pc' := 101) rfl (hb hby d6_78) rfl (teq (rfl : (0 : Int32) = (0 : Int32))).1 (by decide) (by decide) ?_
    show Steps p.tables e below (T45.setTop (mkF m 101 #[vR a0, vR a1, vR a2, vI p3, vI (0 : Int32), vJ v41, .second, vI (3 : Int32)] [])) _
    refine XS.lload X45.here hx rfl (hb hby d6_101) rfl ?_
    refine XS.aloadN X45.here hx rfl (hb hby d6_103) rfl rfl ?_
    refine XS.iload X45.here hx rfl (hb hby d6_104) rfl ?_
    show Steps p.tables e below (T45.setTop (mkF m 106 #[vR a0, vR a1, vR a2, vI p3, vI (0 : Int32), vJ v41, .second, vI (3 : Int32)] [(.int (3 : Int32)), (.ref a1), (.long v41)])) _
    exact k)
  obtain ⟨cl49, Ar49, q49, S49, M49, H49, G49⟩ := id V3
  have in49 : ¬ ((3 : Int32) < 0 ∨ cl49.slots.size ≤ ((3 : Int32)).toNatClampNeg) := inb_of S49 ⟨by decide, by decide⟩
  have at49 : cl49.slots[((3 : Int32)).toNatClampNeg]? = some (.int y3) := H49.at in49 rfl
  have pre50 : Go p.tables e below S0 T45 (mkF m 109 #[vR a0, vR a1, vR a2, vI p3, vI (0 : Int32), vJ v41, .second, vI (3 : Int32)] [(.ref a0), (.long (y3.toInt64)), (.long v41)]) := fun t k => pre48 t (by
    refine X45.iaload hx (j := (3 : Int32)) (v := (.int y3)) (by rw [e45]; exact Ar49.1) (State.isArrayOf_alike hZ.alike Ar49.2.1) Ar49.2.2 in49 at49 (g := (mkF m 106 #[vR a0, vR a1, vR a2, vI p3, vI (0 : Int32), vJ v41, .second, vI (3 : Int32)] [(.int (3 : Int32)), (.ref a1), (.long v41)])) rfl rfl (hb hby d6_106) _ ?_
    refine XS.i2l X45.here hx rfl (hb hby d6_107) rfl ?_
    refine XS.aloadN X45.here hx rfl (hb hby d6_108) rfl rfl ?_
    show Steps p.tables e below (T45.setTop (mkF m 109 #[vR a0, vR a1, vR a2, vI p3, vI (0 : Int32), vJ v41, .second, vI (3 : Int32)] [(.ref a0), (.long (y3.toInt64)), (.long v41)])) _
    exact k)
  obtain ⟨T51, X51, e51, st51⟩ := getF X45 hx hZ hown (host := "") (Or.inl (hw _ (List.mem_of_getElem? (i := 24) rfl))) Via.refl e45 Fs (g := (mkF m 109 #[vR a0, vR a1, vR a2, vI p3, vI (0 : Int32), vJ v41, .second, vI (3 : Int32)] [(.ref a0), (.long (y3.toInt64)), (.long v41)])) rfl rfl (hb hby d6_109)
  have pre51 : Go p.tables e below S0 T51 (mkF m 112 #[vR a0, vR a1, vR a2, vI p3, vI (0 : Int32), vJ v41, .second, vI (3 : Int32)] [(.ref as), (.long (y3.toInt64)), (.long v41)]) := fun t k => pre50 t (st51 t k)
  have pre52 : Go p.tables e below S0 T51 (mkF m 114 #[vR a0, vR a1, vR a2, vI p3, vI (0 : Int32), vJ v41, .second, vI (3 : Int32)] [(.int (3 : Int32)), (.ref as), (.long (y3.toInt64)), (.long v41)]) := fun t k => pre51 t (by
    refine XS.iload X51.here hx rfl (hb hby d6_112) rfl ?_
    exact k)
  obtain ⟨cl53, Ar53, q53, S53, M53, H53, G53⟩ := id V2
  have in53 : ¬ ((3 : Int32) < 0 ∨ cl53.slots.size ≤ ((3 : Int32)).toNatClampNeg) := inb_of S53 ⟨by decide, by decide⟩
  have at53 : cl53.slots[((3 : Int32)).toNatClampNeg]? = some (.int u3) := H53.at in53 rfl
  obtain ⟨v54, hv54, pre54⟩ : ∃ z : Int64, z = (v41 ||| ((y3.toInt64) <<< (u3 &&& 0x3f).toInt64)) ∧ Go p.tables e below S0 T51 (mkF m 119 #[vR a0, vR a1, vR a2, vI p3, vI (0 : Int32), vJ z, .second, vI (3 : Int32)] []) := ⟨_, rfl, fun t k => pre52 t (by
    refine X51.iaload hx (j := (3 : Int32)) (v := (.int u3)) (by rw [e51]; exact Ar53.1) (State.isArrayOf_alike hZ.alike Ar53.2.1) Ar53.2.2 in53 at53 (g := (mkF m 114 #[vR a0, vR a1, vR a2, vI p3, vI (0 : Int32), vJ v41, .second, vI (3 : Int32)] [(.int (3 : Int32)), (.ref as), (.long (y3.toInt64)), (.long v41)])) rfl rfl (hb hby d6_114) _ ?_
    refine XS.lshl X51.here hx rfl (hb hby d6_115) rfl ?_
    refine XS.lor X51.here hx rfl (hb hby d6_116) rfl ?_
    show Steps p.tables e below (T51.setTop (mkF m 117 #[vR a0, vR a1, vR a2, vI p3, vI (0 : Int32), vJ v41, .second, vI (3 : Int32)] [(.long (v41 ||| ((y3.toInt64) <<< (u3 &&& 0x3f).toInt64)))])) _
    refine XS.lstore X51.here hx rfl (hb hby d6_117) rfl (l' := #[vR a0, vR a1, vR a2, vI p3, vI (0 : Int32), vJ (v41 ||| ((y3.toInt64) <<< (u3 &&& 0x3f).toInt64)), .second, vI (3 : Int32)]) rfl ?_
    exact k)⟩
  have pre55 : Go p.tables e below S0 T51 (mkF m 65 #[vR a0, vR a1, vR a2, vI p3, vI (0 : Int32), vJ v54, .second, vI (4 : Int32)] [(.ref a1), (.int (4 : Int32))]) := fun t k => pre54 t (by
    refine XS.iinc X51.here hx rfl (hb hby d6_119) rfl (l' := #[vR a0, vR a1, vR a2, vI p3, vI (0 : Int32), vJ v54, .second, vI (4 : Int32)]) rfl ?_
    refine XS.goto X51.here hx rfl (pc0 := 122) (pc' := 62) rfl (hb hby d6_122) (by decide) (by decide) ?_
    refine XS.iload X51.here hx rfl (hb hby d6_62) rfl ?_
    show Steps p.tables e below (T51.setTop (mkF m 64 #[vR a0, vR a1, vR a2, vI p3, vI (0 : Int32), vJ v54, .second, vI (4 : Int32)] [(.int (4 : Int32))])) _
    refine XS.aloadN X51.here hx rfl (hb hby d6_64) rfl rfl ?_
    exact k)
  obtain ⟨cl56, Ar56, q56, S56, M56, H56, G56⟩ := id V3
  have pre57 : Go p.tables e below S0 T51 (mkF m 70 #[vR a0, vR a1, vR a2, vI p3, vI (0 : Int32), vJ v54, .second, vI (4 : Int32)] [(.ref a0)]) := fun t k => pre55 t (by
    refine X51.arraylength hx (by rw [e51]; exact Ar56.1) (State.isArrayOf_alike hZ.alike Ar56.2.1) (g := (mkF m 65 #[vR a0, vR a1, vR a2, vI p3, vI (0 : Int32), vJ v54, .second, vI (4 : Int32)] [(.ref a1), (.int (4 : Int32))])) rfl rfl (hb hby d6_65) _ ?_
    rw [len_of S56 M56]
    refine XS.icmpNo X51.here hx rfl (hb hby d6_66) rfl (tlt (by decide : (4 : Int32) < (5 : Int32))).2.1 ?_
    refine XS.aloadN X51.here hx rfl (hb hby d6_69) rfl rfl ?_
    show Steps p.tables e below (T51.setTop (mkF m 70 #[vR a0, vR a1, vR a2, vI p3, vI (0 : Int32), vJ v54, .second, vI (4 : Int32)] [(.ref a0)])) _
    exact k)
  obtain ⟨T58, X58, e58, st58⟩ := getF X51 hx hZ hown (host := "") (Or.inl (hw _ (List.mem_of_getElem? (i := 22) rfl))) Via.refl e51 Fw (g := (mkF m 70 #[vR a0, vR a1, vR a2, vI p3, vI (0 : Int32), vJ v54, .second, vI (4 : Int32)] [(.ref a0)])) rfl rfl (hb hby d6_70)
  have pre58 : Go p.tables e below S0 T58 (mkF m 73 #[vR a0, vR a1, vR a2, vI p3, vI (0 : Int32), vJ v54, .second, vI (4 : Int32)] [(.ref aw)]) := fun t k => pre57 t (st58 t k)
  have pre59 : Go p.tables e below S0 T58 (mkF m 75 #[vR a0, vR a1, vR a2, vI p3, vI (0 : Int32), vJ v54, .second, vI (4 : Int32)] [(.int (4 : Int32)), (.ref aw)]) := fun t k => pre58 t (by
    refine XS.iload X58.here hx rfl (hb hby d6_73) rfl ?_
    exact k)
  obtain ⟨cl60, Ar60, q60, S60, M60, H60, G60⟩ := id V1
  have in60 : ¬ ((4 : Int32) < 0 ∨ cl60.slots.size ≤ ((4 : Int32)).toNatClampNeg) := inb_of S60 ⟨by decide, by decide⟩
  have at60 : cl60.slots[((4 : Int32)).toNatClampNeg]? = some (.int (1 : Int32)) := H60.at in60 rfl
  have pre61 : Go p.tables e below S0 T58 (mkF m 88 #[vR a0, vR a1, vR a2, vI p3, vI (0 : Int32), vJ v54, .second, vI (4 : Int32)] [(.long v54), (.int (p3 + (0 : Int32))), (.ref a2)]) := fun t k => pre59 t (by
    refine X58.iaload hx (j := (4 : Int32)) (v := (.int (1 : Int32))) (by rw [e58]; exact Ar60.1) (State.isArrayOf_alike hZ.alike Ar60.2.1) Ar60.2.2 in60 at60 (g := (mkF m 75 #[vR a0, vR a1, vR a2, vI p3, vI (0 : Int32), vJ v54, .second, vI (4 : Int32)] [(.int (4 : Int32)), (.ref aw)])) rfl rfl (hb hby d6_75) _ ?_
    refine XS.iload X58.here hx rfl (hb hby d6_76) rfl ?_
    refine XS.icmpNo X58.here hx rfl (hb hby d6_78) rfl (feq (by decide : ¬ ((1 : Int32) = (0 : Int32)))).1 ?_
    show Steps p.tables e below (T58.setTop (mkF m 81 #[vR a0, vR a1, vR a2, vI p3, vI (0 : Int32), vJ v54, .second, vI (4 : Int32)] [])) _
    refine XS.aloadN X58.here hx rfl (hb hby d6_81) rfl rfl ?_
    refine XS.iloadN X58.here hx rfl (hb hby d6_82) rfl ?_
    refine XS.iload X58.here hx rfl (hb hby d6_83) rfl ?_
    show Steps p.tables e below (T58.setTop (mkF m 85 #[vR a0, vR a1, vR a2, vI p3, vI (0 : Int32), vJ v54, .second, vI (4 : Int32)] [(.int (0 : Int32)), (.int p3), (.ref a2)])) _
    refine XS.iadd X58.here hx rfl (hb hby d6_85) rfl ?_
    refine XS.lload X58.here hx rfl (hb hby d6_86) rfl ?_
    exact k)
  obtain ⟨cl62, Ar62, q62, S62, M62, H62, G62⟩ := id V4
  have in62 : ¬ ((p3 + (0 : Int32)) < 0 ∨ cl62.slots.size ≤ ((p3 + (0 : Int32))).toNatClampNeg) := inb_of S62 hin0
  obtain ⟨T62, h62, X62, e62, W62, st62⟩ := stJ X58 hx hZ e58 Ar62 (j := (p3 + (0 : Int32))) in62 (g := (mkF m 88 #[vR a0, vR a1, vR a2, vI p3, vI (0 : Int32), vJ v54, .second, vI (4 : Int32)] [(.long v54), (.int (p3 + (0 : Int32))), (.ref a2)])) rfl rfl (hb hby d6_88)
  have pre62 : Go p.tables e below S0 T62 (mkF m 89 #[vR a0, vR a1, vR a2, vI p3, vI (0 : Int32), vJ v54, .second, vI (4 : Int32)] []) := fun t k => pre61 t (st62 t k)
  obtain ⟨lo62, N62, X62⟩ : ∃ lo, Fr n0 lo ∧ Stand p l e ({ frames := 0, cells := 0, slots := 0, locals := 0 } : Room) s m #[(.ref a0), (.ref a1), (.ref a2), (.int p3)] below meth c T62 lo 0 0 := ⟨_, Fr.snoc X62 N0 g0, X62⟩
  have av62 : Arv Z h62 a2 k2 .long (6 : Int32) [(.long (own_putL (p3 + (0 : Int32)) (0 : Int32) v54 x0)), (.long (own_putL (p3 + (0 : Int32)) (1 : Int32) v54 x1)), (.long (own_putL (p3 + (0 : Int32)) (2 : Int32) v54 x2)), (.long (own_putL (p3 + (0 : Int32)) (3 : Int32) v54 x3)), (.long (own_putL (p3 + (0 : Int32)) (4 : Int32) v54 x4)), (.long (own_putL (p3 + (0 : Int32)) (5 : Int32) v54 x5))] (.long (0 : Int64)) := by
    have q := Arv.set Ar62 q62 S62 M62 H62 G62 rfl W62 _ rfl (own_setJ6 (w := 0) (x0 := 0) (x1 := 0) (x2 := 0) (x3 := 0) (x4 := 0) (x5 := 0) hin0).1
    rw [(own_setJ6 hin0).2] at q
    exact q
  have f63_1 := Fld.other W62 Fn (Or.inl xe0)
  have f63_2 := Fld.other W62 Fw (Or.inl xe0)
  have f63_3 := Fld.other W62 Fs (Or.inl xe0)
  have f63_4 := V1.other W62 xe1
  have f63_5 := V2.other W62 xe2
  have f63_6 := V3.other W62 xe3
  have zz64 : n0 ≤ h62.size := Nat.le_trans Z0 (Keep.of_wr W62).1
  have kp65 : Keep h0 h62 [a2] := kp0.wr W62 (Or.inl (List.mem_of_getElem? (i := 0) rfl))
  have pre66 : Go p.tables e below S0 T62 (mkF m 90 #[vR a0, vR a1, vR a2, vI p3, vI (0 : Int32), vJ v54, .second, vI (4 : Int32)] [(.ref a0)]) := fun t k => pre62 t (by
    refine XS.aloadN X62.here hx rfl (hb hby d6_89) rfl rfl ?_
    exact k)
  obtain ⟨T67, X67, e67, st67⟩ := getF X62 hx hZ hown (host := "") (Or.inl (hw _ (List.mem_of_getElem? (i := 22) rfl))) Via.refl e62 f63_2 (g := (mkF m 90 #[vR a0, vR a1, vR a2, vI p3, vI (0 : Int32), vJ v54, .second, vI (4 : Int32)] [(.ref a0)])) rfl rfl (hb hby d6_90)
  have pre67 : Go p.tables e below S0 T67 (mkF m 93 #[vR a0, vR a1, vR a2, vI p3, vI (0 : Int32), vJ v54, .second, vI (4 : Int32)] [(.ref aw)]) := fun t k => pre66 t (st67 t k)
  have pre68 : Go p.tables e below S0 T67 (mkF m 95 #[vR a0, vR a1, vR a2, vI p3, vI (0 : Int32), vJ v54, .second, vI (4 : Int32)] [(.int (4 : Int32)), (.ref aw)]) := fun t k => pre67 t (by
    refine XS.iload X67.here hx rfl (hb hby d6_93) rfl ?_
    exact k)
  obtain ⟨cl69, Ar69, q69, S69, M69, H69, G69⟩ := id f63_4
  have in69 : ¬ ((4 : Int32) < 0 ∨ cl69.slots.size ≤ ((4 : Int32)).toNatClampNeg) := inb_of S69 ⟨by decide, by decide⟩
  have at69 : cl69.slots[((4 : Int32)).toNatClampNeg]? = some (.int (1 : Int32)) := H69.at in69 rfl
  have pre70 : Go p.tables e below S0 T67 (mkF m 106 #[vR a0, vR a1, vR a2, vI p3, vI (1 : Int32), vJ (0 : Int64), .second, vI (4 : Int32)] [(.int (4 : Int32)), (.ref a1), (.long (0 : Int64))]) := fun t k => pre68 t (by
    refine X67.iaload hx (j := (4 : Int32)) (v := (.int (1 : Int32))) (by rw [e67]; exact Ar69.1) (State.isArrayOf_alike hZ.alike Ar69.2.1) Ar69.2.2 in69 at69 (g := (mkF m 95 #[vR a0, vR a1, vR a2, vI p3, vI (0 : Int32), vJ v54, .second, vI (4 : Int32)] [(.int (4 : Int32)), (.ref aw)])) rfl rfl (hb hby d6_95) _ ?_
    refine XS.istore X67.here hx rfl (hb hby d6_96) rfl (l' := #[vR a0, vR a1, vR a2, vI p3, vI (1 : Int32), vJ v54, .second, vI (4 : Int32)]) rfl ?_
    refine XS.lconst X67.here hx rfl (hb hby d6_98) ?_
    show Steps p.tables e below (T67.setTop (mkF m 99 #[vR a0, vR a1, vR a2, vI p3, vI (1 : Int32), vJ v54, .second, vI (4 : Int32)] [(.long (0 : Int64))])) _
    refine XS.lstore X67.here hx rfl (hb hby d6_99) rfl (l' := #[vR a0, vR a1, vR a2, vI p3, vI (1 : Int32), vJ (0 : Int64), .second, vI (4 : Int32)]) rfl ?_
    refine XS.lload X67.here hx rfl (hb hby d6_101) rfl ?_
    refine XS.aloadN X67.here hx rfl (hb hby d6_103) rfl rfl ?_
    show Steps p.tables e below (T67.setTop (mkF m 104 #[vR a0, vR a1, vR a2, vI p3, vI (1 : Int32), vJ (0 : Int64), .second, vI (4 : Int32)] [(.ref a1), (.long (0 : Int64))])) _
    refine XS.iload X67.here hx rfl (hb hby d6_104) rfl ?_
    exact k)
  obtain ⟨cl71, Ar71, q71, S71, M71, H71, G71⟩ := id f63_6
  have in71 : ¬ ((4 : Int32) < 0 ∨ cl71.slots.size ≤ ((4 : Int32)).toNatClampNeg) := inb_of S71 ⟨by decide, by decide⟩
  have at71 : cl71.slots[((4 : Int32)).toNatClampNeg]? = some (.int y4) := H71.at in71 rfl
  have pre72 : Go p.tables e below S0 T67 (mkF m 109 #[vR a0, vR a1, vR a2, vI p3, vI (1 : Int32), vJ (0 : Int64), .second, vI (4 : Int32)] [(.ref a0), (.long (y4.toInt64)), (.long (0 : Int64))]) := fun t k => pre70 t (by
    refine X67.iaload hx (j := (4 : Int32)) (v := (.int y4)) (by rw [e67]; exact Ar71.1) (State.isArrayOf_alike hZ.alike Ar71.2.1) Ar71.2.2 in71 at71 (g := (mkF m 106 #[vR a0, vR a1, vR a2, vI p3, vI (1 : Int32), vJ (0 : Int64), .second, vI (4 : Int32)] [(.int (4 : Int32)), (.ref a1), (.long (0 : Int64))])) rfl rfl (hb hby d6_106) _ ?_
    refine XS.i2l X67.here hx rfl (hb hby d6_107) rfl ?_
    refine XS.aloadN X67.here hx rfl (hb hby d6_108) rfl rfl ?_
    show Steps p.tables e below (T67.setTop (mkF m 109 #[vR a0, vR a1, vR a2, vI p3, vI (1 : Int32), vJ (0 : Int64), .second, vI (4 : Int32)] [(.ref a0), (.long (y4.toInt64)), (.long (0 : Int64))])) _
    exact k)
  obtain ⟨T73, X73, e73, st73⟩ := getF X67 hx hZ hown (host := "") (Or.inl (hw _ (List.mem_of_getElem? (i := 24) rfl))) Via.refl e67 f63_3 (g := (mkF m 109 #[vR a0, vR a1, vR a2, vI p3, vI (1 : Int32), vJ (0 : Int64), .second, vI (4 : Int32)] [(.ref a0), (.long (y4.toInt64)), (.long (0 : Int64))])) rfl rfl (hb hby d6_109)
  have pre73 : Go p.tables e below S0 T73 (mkF m 112 #[vR a0, vR a1, vR a2, vI p3, vI (1 : Int32), vJ (0 : Int64), .second, vI (4 : Int32)] [(.ref as), (.long (y4.toInt64)), (.long (0 : Int64))]) := fun t k => pre72 t (st73 t k)
  have pre74 : Go p.tables e below S0 T73 (mkF m 114 #[vR a0, vR a1, vR a2, vI p3, vI (1 : Int32), vJ (0 : Int64), .second, vI (4 : Int32)] [(.int (4 : Int32)), (.ref as), (.long (y4.toInt64)), (.long (0 : Int64))]) := fun t k => pre73 t (by
    refine XS.iload X73.here hx rfl (hb hby d6_112) rfl ?_
    exact k)
  obtain ⟨cl75, Ar75, q75, S75, M75, H75, G75⟩ := id f63_5
  have in75 : ¬ ((4 : Int32) < 0 ∨ cl75.slots.size ≤ ((4 : Int32)).toNatClampNeg) := inb_of S75 ⟨by decide, by decide⟩
  have at75 : cl75.slots[((4 : Int32)).toNatClampNeg]? = some (.int u4) := H75.at in75 rfl
  obtain ⟨v76, hv76, pre76⟩ : ∃ z : Int64, z = ((0 : Int64) ||| ((y4.toInt64) <<< (u4 &&& 0x3f).toInt64)) ∧ Go p.tables e below S0 T73 (mkF m 119 #[vR a0, vR a1, vR a2, vI p3, vI (1 : Int32), vJ z, .second, vI (4 : Int32)] []) := ⟨_, rfl, fun t k => pre74 t (by
    refine X73.iaload hx (j := (4 : Int32)) (v := (.int u4)) (by rw [e73]; exact Ar75.1) (State.isArrayOf_alike hZ.alike Ar75.2.1) Ar75.2.2 in75 at75 (g := (mkF m 114 #[vR a0, vR a1, vR a2, vI p3, vI (1 : Int32), vJ (0 : Int64), .second, vI (4 : Int32)] [(.int (4 : Int32)), (.ref as), (.long (y4.toInt64)), (.long (0 : Int64))])) rfl rfl (hb hby d6_114) _ ?_
    refine XS.lshl X73.here hx rfl (hb hby d6_115) rfl ?_
    refine XS.lor X73.here hx rfl (hb hby d6_116) rfl ?_
    show Steps p.tables e below (T73.setTop (mkF m 117 #[vR a0, vR a1, vR a2, vI p3, vI (1 : Int32), vJ (0 : Int64), .second, vI (4 : Int32)] [(.long ((0 : Int64) ||| ((y4.toInt64) <<< (u4 &&& 0x3f).toInt64)))])) _
    refine XS.lstore X73.here hx rfl (hb hby d6_117) rfl (l' := #[vR a0, vR a1, vR a2, vI p3, vI (1 : Int32), vJ ((0 : Int64) ||| ((y4.toInt64) <<< (u4 &&& 0x3f).toInt64)), .second, vI (4 : Int32)]) rfl ?_
    exact k)⟩
  have pre77 : Go p.tables e below S0 T73 (mkF m 65 #[vR a0, vR a1, vR a2, vI p3, vI (1 : Int32), vJ v76, .second, vI (5 : Int32)] [(.ref a1), (.int (5 : Int32))]) := fun t k => pre76 t (by
    refine XS.iinc X73.here hx rfl (hb hby d6_119) rfl (l' := #[vR a0, vR a1, vR a2, vI p3, vI (1 : Int32), vJ v76, .second, vI (5 : Int32)]) rfl ?_
    refine XS.goto X73.here hx rfl (pc0 := 122) (pc' := 62) rfl (hb hby d6_122) (by decide) (by decide) ?_
    refine XS.iload X73.here hx rfl (hb hby d6_62) rfl ?_
    show Steps p.tables e below (T73.setTop (mkF m 64 #[vR a0, vR a1, vR a2, vI p3, vI (1 : Int32), vJ v76, .second, vI (5 : Int32)] [(.int (5 : Int32))])) _
    refine XS.aloadN X73.here hx rfl (hb hby d6_64) rfl rfl ?_
    exact k)
  obtain ⟨cl78, Ar78, q78, S78, M78, H78, G78⟩ := id f63_6
  have pre79 : Go p.tables e below S0 T73 (mkF m 132 #[vR a0, vR a1, vR a2, vI p3, vI (1 : Int32), vJ v76, .second, vI (5 : Int32)] [(.long v76), (.int (p3 + (1 : Int32))), (.ref a2)]) := fun t k => pre77 t (by
    refine X73.arraylength hx (by rw [e73]; exact Ar78.1) (State.isArrayOf_alike hZ.alike Ar78.2.1) (g := (mkF m 65 #[vR a0, vR a1, vR a2, vI p3, vI (1 : Int32), vJ v76, .second, vI (5 : Int32)] [(.ref a1), (.int (5 : Int32))])) rfl rfl (hb hby d6_65) _ ?_
    rw [len_of S78 M78]
    refine XS.icmpYes X73.here hx rfl (pc0 := 66) (pc' := 125) rfl (hb hby d6_66) rfl (flt (by decide : ¬ ((5 : Int32) < (5 : Int32)))).2.1 (by decide) (by decide) ?_
    refine XS.aloadN X73.here hx rfl (hb hby d6_125) rfl rfl ?_
    show Steps p.tables e below (T73.setTop (mkF m 126 #[vR a0, vR a1, vR a2, vI p3, vI (1 : Int32), vJ v76, .second, vI (5 : Int32)] [(.ref a2)])) _
    refine XS.iloadN X73.here hx rfl (hb hby d6_126) rfl ?_
    refine XS.iload X73.here hx rfl (hb hby d6_127) rfl ?_
    refine XS.iadd X73.here hx rfl (hb hby d6_129) rfl ?_
    show Steps p.tables e below (T73.setTop (mkF m 130 #[vR a0, vR a1, vR a2, vI p3, vI (1 : Int32), vJ v76, .second, vI (5 : Int32)] [(.int (p3 + (1 : Int32))), (.ref a2)])) _
    refine XS.lload X73.here hx rfl (hb hby d6_130) rfl ?_
    exact k)
  obtain ⟨cl80, Ar80, q80, S80, M80, H80, G80⟩ := id av62
  have in80 : ¬ ((p3 + (1 : Int32)) < 0 ∨ cl80.slots.size ≤ ((p3 + (1 : Int32))).toNatClampNeg) := inb_of S80 hin1
  obtain ⟨T80, h80, X80, e80, W80, st80⟩ := stJ X73 hx hZ e73 Ar80 (j := (p3 + (1 : Int32))) in80 (g := (mkF m 132 #[vR a0, vR a1, vR a2, vI p3, vI (1 : Int32), vJ v76, .second, vI (5 : Int32)] [(.long v76), (.int (p3 + (1 : Int32))), (.ref a2)])) rfl rfl (hb hby d6_132)
  have pre80 : Go p.tables e below S0 T80 (mkF m 133 #[vR a0, vR a1, vR a2, vI p3, vI (1 : Int32), vJ v76, .second, vI (5 : Int32)] []) := fun t k => pre79 t (st80 t k)
  obtain ⟨lo80, N80, X80⟩ : ∃ lo, Fr n0 lo ∧ Stand p l e ({ frames := 0, cells := 0, slots := 0, locals := 0 } : Room) s m #[(.ref a0), (.ref a1), (.ref a2), (.int p3)] below meth c T80 lo 0 0 := ⟨_, Fr.snoc X80 N62 g0, X80⟩
  have av80 : Arv Z h80 a2 k2 .long (6 : Int32) [(.long (own_putL (p3 + (1 : Int32)) (0 : Int32) v76 (own_putL (p3 + (0 : Int32)) (0 : Int32) v54 x0))), (.long (own_putL (p3 + (1 : Int32)) (1 : Int32) v76 (own_putL (p3 + (0 : Int32)) (1 : Int32) v54 x1))), (.long (own_putL (p3 + (1 : Int32)) (2 : Int32) v76 (own_putL (p3 + (0 : Int32)) (2 : Int32) v54 x2))), (.long (own_putL (p3 + (1 : Int32)) (3 : Int32) v76 (own_putL (p3 + (0 : Int32)) (3 : Int32) v54 x3))), (.long (own_putL (p3 + (1 : Int32)) (4 : Int32) v76 (own_putL (p3 + (0 : Int32)) (4 : Int32) v54 x4))), (.long (own_putL (p3 + (1 : Int32)) (5 : Int32) v76 (own_putL (p3 + (0 : Int32)) (5 : Int32) v54 x5)))] (.long (0 : Int64)) := by
    have q := Arv.set Ar80 q80 S80 M80 H80 G80 rfl W80 _ rfl (own_setJ6 (w := 0) (x0 := 0) (x1 := 0) (x2 := 0) (x3 := 0) (x4 := 0) (x5 := 0) hin1).1
    rw [(own_setJ6 hin1).2] at q
    exact q
  have f81_1 := Fld.other W80 f63_1 (Or.inl xe0)
  have f81_2 := Fld.other W80 f63_2 (Or.inl xe0)
  have f81_3 := Fld.other W80 f63_3 (Or.inl xe0)
  have f81_4 := f63_4.other W80 xe1
  have f81_5 := f63_5.other W80 xe2
  have f81_6 := f63_6.other W80 xe3
  have zz82 : n0 ≤ h80.size := Nat.le_trans zz64 (Keep.of_wr W80).1
  have kp83 : Keep h0 h80 [a2] := kp65.wr W80 (Or.inl (List.mem_of_getElem? (i := 0) rfl))
  obtain ⟨fs, hr, hrun, hended, hW, hsame⟩ := X80.leave (v := none) (fun _ => rfl)
  exact ⟨_, _, pre80.fin hS0 (X80.returnOut hx Bd.returns (hb hby d6_133) hr), hrun, hended, _, _, rfl, (by
    show Q6_00001 Z a0 a1 a2 p3 aw as kw ks k1 k2 u0 u1 u2 u3 u4 y0 y1 y2 y3 y4 x0 x1 x2 x3 x4 x5 h0 n0 _ T80.heap _
    rw [e80]
    subst hv76 hv54 hv41 hv28 hv15
    exact ⟨rfl, N80, _, _, _, _, _, _, ⟨rfl, rfl, rfl, rfl, rfl, rfl⟩, kp83, av80⟩), ⟨_, rfl⟩, hW, hsame.mono (by decide) (by decide)⟩
theorem ef_6_00011 (m : MethodId) (x0 : Addr) (x1 : Addr) (x2 : Addr) (x3 : Int32) : entryFrame m #[(.ref x0), (.ref x1), (.ref x2), (.int x3)] 8 = mkF m 0 #[.val (.ref x0), .val (.ref x1), .val (.ref x2), .val (.int x3), .unset, .unset, .unset, .unset] [] := by first | (simp [entryFrame, mkF, argsToLocals, Value.category]; done) | rfl
def Q6_00011 (Z : State) (a0 a1 a2 : Addr) (p3 : Int32) (aw as : Addr) (kw ks k1 k2 : ClassId) (u0 u1 u2 u3 u4 y0 y1 y2 y3 y4 : Int32) (x0 x1 x2 x3 x4 x5 : Int64) (h0 : Heap) (n0 : Nat) (v : Option Value) (h : Heap) (L : List Loc) : Prop := v = none ∧ Fr n0 L ∧ ∃ (z0 z1 z2 z3 z4 z5 : Int64), (z0 = (own_putL (p3 + (1 : Int32)) (0 : Int32) (((0 : Int64) ||| ((y3.toInt64) <<< (u3 &&& 0x3f).toInt64)) ||| ((y4.toInt64) <<< (u4 &&& 0x3f).toInt64)) (own_putL (p3 + (0 : Int32)) (0 : Int32) ((((0 : Int64) ||| ((y0.toInt64) <<< (u0 &&& 0x3f).toInt64)) ||| ((y1.toInt64) <<< (u1 &&& 0x3f).toInt64)) ||| ((y2.toInt64) <<< (u2 &&& 0x3f).toInt64)) x0)) ∧ z1 = (own_putL (p3 + (1 : Int32)) (1 : Int32) (((0 : Int64) ||| ((y3.toInt64) <<< (u3 &&& 0x3f).toInt64)) ||| ((y4.toInt64) <<< (u4 &&& 0x3f).toInt64)) (own_putL (p3 + (0 : Int32)) (1 : Int32) ((((0 : Int64) ||| ((y0.toInt64) <<< (u0 &&& 0x3f).toInt64)) ||| ((y1.toInt64) <<< (u1 &&& 0x3f).toInt64)) ||| ((y2.toInt64) <<< (u2 &&& 0x3f).toInt64)) x1)) ∧ z2 = (own_putL (p3 + (1 : Int32)) (2 : Int32) (((0 : Int64) ||| ((y3.toInt64) <<< (u3 &&& 0x3f).toInt64)) ||| ((y4.toInt64) <<< (u4 &&& 0x3f).toInt64)) (own_putL (p3 + (0 : Int32)) (2 : Int32) ((((0 : Int64) ||| ((y0.toInt64) <<< (u0 &&& 0x3f).toInt64)) ||| ((y1.toInt64) <<< (u1 &&& 0x3f).toInt64)) ||| ((y2.toInt64) <<< (u2 &&& 0x3f).toInt64)) x2)) ∧ z3 = (own_putL (p3 + (1 : Int32)) (3 : Int32) (((0 : Int64) ||| ((y3.toInt64) <<< (u3 &&& 0x3f).toInt64)) ||| ((y4.toInt64) <<< (u4 &&& 0x3f).toInt64)) (own_putL (p3 + (0 : Int32)) (3 : Int32) ((((0 : Int64) ||| ((y0.toInt64) <<< (u0 &&& 0x3f).toInt64)) ||| ((y1.toInt64) <<< (u1 &&& 0x3f).toInt64)) ||| ((y2.toInt64) <<< (u2 &&& 0x3f).toInt64)) x3)) ∧ z4 = (own_putL (p3 + (1 : Int32)) (4 : Int32) (((0 : Int64) ||| ((y3.toInt64) <<< (u3 &&& 0x3f).toInt64)) ||| ((y4.toInt64) <<< (u4 &&& 0x3f).toInt64)) (own_putL (p3 + (0 : Int32)) (4 : Int32) ((((0 : Int64) ||| ((y0.toInt64) <<< (u0 &&& 0x3f).toInt64)) ||| ((y1.toInt64) <<< (u1 &&& 0x3f).toInt64)) ||| ((y2.toInt64) <<< (u2 &&& 0x3f).toInt64)) x4)) ∧ z5 = (own_putL (p3 + (1 : Int32)) (5 : Int32) (((0 : Int64) ||| ((y3.toInt64) <<< (u3 &&& 0x3f).toInt64)) ||| ((y4.toInt64) <<< (u4 &&& 0x3f).toInt64)) (own_putL (p3 + (0 : Int32)) (5 : Int32) ((((0 : Int64) ||| ((y0.toInt64) <<< (u0 &&& 0x3f).toInt64)) ||| ((y1.toInt64) <<< (u1 &&& 0x3f).toInt64)) ||| ((y2.toInt64) <<< (u2 &&& 0x3f).toInt64)) x5))) ∧ Keep h0 h [a2] ∧ (Arv Z h a2 k2 .long (6 : Int32) [(.long z0), (.long z1), (.long z2), (.long z3), (.long z4), (.long z5)] (.long (0 : Int64)))
set_option maxRecDepth 65536 in
set_option maxHeartbeats 40000000 in
theorem rm6_00011 (l : Launch) (Z : State) (A0 : Array Value) (hw : ∀ d ∈ tables_1, d.before A0 Z = true) (ws : List Jvm.Cond) (a0 : Addr) (a1 : Addr) (a2 : Addr) (p3 : Int32) (aw as : Addr) (kw ks k1 k2 : ClassId) (u0 u1 u2 u3 u4 y0 y1 y2 y3 y4 : Int32) (x0 x1 x2 x3 x4 x5 : Int64) (h0 : Heap) (n0 : Nat) (Z0 : n0 ≤ h0.size) (Fn : Fld Z h0 a0 "com/example/garantia/garantia/engine/StateLayout" "words" "I" (.int (2 : Int32))) (Fw : Fld Z h0 a0 "com/example/garantia/garantia/engine/StateLayout" "word" "[I" (.ref aw)) (Fs : Fld Z h0 a0 "com/example/garantia/garantia/engine/StateLayout" "shift" "[I" (.ref as)) (V1 : Arv Z h0 aw kw .int (5 : Int32) [(.int (0 : Int32)), (.int (0 : Int32)), (.int (0 : Int32)), (.int (1 : Int32)), (.int (1 : Int32))] (.int (0 : Int32))) (V2 : Arv Z h0 as ks .int (5 : Int32) [(.int u0), (.int u1), (.int u2), (.int u3), (.int u4)] (.int (0 : Int32))) (V3 : Arv Z h0 a1 k1 .int (5 : Int32) [(.int y0), (.int y1), (.int y2), (.int y3), (.int y4)] (.int (0 : Int32))) (V4 : Arv Z h0 a2 k2 .long (6 : Int32) [(.long x0), (.long x1), (.long x2), (.long x3), (.long x4), (.long x5)] (.long (0 : Int64))) (xe0 : a0 ≠ a2) (xe1 : aw ≠ a2) (xe2 : as ≠ a2) (xe3 : a1 ≠ a2) (g0 : n0 ≤ a2) (hin0 : ¬ (p3 + (0 : Int32)) < 0 ∧ (p3 + (0 : Int32)) < (6 : Int32)) (hin1 : ¬ (p3 + (1 : Int32)) < 0 ∧ (p3 + (1 : Int32)) < (6 : Int32)) :
    MetFree l (⟨"com/example/garantia/garantia/engine/StateLayout", "pack", "([I[JI)V"⟩ : MethodName) (head1 (Jvm.Cond.code (⟨"com/example/garantia/garantia/engine/StateLayout", "pack", "([I[JI)V"⟩ : MethodName) prog_46_method_4_code 8 none :: ws) ({ frames := 0, cells := 0, slots := 0, locals := 0 } : Room)) (fun a U => a = #[(.ref a0), (.ref a1), (.ref a2), (.int p3)] ∧ Z.Warmed39 U.vm ∧ U.heap = h0) (fun _ _ _ _ _ => True) (fun _ U o U' => ∃ v L, o = .returned v ∧ Q6_00011 Z a0 a1 a2 p3 aw as kw ks k1 k2 u0 u1 u2 u3 u4 y0 y1 y2 y3 y4 x0 x1 x2 x3 x4 x5 h0 n0 v U'.heap L ∧ FrameEnd U o U' L ({ frames := 0, cells := 0, slots := 0, locals := 0 } : Room).cells ({ frames := 0, cells := 0, slots := 0, locals := 0 } : Room).slots) := by
  refine MetFree.of_bodySF (plainFor_of_name pn_1) hisR ?_
  intro p e s m args below meth c s₁ Bd hml0 hP hK
  obtain ⟨rfl, hZ, hh⟩ := hP
  have hx := Bd.exec
  have hby := Bd.bytes
  have hml : c.maxLocals = 8 := hml0
  have hown : s.vm.findClass "com/example/garantia/garantia/engine/StateLayout" = some m.cls := findClass_of_methodNamed Bd.named
  have hnm := (name_of_methodNamed Bd.named Bd.method).1
  have X0 : Stand p l e ({ frames := 0, cells := 0, slots := 0, locals := 0 } : Room) s m #[(.ref a0), (.ref a1), (.ref a2), (.int p3)] below meth c s₁ [] 0 0 := Stand.of_body Bd
  have e0 : s₁.heap = h0 := by rw [← hh, Bd.state]; rfl
  have N0 := Fr.nil n0
  have kp0 : Keep h0 h0 [a2] := Keep.refl _ _
  obtain ⟨S0, hS0⟩ : ∃ z, z = s₁.setTop (entryFrame m #[(.ref a0), (.ref a1), (.ref a2), (.int p3)] 8) := ⟨_, rfl⟩
  have pre0 : Go p.tables e below S0 s₁ (mkF m 0 #[vR a0, vR a1, vR a2, vI p3, .unset, .unset, .unset, .unset] []) := fun t k => by rw [hS0]; exact castTop (ef_6_00011 m a0 a1 a2 p3) k
  have pre1 : Go p.tables e below S0 s₁ (mkF m 1 #[vR a0, vR a1, vR a2, vI p3, .unset, .unset, .unset, .unset] [(.ref a0)]) := fun t k => pre0 t (by
    refine XS.aloadN X0.here hx rfl (hb hby d6_0) rfl rfl ?_
    exact k)
  obtain ⟨T2, X2, e2, st2⟩ := getF X0 hx hZ hown (host := "") (Or.inl (hw _ (List.mem_of_getElem? (i := 31) rfl))) Via.refl e0 Fn (g := (mkF m 1 #[vR a0, vR a1, vR a2, vI p3, .unset, .unset, .unset, .unset] [(.ref a0)])) rfl rfl (hb hby d6_1)
  have pre2 : Go p.tables e below S0 T2 (mkF m 4 #[vR a0, vR a1, vR a2, vI p3, .unset, .unset, .unset, .unset] [(.int (2 : Int32))]) := fun t k => pre1 t (st2 t k)
  have pre3 : Go p.tables e below S0 T2 (mkF m 65 #[vR a0, vR a1, vR a2, vI p3, vI (0 : Int32), vJ (0 : Int64), .second, vI (0 : Int32)] [(.ref a1), (.int (0 : Int32))]) := fun t k => pre2 t (by
    refine XS.iconst X2.here hx rfl (hb hby d6_4) ?_
    refine XS.icmpYes X2.here hx rfl (pc0 := 5) (pc' := 53) rfl (hb hby d6_5) rfl (feq (by decide : ¬ ((2 : Int32) = (1 : Int32)))).2 (by decide) (by decide) ?_
    refine XS.iconst X2.here hx rfl (hb hby d6_53) ?_
    show Steps p.tables e below (T2.setTop (mkF m 54 #[vR a0, vR a1, vR a2, vI p3, .unset, .unset, .unset, .unset] [(.int (0 : Int32))])) _
    refine XS.istore X2.here hx rfl (hb hby d6_54) rfl (l' := #[vR a0, vR a1, vR a2, vI p3, vI (0 : Int32), .unset, .unset, .unset]) rfl ?_
    refine XS.lconst X2.here hx rfl (hb hby d6_56) ?_
    refine XS.lstore X2.here hx rfl (hb hby d6_57) rfl (l' := #[vR a0, vR a1, vR a2, vI p3, vI (0 : Int32), vJ (0 : Int64), .second, .unset]) rfl ?_
    show Steps p.tables e below (T2.setTop (mkF m 59 #[vR a0, vR a1, vR a2, vI p3, vI (0 : Int32), vJ (0 : Int64), .second, .unset] [])) _
    refine XS.iconst X2.here hx rfl (hb hby d6_59) ?_
    refine XS.istore X2.here hx rfl (hb hby d6_60) rfl (l' := #[vR a0, vR a1, vR a2, vI p3, vI (0 : Int32), vJ (0 : Int64), .second, vI (0 : Int32)]) rfl ?_
    refine XS.iload X2.here hx rfl (hb hby d6_62) rfl ?_
    show Steps p.tables e below (T2.setTop (mkF m 64 #[vR a0, vR a1, vR a2, vI p3, vI (0 : Int32), vJ (0 : Int64), .second, vI (0 : Int32)] [(.int (0 : Int32))])) _
    refine XS.aloadN X2.here hx rfl (hb hby d6_64) rfl rfl ?_
    exact k)
  obtain ⟨cl4, Ar4, q4, S4, M4, H4, G4⟩ := id V3
  have pre5 : Go p.tables e below S0 T2 (mkF m 70 #[vR a0, vR a1, vR a2, vI p3, vI (0 : Int32), vJ (0 : Int64), .second, vI (0 : Int32)] [(.ref a0)]) := fun t k => pre3 t (by
    refine X2.arraylength hx (by rw [e2]; exact Ar4.1) (State.isArrayOf_alike hZ.alike Ar4.2.1) (g := (mkF m 65 #[vR a0, vR a1, vR a2, vI p3, vI (0 : Int32), vJ (0 : Int64), .second, vI (0 : Int32)] [(.ref a1), (.int (0 : Int32))])) rfl rfl (hb hby d6_65) _ ?_
    rw [len_of S4 M4]
    refine XS.icmpNo X2.here hx rfl (hb hby d6_66) rfl (tlt (by decide : (0 : Int32) < (5 : Int32))).2.1 ?_
    refine XS.aloadN X2.here hx rfl (hb hby d6_69) rfl rfl ?_
    show Steps p.tables e below (T2.setTop (mkF m 70 #[vR a0, vR a1, vR a2, vI p3, vI (0 : Int32), vJ (0 : Int64), .second, vI (0 : Int32)] [(.ref a0)])) _
    exact k)
  obtain ⟨T6, X6, e6, st6⟩ := getF X2 hx hZ hown (host := "") (Or.inl (hw _ (List.mem_of_getElem? (i := 22) rfl))) Via.refl e2 Fw (g := (mkF m 70 #[vR a0, vR a1, vR a2, vI p3, vI (0 : Int32), vJ (0 : Int64), .second, vI (0 : Int32)] [(.ref a0)])) rfl rfl (hb hby d6_70)
  have pre6 : Go p.tables e below S0 T6 (mkF m 73 #[vR a0, vR a1, vR a2, vI p3, vI (0 : Int32), vJ (0 : Int64), .second, vI (0 : Int32)] [(.ref aw)]) := fun t k => pre5 t (st6 t k)
  have pre7 : Go p.tables e below S0 T6 (mkF m 75 #[vR a0, vR a1, vR a2, vI p3, vI (0 : Int32), vJ (0 : Int64), .second, vI (0 : Int32)] [(.int (0 : Int32)), (.ref aw)]) := fun t k => pre6 t (by
    refine XS.iload X6.here hx rfl (hb hby d6_73) rfl ?_
    exact k)
  obtain ⟨cl8, Ar8, q8, S8, M8, H8, G8⟩ := id V1
  have in8 : ¬ ((0 : Int32) < 0 ∨ cl8.slots.size ≤ ((0 : Int32)).toNatClampNeg) := inb_of S8 ⟨by decide, by decide⟩
  have at8 : cl8.slots[((0 : Int32)).toNatClampNeg]? = some (.int (0 : Int32)) := H8.at in8 rfl
  have pre9 : Go p.tables e below S0 T6 (mkF m 106 #[vR a0, vR a1, vR a2, vI p3, vI (0 : Int32), vJ (0 : Int64), .second, vI (0 : Int32)] [(.int (0 : Int32)), (.ref a1), (.long (0 : Int64))]) := fun t k => pre7 t (by
    refine X6.iaload hx (j := (0 : Int32)) (v := (.int (0 : Int32))) (by rw [e6]; exact Ar8.1) (State.isArrayOf_alike hZ.alike Ar8.2.1) Ar8.2.2 in8 at8 (g := (mkF m 75 #[vR a0, vR a1, vR a2, vI p3, vI (0 : Int32), vJ (0 : Int64), .second, vI (0 : Int32)] [(.int (0 : Int32)), (.ref aw)])) rfl rfl (hb hby d6_75) _ ?_
    refine XS.iload X6.here hx rfl (hb hby d6_76) rfl ?_
    refine XS.icmpYes X6.here hx rfl (pc0 := 78) (pc' := 101) rfl (hb hby d6_78) rfl (teq (rfl : (0 : Int32) = (0 : Int32))).1 (by decide) (by decide) ?_
    show Steps p.tables e below (T6.setTop (mkF m 101 #[vR a0, vR a1, vR a2, vI p3, vI (0 : Int32), vJ (0 : Int64), .second, vI (0 : Int32)] [])) _
    refine XS.lload X6.here hx rfl (hb hby d6_101) rfl ?_
    refine XS.aloadN X6.here hx rfl (hb hby d6_103) rfl rfl ?_
    refine XS.iload X6.here hx rfl (hb hby d6_104) rfl ?_
    show Steps p.tables e below (T6.setTop (mkF m 106 #[vR a0, vR a1, vR a2, vI p3, vI (0 : Int32), vJ (0 : Int64), .second, vI (0 : Int32)] [(.int (0 : Int32)), (.ref a1), (.long (0 : Int64))])) _
    exact k)
  obtain ⟨cl10, Ar10, q10, S10, M10, H10, G10⟩ := id V3
  have in10 : ¬ ((0 : Int32) < 0 ∨ cl10.slots.size ≤ ((0 : Int32)).toNatClampNeg) := inb_of S10 ⟨by decide, by decide⟩
  have at10 : cl10.slots[((0 : Int32)).toNatClampNeg]? = some (.int y0) := H10.at in10 rfl
  have pre11 : Go p.tables e below S0 T6 (mkF m 109 #[vR a0, vR a1, vR a2, vI p3, vI (0 : Int32), vJ (0 : Int64), .second, vI (0 : Int32)] [(.ref a0), (.long (y0.toInt64)), (.long (0 : Int64))]) := fun t k => pre9 t (by
    refine X6.iaload hx (j := (0 : Int32)) (v := (.int y0)) (by rw [e6]; exact Ar10.1) (State.isArrayOf_alike hZ.alike Ar10.2.1) Ar10.2.2 in10 at10 (g := (mkF m 106 #[vR a0, vR a1, vR a2, vI p3, vI (0 : Int32), vJ (0 : Int64), .second, vI (0 : Int32)] [(.int (0 : Int32)), (.ref a1), (.long (0 : Int64))])) rfl rfl (hb hby d6_106) _ ?_
    refine XS.i2l X6.here hx rfl (hb hby d6_107) rfl ?_
    refine XS.aloadN X6.here hx rfl (hb hby d6_108) rfl rfl ?_
    show Steps p.tables e below (T6.setTop (mkF m 109 #[vR a0, vR a1, vR a2, vI p3, vI (0 : Int32), vJ (0 : Int64), .second, vI (0 : Int32)] [(.ref a0), (.long (y0.toInt64)), (.long (0 : Int64))])) _
    exact k)
  obtain ⟨T12, X12, e12, st12⟩ := getF X6 hx hZ hown (host := "") (Or.inl (hw _ (List.mem_of_getElem? (i := 24) rfl))) Via.refl e6 Fs (g := (mkF m 109 #[vR a0, vR a1, vR a2, vI p3, vI (0 : Int32), vJ (0 : Int64), .second, vI (0 : Int32)] [(.ref a0), (.long (y0.toInt64)), (.long (0 : Int64))])) rfl rfl (hb hby d6_109)
  have pre12 : Go p.tables e below S0 T12 (mkF m 112 #[vR a0, vR a1, vR a2, vI p3, vI (0 : Int32), vJ (0 : Int64), .second, vI (0 : Int32)] [(.ref as), (.long (y0.toInt64)), (.long (0 : Int64))]) := fun t k => pre11 t (st12 t k)
  have pre13 : Go p.tables e below S0 T12 (mkF m 114 #[vR a0, vR a1, vR a2, vI p3, vI (0 : Int32), vJ (0 : Int64), .second, vI (0 : Int32)] [(.int (0 : Int32)), (.ref as), (.long (y0.toInt64)), (.long (0 : Int64))]) := fun t k => pre12 t (by
    refine XS.iload X12.here hx rfl (hb hby d6_112) rfl ?_
    exact k)
  obtain ⟨cl14, Ar14, q14, S14, M14, H14, G14⟩ := id V2
  have in14 : ¬ ((0 : Int32) < 0 ∨ cl14.slots.size ≤ ((0 : Int32)).toNatClampNeg) := inb_of S14 ⟨by decide, by decide⟩
  have at14 : cl14.slots[((0 : Int32)).toNatClampNeg]? = some (.int u0) := H14.at in14 rfl
  obtain ⟨v15, hv15, pre15⟩ : ∃ z : Int64, z = ((0 : Int64) ||| ((y0.toInt64) <<< (u0 &&& 0x3f).toInt64)) ∧ Go p.tables e below S0 T12 (mkF m 119 #[vR a0, vR a1, vR a2, vI p3, vI (0 : Int32), vJ z, .second, vI (0 : Int32)] []) := ⟨_, rfl, fun t k => pre13 t (by
    refine X12.iaload hx (j := (0 : Int32)) (v := (.int u0)) (by rw [e12]; exact Ar14.1) (State.isArrayOf_alike hZ.alike Ar14.2.1) Ar14.2.2 in14 at14 (g := (mkF m 114 #[vR a0, vR a1, vR a2, vI p3, vI (0 : Int32), vJ (0 : Int64), .second, vI (0 : Int32)] [(.int (0 : Int32)), (.ref as), (.long (y0.toInt64)), (.long (0 : Int64))])) rfl rfl (hb hby d6_114) _ ?_
    refine XS.lshl X12.here hx rfl (hb hby d6_115) rfl ?_
    refine XS.lor X12.here hx rfl (hb hby d6_116) rfl ?_
    show Steps p.tables e below (T12.setTop (mkF m 117 #[vR a0, vR a1, vR a2, vI p3, vI (0 : Int32), vJ (0 : Int64), .second, vI (0 : Int32)] [(.long ((0 : Int64) ||| ((y0.toInt64) <<< (u0 &&& 0x3f).toInt64)))])) _
    refine XS.lstore X12.here hx rfl (hb hby d6_117) rfl (l' := #[vR a0, vR a1, vR a2, vI p3, vI (0 : Int32), vJ ((0 : Int64) ||| ((y0.toInt64) <<< (u0 &&& 0x3f).toInt64)), .second, vI (0 : Int32)]) rfl ?_
    exact k)⟩
  have pre16 : Go p.tables e below S0 T12 (mkF m 65 #[vR a0, vR a1, vR a2, vI p3, vI (0 : Int32), vJ v15, .second, vI (1 : Int32)] [(.ref a1), (.int (1 : Int32))]) := fun t k => pre15 t (by
    refine XS.iinc X12.here hx rfl (hb hby d6_119) rfl (l' := #[vR a0, vR a1, vR a2, vI p3, vI (0 : Int32), vJ v15, .second, vI (1 : Int32)]) rfl ?_
    refine XS.goto X12.here hx rfl (pc0 := 122) (pc' := 62) rfl (hb hby d6_122) (by decide) (by decide) ?_
    refine XS.iload X12.here hx rfl (hb hby d6_62) rfl ?_
    show Steps p.tables e below (T12.setTop (mkF m 64 #[vR a0, vR a1, vR a2, vI p3, vI (0 : Int32), vJ v15, .second, vI (1 : Int32)] [(.int (1 : Int32))])) _
    refine XS.aloadN X12.here hx rfl (hb hby d6_64) rfl rfl ?_
    exact k)
  obtain ⟨cl17, Ar17, q17, S17, M17, H17, G17⟩ := id V3
  have pre18 : Go p.tables e below S0 T12 (mkF m 70 #[vR a0, vR a1, vR a2, vI p3, vI (0 : Int32), vJ v15, .second, vI (1 : Int32)] [(.ref a0)]) := fun t k => pre16 t (by
    refine X12.arraylength hx (by rw [e12]; exact Ar17.1) (State.isArrayOf_alike hZ.alike Ar17.2.1) (g := (mkF m 65 #[vR a0, vR a1, vR a2, vI p3, vI (0 : Int32), vJ v15, .second, vI (1 : Int32)] [(.ref a1), (.int (1 : Int32))])) rfl rfl (hb hby d6_65) _ ?_
    rw [len_of S17 M17]
    refine XS.icmpNo X12.here hx rfl (hb hby d6_66) rfl (tlt (by decide : (1 : Int32) < (5 : Int32))).2.1 ?_
    refine XS.aloadN X12.here hx rfl (hb hby d6_69) rfl rfl ?_
    show Steps p.tables e below (T12.setTop (mkF m 70 #[vR a0, vR a1, vR a2, vI p3, vI (0 : Int32), vJ v15, .second, vI (1 : Int32)] [(.ref a0)])) _
    exact k)
  obtain ⟨T19, X19, e19, st19⟩ := getF X12 hx hZ hown (host := "") (Or.inl (hw _ (List.mem_of_getElem? (i := 22) rfl))) Via.refl e12 Fw (g := (mkF m 70 #[vR a0, vR a1, vR a2, vI p3, vI (0 : Int32), vJ v15, .second, vI (1 : Int32)] [(.ref a0)])) rfl rfl (hb hby d6_70)
  have pre19 : Go p.tables e below S0 T19 (mkF m 73 #[vR a0, vR a1, vR a2, vI p3, vI (0 : Int32), vJ v15, .second, vI (1 : Int32)] [(.ref aw)]) := fun t k => pre18 t (st19 t k)
  have pre20 : Go p.tables e below S0 T19 (mkF m 75 #[vR a0, vR a1, vR a2, vI p3, vI (0 : Int32), vJ v15, .second, vI (1 : Int32)] [(.int (1 : Int32)), (.ref aw)]) := fun t k => pre19 t (by
    refine XS.iload X19.here hx rfl (hb hby d6_73) rfl ?_
    exact k)
  obtain ⟨cl21, Ar21, q21, S21, M21, H21, G21⟩ := id V1
  have in21 : ¬ ((1 : Int32) < 0 ∨ cl21.slots.size ≤ ((1 : Int32)).toNatClampNeg) := inb_of S21 ⟨by decide, by decide⟩
  have at21 : cl21.slots[((1 : Int32)).toNatClampNeg]? = some (.int (0 : Int32)) := H21.at in21 rfl
  have pre22 : Go p.tables e below S0 T19 (mkF m 106 #[vR a0, vR a1, vR a2, vI p3, vI (0 : Int32), vJ v15, .second, vI (1 : Int32)] [(.int (1 : Int32)), (.ref a1), (.long v15)]) := fun t k => pre20 t (by
    refine X19.iaload hx (j := (1 : Int32)) (v := (.int (0 : Int32))) (by rw [e19]; exact Ar21.1) (State.isArrayOf_alike hZ.alike Ar21.2.1) Ar21.2.2 in21 at21 (g := (mkF m 75 #[vR a0, vR a1, vR a2, vI p3, vI (0 : Int32), vJ v15, .second, vI (1 : Int32)] [(.int (1 : Int32)), (.ref aw)])) rfl rfl (hb hby d6_75) _ ?_
    refine XS.iload X19.here hx rfl (hb hby d6_76) rfl ?_
    refine XS.icmpYes X19.here hx rfl (pc0 := 78) (pc' := 101) rfl (hb hby d6_78) rfl (teq (rfl : (0 : Int32) = (0 : Int32))).1 (by decide) (by decide) ?_
    show Steps p.tables e below (T19.setTop (mkF m 101 #[vR a0, vR a1, vR a2, vI p3, vI (0 : Int32), vJ v15, .second, vI (1 : Int32)] [])) _
    refine XS.lload X19.here hx rfl (hb hby d6_101) rfl ?_
    refine XS.aloadN X19.here hx rfl (hb hby d6_103) rfl rfl ?_
    refine XS.iload X19.here hx rfl (hb hby d6_104) rfl ?_
    show Steps p.tables e below (T19.setTop (mkF m 106 #[vR a0, vR a1, vR a2, vI p3, vI (0 : Int32), vJ v15, .second, vI (1 : Int32)] [(.int (1 : Int32)), (.ref a1), (.long v15)])) _
    exact k)
  obtain ⟨cl23, Ar23, q23, S23, M23, H23, G23⟩ := id V3
  have in23 : ¬ ((1 : Int32) < 0 ∨ cl23.slots.size ≤ ((1 : Int32)).toNatClampNeg) := inb_of S23 ⟨by decide, by decide⟩
  have at23 : cl23.slots[((1 : Int32)).toNatClampNeg]? = some (.int y1) := H23.at in23 rfl
  have pre24 : Go p.tables e below S0 T19 (mkF m 109 #[vR a0, vR a1, vR a2, vI p3, vI (0 : Int32), vJ v15, .second, vI (1 : Int32)] [(.ref a0), (.long (y1.toInt64)), (.long v15)]) := fun t k => pre22 t (by
    refine X19.iaload hx (j := (1 : Int32)) (v := (.int y1)) (by rw [e19]; exact Ar23.1) (State.isArrayOf_alike hZ.alike Ar23.2.1) Ar23.2.2 in23 at23 (g := (mkF m 106 #[vR a0, vR a1, vR a2, vI p3, vI (0 : Int32), vJ v15, .second, vI (1 : Int32)] [(.int (1 : Int32)), (.ref a1), (.long v15)])) rfl rfl (hb hby d6_106) _ ?_
    refine XS.i2l X19.here hx rfl (hb hby d6_107) rfl ?_
    refine XS.aloadN X19.here hx rfl (hb hby d6_108) rfl rfl ?_
    show Steps p.tables e below (T19.setTop (mkF m 109 #[vR a0, vR a1, vR a2, vI p3, vI (0 : Int32), vJ v15, .second, vI (1 : Int32)] [(.ref a0), (.long (y1.toInt64)), (.long v15)])) _
    exact k)
  obtain ⟨T25, X25, e25, st25⟩ := getF X19 hx hZ hown (host := "") (Or.inl (hw _ (List.mem_of_getElem? (i := 24) rfl))) Via.refl e19 Fs (g := (mkF m 109 #[vR a0, vR a1, vR a2, vI p3, vI (0 : Int32), vJ v15, .second, vI (1 : Int32)] [(.ref a0), (.long (y1.toInt64)), (.long v15)])) rfl rfl (hb hby d6_109)
  have pre25 : Go p.tables e below S0 T25 (mkF m 112 #[vR a0, vR a1, vR a2, vI p3, vI (0 : Int32), vJ v15, .second, vI (1 : Int32)] [(.ref as), (.long (y1.toInt64)), (.long v15)]) := fun t k => pre24 t (st25 t k)
  have pre26 : Go p.tables e below S0 T25 (mkF m 114 #[vR a0, vR a1, vR a2, vI p3, vI (0 : Int32), vJ v15, .second, vI (1 : Int32)] [(.int (1 : Int32)), (.ref as), (.long (y1.toInt64)), (.long v15)]) := fun t k => pre25 t (by
    refine XS.iload X25.here hx rfl (hb hby d6_112) rfl ?_
    exact k)
  obtain ⟨cl27, Ar27, q27, S27, M27, H27, G27⟩ := id V2
  have in27 : ¬ ((1 : Int32) < 0 ∨ cl27.slots.size ≤ ((1 : Int32)).toNatClampNeg) := inb_of S27 ⟨by decide, by decide⟩
  have at27 : cl27.slots[((1 : Int32)).toNatClampNeg]? = some (.int u1) := H27.at in27 rfl
  obtain ⟨v28, hv28, pre28⟩ : ∃ z : Int64, z = (v15 ||| ((y1.toInt64) <<< (u1 &&& 0x3f).toInt64)) ∧ Go p.tables e below S0 T25 (mkF m 119 #[vR a0, vR a1, vR a2, vI p3, vI (0 : Int32), vJ z, .second, vI (1 : Int32)] []) := ⟨_, rfl, fun t k => pre26 t (by
    refine X25.iaload hx (j := (1 : Int32)) (v := (.int u1)) (by rw [e25]; exact Ar27.1) (State.isArrayOf_alike hZ.alike Ar27.2.1) Ar27.2.2 in27 at27 (g := (mkF m 114 #[vR a0, vR a1, vR a2, vI p3, vI (0 : Int32), vJ v15, .second, vI (1 : Int32)] [(.int (1 : Int32)), (.ref as), (.long (y1.toInt64)), (.long v15)])) rfl rfl (hb hby d6_114) _ ?_
    refine XS.lshl X25.here hx rfl (hb hby d6_115) rfl ?_
    refine XS.lor X25.here hx rfl (hb hby d6_116) rfl ?_
    show Steps p.tables e below (T25.setTop (mkF m 117 #[vR a0, vR a1, vR a2, vI p3, vI (0 : Int32), vJ v15, .second, vI (1 : Int32)] [(.long (v15 ||| ((y1.toInt64) <<< (u1 &&& 0x3f).toInt64)))])) _
    refine XS.lstore X25.here hx rfl (hb hby d6_117) rfl (l' := #[vR a0, vR a1, vR a2, vI p3, vI (0 : Int32), vJ (v15 ||| ((y1.toInt64) <<< (u1 &&& 0x3f).toInt64)), .second, vI (1 : Int32)]) rfl ?_
    exact k)⟩
  have pre29 : Go p.tables e below S0 T25 (mkF m 65 #[vR a0, vR a1, vR a2, vI p3, vI (0 : Int32), vJ v28, .second, vI (2 : Int32)] [(.ref a1), (.int (2 : Int32))]) := fun t k => pre28 t (by
    refine XS.iinc X25.here hx rfl (hb hby d6_119) rfl (l' := #[vR a0, vR a1, vR a2, vI p3, vI (0 : Int32), vJ v28, .second, vI (2 : Int32)]) rfl ?_
    refine XS.goto X25.here hx rfl (pc0 := 122) (pc' := 62) rfl (hb hby d6_122) (by decide) (by decide) ?_
    refine XS.iload X25.here hx rfl (hb hby d6_62) rfl ?_
    show Steps p.tables e below (T25.setTop (mkF m 64 #[vR a0, vR a1, vR a2, vI p3, vI (0 : Int32), vJ v28, .second, vI (2 : Int32)] [(.int (2 : Int32))])) _
    refine XS.aloadN X25.here hx rfl (hb hby d6_64) rfl rfl ?_
    exact k)
  obtain ⟨cl30, Ar30, q30, S30, M30, H30, G30⟩ := id V3
  have pre31 : Go p.tables e below S0 T25 (mkF m 70 #[vR a0, vR a1, vR a2, vI p3, vI (0 : Int32), vJ v28, .second, vI (2 : Int32)] [(.ref a0)]) := fun t k => pre29 t (by
    refine X25.arraylength hx (by rw [e25]; exact Ar30.1) (State.isArrayOf_alike hZ.alike Ar30.2.1) (g := (mkF m 65 #[vR a0, vR a1, vR a2, vI p3, vI (0 : Int32), vJ v28, .second, vI (2 : Int32)] [(.ref a1), (.int (2 : Int32))])) rfl rfl (hb hby d6_65) _ ?_
    rw [len_of S30 M30]
    refine XS.icmpNo X25.here hx rfl (hb hby d6_66) rfl (tlt (by decide : (2 : Int32) < (5 : Int32))).2.1 ?_
    refine XS.aloadN X25.here hx rfl (hb hby d6_69) rfl rfl ?_
    show Steps p.tables e below (T25.setTop (mkF m 70 #[vR a0, vR a1, vR a2, vI p3, vI (0 : Int32), vJ v28, .second, vI (2 : Int32)] [(.ref a0)])) _
    exact k)
  obtain ⟨T32, X32, e32, st32⟩ := getF X25 hx hZ hown (host := "") (Or.inl (hw _ (List.mem_of_getElem? (i := 22) rfl))) Via.refl e25 Fw (g := (mkF m 70 #[vR a0, vR a1, vR a2, vI p3, vI (0 : Int32), vJ v28, .second, vI (2 : Int32)] [(.ref a0)])) rfl rfl (hb hby d6_70)
  have pre32 : Go p.tables e below S0 T32 (mkF m 73 #[vR a0, vR a1, vR a2, vI p3, vI (0 : Int32), vJ v28, .second, vI (2 : Int32)] [(.ref aw)]) := fun t k => pre31 t (st32 t k)
  have pre33 : Go p.tables e below S0 T32 (mkF m 75 #[vR a0, vR a1, vR a2, vI p3, vI (0 : Int32), vJ v28, .second, vI (2 : Int32)] [(.int (2 : Int32)), (.ref aw)]) := fun t k => pre32 t (by
    refine XS.iload X32.here hx rfl (hb hby d6_73) rfl ?_
    exact k)
  obtain ⟨cl34, Ar34, q34, S34, M34, H34, G34⟩ := id V1
  have in34 : ¬ ((2 : Int32) < 0 ∨ cl34.slots.size ≤ ((2 : Int32)).toNatClampNeg) := inb_of S34 ⟨by decide, by decide⟩
  have at34 : cl34.slots[((2 : Int32)).toNatClampNeg]? = some (.int (0 : Int32)) := H34.at in34 rfl
  have pre35 : Go p.tables e below S0 T32 (mkF m 106 #[vR a0, vR a1, vR a2, vI p3, vI (0 : Int32), vJ v28, .second, vI (2 : Int32)] [(.int (2 : Int32)), (.ref a1), (.long v28)]) := fun t k => pre33 t (by
    refine X32.iaload hx (j := (2 : Int32)) (v := (.int (0 : Int32))) (by rw [e32]; exact Ar34.1) (State.isArrayOf_alike hZ.alike Ar34.2.1) Ar34.2.2 in34 at34 (g := (mkF m 75 #[vR a0, vR a1, vR a2, vI p3, vI (0 : Int32), vJ v28, .second, vI (2 : Int32)] [(.int (2 : Int32)), (.ref aw)])) rfl rfl (hb hby d6_75) _ ?_
    refine XS.iload X32.here hx rfl (hb hby d6_76) rfl ?_
    refine XS.icmpYes X32.here hx rfl (pc0 := 78) (pc' := 101) rfl (hb hby d6_78) rfl (teq (rfl : (0 : Int32) = (0 : Int32))).1 (by decide) (by decide) ?_
    show Steps p.tables e below (T32.setTop (mkF m 101 #[vR a0, vR a1, vR a2, vI p3, vI (0 : Int32), vJ v28, .second, vI (2 : Int32)] [])) _
    refine XS.lload X32.here hx rfl (hb hby d6_101) rfl ?_
    refine XS.aloadN X32.here hx rfl (hb hby d6_103) rfl rfl ?_
    refine XS.iload X32.here hx rfl (hb hby d6_104) rfl ?_
    show Steps p.tables e below (T32.setTop (mkF m 106 #[vR a0, vR a1, vR a2, vI p3, vI (0 : Int32), vJ v28, .second, vI (2 : Int32)] [(.int (2 : Int32)), (.ref a1), (.long v28)])) _
    exact k)
  obtain ⟨cl36, Ar36, q36, S36, M36, H36, G36⟩ := id V3
  have in36 : ¬ ((2 : Int32) < 0 ∨ cl36.slots.size ≤ ((2 : Int32)).toNatClampNeg) := inb_of S36 ⟨by decide, by decide⟩
  have at36 : cl36.slots[((2 : Int32)).toNatClampNeg]? = some (.int y2) := H36.at in36 rfl
  have pre37 : Go p.tables e below S0 T32 (mkF m 109 #[vR a0, vR a1, vR a2, vI p3, vI (0 : Int32), vJ v28, .second, vI (2 : Int32)] [(.ref a0), (.long (y2.toInt64)), (.long v28)]) := fun t k => pre35 t (by
    refine X32.iaload hx (j := (2 : Int32)) (v := (.int y2)) (by rw [e32]; exact Ar36.1) (State.isArrayOf_alike hZ.alike Ar36.2.1) Ar36.2.2 in36 at36 (g := (mkF m 106 #[vR a0, vR a1, vR a2, vI p3, vI (0 : Int32), vJ v28, .second, vI (2 : Int32)] [(.int (2 : Int32)), (.ref a1), (.long v28)])) rfl rfl (hb hby d6_106) _ ?_
    refine XS.i2l X32.here hx rfl (hb hby d6_107) rfl ?_
    refine XS.aloadN X32.here hx rfl (hb hby d6_108) rfl rfl ?_
    show Steps p.tables e below (T32.setTop (mkF m 109 #[vR a0, vR a1, vR a2, vI p3, vI (0 : Int32), vJ v28, .second, vI (2 : Int32)] [(.ref a0), (.long (y2.toInt64)), (.long v28)])) _
    exact k)
  obtain ⟨T38, X38, e38, st38⟩ := getF X32 hx hZ hown (host := "") (Or.inl (hw _ (List.mem_of_getElem? (i := 24) rfl))) Via.refl e32 Fs (g := (mkF m 109 #[vR a0, vR a1, vR a2, vI p3, vI (0 : Int32), vJ v28, .second, vI (2 : Int32)] [(.ref a0), (.long (y2.toInt64)), (.long v28)])) rfl rfl (hb hby d6_109)
  have pre38 : Go p.tables e below S0 T38 (mkF m 112 #[vR a0, vR a1, vR a2, vI p3, vI (0 : Int32), vJ v28, .second, vI (2 : Int32)] [(.ref as), (.long (y2.toInt64)), (.long v28)]) := fun t k => pre37 t (st38 t k)
  have pre39 : Go p.tables e below S0 T38 (mkF m 114 #[vR a0, vR a1, vR a2, vI p3, vI (0 : Int32), vJ v28, .second, vI (2 : Int32)] [(.int (2 : Int32)), (.ref as), (.long (y2.toInt64)), (.long v28)]) := fun t k => pre38 t (by
    refine XS.iload X38.here hx rfl (hb hby d6_112) rfl ?_
    exact k)
  obtain ⟨cl40, Ar40, q40, S40, M40, H40, G40⟩ := id V2
  have in40 : ¬ ((2 : Int32) < 0 ∨ cl40.slots.size ≤ ((2 : Int32)).toNatClampNeg) := inb_of S40 ⟨by decide, by decide⟩
  have at40 : cl40.slots[((2 : Int32)).toNatClampNeg]? = some (.int u2) := H40.at in40 rfl
  obtain ⟨v41, hv41, pre41⟩ : ∃ z : Int64, z = (v28 ||| ((y2.toInt64) <<< (u2 &&& 0x3f).toInt64)) ∧ Go p.tables e below S0 T38 (mkF m 119 #[vR a0, vR a1, vR a2, vI p3, vI (0 : Int32), vJ z, .second, vI (2 : Int32)] []) := ⟨_, rfl, fun t k => pre39 t (by
    refine X38.iaload hx (j := (2 : Int32)) (v := (.int u2)) (by rw [e38]; exact Ar40.1) (State.isArrayOf_alike hZ.alike Ar40.2.1) Ar40.2.2 in40 at40 (g := (mkF m 114 #[vR a0, vR a1, vR a2, vI p3, vI (0 : Int32), vJ v28, .second, vI (2 : Int32)] [(.int (2 : Int32)), (.ref as), (.long (y2.toInt64)), (.long v28)])) rfl rfl (hb hby d6_114) _ ?_
    refine XS.lshl X38.here hx rfl (hb hby d6_115) rfl ?_
    refine XS.lor X38.here hx rfl (hb hby d6_116) rfl ?_
    show Steps p.tables e below (T38.setTop (mkF m 117 #[vR a0, vR a1, vR a2, vI p3, vI (0 : Int32), vJ v28, .second, vI (2 : Int32)] [(.long (v28 ||| ((y2.toInt64) <<< (u2 &&& 0x3f).toInt64)))])) _
    refine XS.lstore X38.here hx rfl (hb hby d6_117) rfl (l' := #[vR a0, vR a1, vR a2, vI p3, vI (0 : Int32), vJ (v28 ||| ((y2.toInt64) <<< (u2 &&& 0x3f).toInt64)), .second, vI (2 : Int32)]) rfl ?_
    exact k)⟩
  have pre42 : Go p.tables e below S0 T38 (mkF m 65 #[vR a0, vR a1, vR a2, vI p3, vI (0 : Int32), vJ v41, .second, vI (3 : Int32)] [(.ref a1), (.int (3 : Int32))]) := fun t k => pre41 t (by
    refine XS.iinc X38.here hx rfl (hb hby d6_119) rfl (l' := #[vR a0, vR a1, vR a2, vI p3, vI (0 : Int32), vJ v41, .second, vI (3 : Int32)]) rfl ?_
    refine XS.goto X38.here hx rfl (pc0 := 122) (pc' := 62) rfl (hb hby d6_122) (by decide) (by decide) ?_
    refine XS.iload X38.here hx rfl (hb hby d6_62) rfl ?_
    show Steps p.tables e below (T38.setTop (mkF m 64 #[vR a0, vR a1, vR a2, vI p3, vI (0 : Int32), vJ v41, .second, vI (3 : Int32)] [(.int (3 : Int32))])) _
    refine XS.aloadN X38.here hx rfl (hb hby d6_64) rfl rfl ?_
    exact k)
  obtain ⟨cl43, Ar43, q43, S43, M43, H43, G43⟩ := id V3
  have pre44 : Go p.tables e below S0 T38 (mkF m 70 #[vR a0, vR a1, vR a2, vI p3, vI (0 : Int32), vJ v41, .second, vI (3 : Int32)] [(.ref a0)]) := fun t k => pre42 t (by
    refine X38.arraylength hx (by rw [e38]; exact Ar43.1) (State.isArrayOf_alike hZ.alike Ar43.2.1) (g := (mkF m 65 #[vR a0, vR a1, vR a2, vI p3, vI (0 : Int32), vJ v41, .second, vI (3 : Int32)] [(.ref a1), (.int (3 : Int32))])) rfl rfl (hb hby d6_65) _ ?_
    rw [len_of S43 M43]
    refine XS.icmpNo X38.here hx rfl (hb hby d6_66) rfl (tlt (by decide : (3 : Int32) < (5 : Int32))).2.1 ?_
    refine XS.aloadN X38.here hx rfl (hb hby d6_69) rfl rfl ?_
    show Steps p.tables e below (T38.setTop (mkF m 70 #[vR a0, vR a1, vR a2, vI p3, vI (0 : Int32), vJ v41, .second, vI (3 : Int32)] [(.ref a0)])) _
    exact k)
  obtain ⟨T45, X45, e45, st45⟩ := getF X38 hx hZ hown (host := "") (Or.inl (hw _ (List.mem_of_getElem? (i := 22) rfl))) Via.refl e38 Fw (g := (mkF m 70 #[vR a0, vR a1, vR a2, vI p3, vI (0 : Int32), vJ v41, .second, vI (3 : Int32)] [(.ref a0)])) rfl rfl (hb hby d6_70)
  have pre45 : Go p.tables e below S0 T45 (mkF m 73 #[vR a0, vR a1, vR a2, vI p3, vI (0 : Int32), vJ v41, .second, vI (3 : Int32)] [(.ref aw)]) := fun t k => pre44 t (st45 t k)
  have pre46 : Go p.tables e below S0 T45 (mkF m 75 #[vR a0, vR a1, vR a2, vI p3, vI (0 : Int32), vJ v41, .second, vI (3 : Int32)] [(.int (3 : Int32)), (.ref aw)]) := fun t k => pre45 t (by
    refine XS.iload X45.here hx rfl (hb hby d6_73) rfl ?_
    exact k)
  obtain ⟨cl47, Ar47, q47, S47, M47, H47, G47⟩ := id V1
  have in47 : ¬ ((3 : Int32) < 0 ∨ cl47.slots.size ≤ ((3 : Int32)).toNatClampNeg) := inb_of S47 ⟨by decide, by decide⟩
  have at47 : cl47.slots[((3 : Int32)).toNatClampNeg]? = some (.int (1 : Int32)) := H47.at in47 rfl
  have pre48 : Go p.tables e below S0 T45 (mkF m 88 #[vR a0, vR a1, vR a2, vI p3, vI (0 : Int32), vJ v41, .second, vI (3 : Int32)] [(.long v41), (.int (p3 + (0 : Int32))), (.ref a2)]) := fun t k => pre46 t (by
    refine X45.iaload hx (j := (3 : Int32)) (v := (.int (1 : Int32))) (by rw [e45]; exact Ar47.1) (State.isArrayOf_alike hZ.alike Ar47.2.1) Ar47.2.2 in47 at47 (g := (mkF m 75 #[vR a0, vR a1, vR a2, vI p3, vI (0 : Int32), vJ v41, .second, vI (3 : Int32)] [(.int (3 : Int32)), (.ref aw)])) rfl rfl (hb hby d6_75) _ ?_
    refine XS.iload X45.here hx rfl (hb hby d6_76) rfl ?_
    refine XS.icmpNo X45.here hx rfl (hb hby d6_78) rfl (feq (by decide : ¬ ((1 : Int32) = (0 : Int32)))).1 ?_
    show Steps p.tables e below (T45.setTop (mkF m 81 #[vR a0, vR a1, vR a2, vI p3, vI (0 : Int32), vJ v41, .second, vI (3 : Int32)] [])) _
    refine XS.aloadN X45.here hx rfl (hb hby d6_81) rfl rfl ?_
    refine XS.iloadN X45.here hx rfl (hb hby d6_82) rfl ?_
    refine XS.iload X45.here hx rfl (hb hby d6_83) rfl ?_
    show Steps p.tables e below (T45.setTop (mkF m 85 #[vR a0, vR a1, vR a2, vI p3, vI (0 : Int32), vJ v41, .second, vI (3 : Int32)] [(.int (0 : Int32)), (.int p3), (.ref a2)])) _
    refine XS.iadd X45.here hx rfl (hb hby d6_85) rfl ?_
    refine XS.lload X45.here hx rfl (hb hby d6_86) rfl ?_
    exact k)
  obtain ⟨cl49, Ar49, q49, S49, M49, H49, G49⟩ := id V4
  have in49 : ¬ ((p3 + (0 : Int32)) < 0 ∨ cl49.slots.size ≤ ((p3 + (0 : Int32))).toNatClampNeg) := inb_of S49 hin0
  obtain ⟨T49, h49, X49, e49, W49, st49⟩ := stJ X45 hx hZ e45 Ar49 (j := (p3 + (0 : Int32))) in49 (g := (mkF m 88 #[vR a0, vR a1, vR a2, vI p3, vI (0 : Int32), vJ v41, .second, vI (3 : Int32)] [(.long v41), (.int (p3 + (0 : Int32))), (.ref a2)])) rfl rfl (hb hby d6_88)
  have pre49 : Go p.tables e below S0 T49 (mkF m 89 #[vR a0, vR a1, vR a2, vI p3, vI (0 : Int32), vJ v41, .second, vI (3 : Int32)] []) := fun t k => pre48 t (st49 t k)
  obtain ⟨lo49, N49, X49⟩ : ∃ lo, Fr n0 lo ∧ Stand p l e ({ frames := 0, cells := 0, slots := 0, locals := 0 } : Room) s m #[(.ref a0), (.ref a1), (.ref a2), (.int p3)] below meth c T49 lo 0 0 := ⟨_, Fr.snoc X49 N0 g0, X49⟩
  have av49 : Arv Z h49 a2 k2 .long (6 : Int32) [(.long (own_putL (p3 + (0 : Int32)) (0 : Int32) v41 x0)), (.long (own_putL (p3 + (0 : Int32)) (1 : Int32) v41 x1)), (.long (own_putL (p3 + (0 : Int32)) (2 : Int32) v41 x2)), (.long (own_putL (p3 + (0 : Int32)) (3 : Int32) v41 x3)), (.long (own_putL (p3 + (0 : Int32)) (4 : Int32) v41 x4)), (.long (own_putL (p3 + (0 : Int32)) (5 : Int32) v41 x5))] (.long (0 : Int64)) := by
    have q := Arv.set Ar49 q49 S49 M49 H49 G49 rfl W49 _ rfl (own_setJ6 (w := 0) (x0 := 0) (x1 := 0) (x2 := 0) (x3 := 0) (x4 := 0) (x5 := 0) hin0).1
    rw [(own_setJ6 hin0).2] at q
    exact q
  have f50_1 := Fld.other W49 Fn (Or.inl xe0)
  have f50_2 := Fld.other W49 Fw (Or.inl xe0)
  have f50_3 := Fld.other W49 Fs (Or.inl xe0)
  have f50_4 := V1.other W49 xe1
  have f50_5 := V2.other W49 xe2
  have f50_6 := V3.other W49 xe3
  have zz51 : n0 ≤ h49.size := Nat.le_trans Z0 (Keep.of_wr W49).1
  have kp52 : Keep h0 h49 [a2] := kp0.wr W49 (Or.inl (List.mem_of_getElem? (i := 0) rfl))
  have pre53 : Go p.tables e below S0 T49 (mkF m 90 #[vR a0, vR a1, vR a2, vI p3, vI (0 : Int32), vJ v41, .second, vI (3 : Int32)] [(.ref a0)]) := fun t k => pre49 t (by
    refine XS.aloadN X49.here hx rfl (hb hby d6_89) rfl rfl ?_
    exact k)
  obtain ⟨T54, X54, e54, st54⟩ := getF X49 hx hZ hown (host := "") (Or.inl (hw _ (List.mem_of_getElem? (i := 22) rfl))) Via.refl e49 f50_2 (g := (mkF m 90 #[vR a0, vR a1, vR a2, vI p3, vI (0 : Int32), vJ v41, .second, vI (3 : Int32)] [(.ref a0)])) rfl rfl (hb hby d6_90)
  have pre54 : Go p.tables e below S0 T54 (mkF m 93 #[vR a0, vR a1, vR a2, vI p3, vI (0 : Int32), vJ v41, .second, vI (3 : Int32)] [(.ref aw)]) := fun t k => pre53 t (st54 t k)
  have pre55 : Go p.tables e below S0 T54 (mkF m 95 #[vR a0, vR a1, vR a2, vI p3, vI (0 : Int32), vJ v41, .second, vI (3 : Int32)] [(.int (3 : Int32)), (.ref aw)]) := fun t k => pre54 t (by
    refine XS.iload X54.here hx rfl (hb hby d6_93) rfl ?_
    exact k)
  obtain ⟨cl56, Ar56, q56, S56, M56, H56, G56⟩ := id f50_4
  have in56 : ¬ ((3 : Int32) < 0 ∨ cl56.slots.size ≤ ((3 : Int32)).toNatClampNeg) := inb_of S56 ⟨by decide, by decide⟩
  have at56 : cl56.slots[((3 : Int32)).toNatClampNeg]? = some (.int (1 : Int32)) := H56.at in56 rfl
  have pre57 : Go p.tables e below S0 T54 (mkF m 106 #[vR a0, vR a1, vR a2, vI p3, vI (1 : Int32), vJ (0 : Int64), .second, vI (3 : Int32)] [(.int (3 : Int32)), (.ref a1), (.long (0 : Int64))]) := fun t k => pre55 t (by
    refine X54.iaload hx (j := (3 : Int32)) (v := (.int (1 : Int32))) (by rw [e54]; exact Ar56.1) (State.isArrayOf_alike hZ.alike Ar56.2.1) Ar56.2.2 in56 at56 (g := (mkF m 95 #[vR a0, vR a1, vR a2, vI p3, vI (0 : Int32), vJ v41, .second, vI (3 : Int32)] [(.int (3 : Int32)), (.ref aw)])) rfl rfl (hb hby d6_95) _ ?_
    refine XS.istore X54.here hx rfl (hb hby d6_96) rfl (l' := #[vR a0, vR a1, vR a2, vI p3, vI (1 : Int32), vJ v41, .second, vI (3 : Int32)]) rfl ?_
    refine XS.lconst X54.here hx rfl (hb hby d6_98) ?_
    show Steps p.tables e below (T54.setTop (mkF m 99 #[vR a0, vR a1, vR a2, vI p3, vI (1 : Int32), vJ v41, .second, vI (3 : Int32)] [(.long (0 : Int64))])) _
    refine XS.lstore X54.here hx rfl (hb hby d6_99) rfl (l' := #[vR a0, vR a1, vR a2, vI p3, vI (1 : Int32), vJ (0 : Int64), .second, vI (3 : Int32)]) rfl ?_
    refine XS.lload X54.here hx rfl (hb hby d6_101) rfl ?_
    refine XS.aloadN X54.here hx rfl (hb hby d6_103) rfl rfl ?_
    show Steps p.tables e below (T54.setTop (mkF m 104 #[vR a0, vR a1, vR a2, vI p3, vI (1 : Int32), vJ (0 : Int64), .second, vI (3 : Int32)] [(.ref a1), (.long (0 : Int64))])) _
    refine XS.iload X54.here hx rfl (hb hby d6_104) rfl ?_
    exact k)
  obtain ⟨cl58, Ar58, q58, S58, M58, H58, G58⟩ := id f50_6
  have in58 : ¬ ((3 : Int32) < 0 ∨ cl58.slots.size ≤ ((3 : Int32)).toNatClampNeg) := inb_of S58 ⟨by decide, by decide⟩
  have at58 : cl58.slots[((3 : Int32)).toNatClampNeg]? = some (.int y3) := H58.at in58 rfl
  have pre59 : Go p.tables e below S0 T54 (mkF m 109 #[vR a0, vR a1, vR a2, vI p3, vI (1 : Int32), vJ (0 : Int64), .second, vI (3 : Int32)] [(.ref a0), (.long (y3.toInt64)), (.long (0 : Int64))]) := fun t k => pre57 t (by
    refine X54.iaload hx (j := (3 : Int32)) (v := (.int y3)) (by rw [e54]; exact Ar58.1) (State.isArrayOf_alike hZ.alike Ar58.2.1) Ar58.2.2 in58 at58 (g := (mkF m 106 #[vR a0, vR a1, vR a2, vI p3, vI (1 : Int32), vJ (0 : Int64), .second, vI (3 : Int32)] [(.int (3 : Int32)), (.ref a1), (.long (0 : Int64))])) rfl rfl (hb hby d6_106) _ ?_
    refine XS.i2l X54.here hx rfl (hb hby d6_107) rfl ?_
    refine XS.aloadN X54.here hx rfl (hb hby d6_108) rfl rfl ?_
    show Steps p.tables e below (T54.setTop (mkF m 109 #[vR a0, vR a1, vR a2, vI p3, vI (1 : Int32), vJ (0 : Int64), .second, vI (3 : Int32)] [(.ref a0), (.long (y3.toInt64)), (.long (0 : Int64))])) _
    exact k)
  obtain ⟨T60, X60, e60, st60⟩ := getF X54 hx hZ hown (host := "") (Or.inl (hw _ (List.mem_of_getElem? (i := 24) rfl))) Via.refl e54 f50_3 (g := (mkF m 109 #[vR a0, vR a1, vR a2, vI p3, vI (1 : Int32), vJ (0 : Int64), .second, vI (3 : Int32)] [(.ref a0), (.long (y3.toInt64)), (.long (0 : Int64))])) rfl rfl (hb hby d6_109)
  have pre60 : Go p.tables e below S0 T60 (mkF m 112 #[vR a0, vR a1, vR a2, vI p3, vI (1 : Int32), vJ (0 : Int64), .second, vI (3 : Int32)] [(.ref as), (.long (y3.toInt64)), (.long (0 : Int64))]) := fun t k => pre59 t (st60 t k)
  have pre61 : Go p.tables e below S0 T60 (mkF m 114 #[vR a0, vR a1, vR a2, vI p3, vI (1 : Int32), vJ (0 : Int64), .second, vI (3 : Int32)] [(.int (3 : Int32)), (.ref as), (.long (y3.toInt64)), (.long (0 : Int64))]) := fun t k => pre60 t (by
    refine XS.iload X60.here hx rfl (hb hby d6_112) rfl ?_
    exact k)
  obtain ⟨cl62, Ar62, q62, S62, M62, H62, G62⟩ := id f50_5
  have in62 : ¬ ((3 : Int32) < 0 ∨ cl62.slots.size ≤ ((3 : Int32)).toNatClampNeg) := inb_of S62 ⟨by decide, by decide⟩
  have at62 : cl62.slots[((3 : Int32)).toNatClampNeg]? = some (.int u3) := H62.at in62 rfl
  obtain ⟨v63, hv63, pre63⟩ : ∃ z : Int64, z = ((0 : Int64) ||| ((y3.toInt64) <<< (u3 &&& 0x3f).toInt64)) ∧ Go p.tables e below S0 T60 (mkF m 119 #[vR a0, vR a1, vR a2, vI p3, vI (1 : Int32), vJ z, .second, vI (3 : Int32)] []) := ⟨_, rfl, fun t k => pre61 t (by
    refine X60.iaload hx (j := (3 : Int32)) (v := (.int u3)) (by rw [e60]; exact Ar62.1) (State.isArrayOf_alike hZ.alike Ar62.2.1) Ar62.2.2 in62 at62 (g := (mkF m 114 #[vR a0, vR a1, vR a2, vI p3, vI (1 : Int32), vJ (0 : Int64), .second, vI (3 : Int32)] [(.int (3 : Int32)), (.ref as), (.long (y3.toInt64)), (.long (0 : Int64))])) rfl rfl (hb hby d6_114) _ ?_
    refine XS.lshl X60.here hx rfl (hb hby d6_115) rfl ?_
    refine XS.lor X60.here hx rfl (hb hby d6_116) rfl ?_
    show Steps p.tables e below (T60.setTop (mkF m 117 #[vR a0, vR a1, vR a2, vI p3, vI (1 : Int32), vJ (0 : Int64), .second, vI (3 : Int32)] [(.long ((0 : Int64) ||| ((y3.toInt64) <<< (u3 &&& 0x3f).toInt64)))])) _
    refine XS.lstore X60.here hx rfl (hb hby d6_117) rfl (l' := #[vR a0, vR a1, vR a2, vI p3, vI (1 : Int32), vJ ((0 : Int64) ||| ((y3.toInt64) <<< (u3 &&& 0x3f).toInt64)), .second, vI (3 : Int32)]) rfl ?_
    exact k)⟩
  have pre64 : Go p.tables e below S0 T60 (mkF m 65 #[vR a0, vR a1, vR a2, vI p3, vI (1 : Int32), vJ v63, .second, vI (4 : Int32)] [(.ref a1), (.int (4 : Int32))]) := fun t k => pre63 t (by
    refine XS.iinc X60.here hx rfl (hb hby d6_119) rfl (l' := #[vR a0, vR a1, vR a2, vI p3, vI (1 : Int32), vJ v63, .second, vI (4 : Int32)]) rfl ?_
    refine XS.goto X60.here hx rfl (pc0 := 122) (pc' := 62) rfl (hb hby d6_122) (by decide) (by decide) ?_
    refine XS.iload X60.here hx rfl (hb hby d6_62) rfl ?_
    show Steps p.tables e below (T60.setTop (mkF m 64 #[vR a0, vR a1, vR a2, vI p3, vI (1 : Int32), vJ v63, .second, vI (4 : Int32)] [(.int (4 : Int32))])) _
    refine XS.aloadN X60.here hx rfl (hb hby d6_64) rfl rfl ?_
    exact k)
  obtain ⟨cl65, Ar65, q65, S65, M65, H65, G65⟩ := id f50_6
  have pre66 : Go p.tables e below S0 T60 (mkF m 70 #[vR a0, vR a1, vR a2, vI p3, vI (1 : Int32), vJ v63, .second, vI (4 : Int32)] [(.ref a0)]) := fun t k => pre64 t (by
    refine X60.arraylength hx (by rw [e60]; exact Ar65.1) (State.isArrayOf_alike hZ.alike Ar65.2.1) (g := (mkF m 65 #[vR a0, vR a1, vR a2, vI p3, vI (1 : Int32), vJ v63, .second, vI (4 : Int32)] [(.ref a1), (.int (4 : Int32))])) rfl rfl (hb hby d6_65) _ ?_
    rw [len_of S65 M65]
    refine XS.icmpNo X60.here hx rfl (hb hby d6_66) rfl (tlt (by decide : (4 : Int32) < (5 : Int32))).2.1 ?_
    refine XS.aloadN X60.here hx rfl (hb hby d6_69) rfl rfl ?_
    show Steps p.tables e below (T60.setTop (mkF m 70 #[vR a0, vR a1, vR a2, vI p3, vI (1 : Int32), vJ v63, .second, vI (4 : Int32)] [(.ref a0)])) _
    exact k)
  obtain ⟨T67, X67, e67, st67⟩ := getF X60 hx hZ hown (host := "") (Or.inl (hw _ (List.mem_of_getElem? (i := 22) rfl))) Via.refl e60 f50_2 (g := (mkF m 70 #[vR a0, vR a1, vR a2, vI p3, vI (1 : Int32), vJ v63, .second, vI (4 : Int32)] [(.ref a0)])) rfl rfl (hb hby d6_70)
  have pre67 : Go p.tables e below S0 T67 (mkF m 73 #[vR a0, vR a1, vR a2, vI p3, vI (1 : Int32), vJ v63, .second, vI (4 : Int32)] [(.ref aw)]) := fun t k => pre66 t (st67 t k)
  have pre68 : Go p.tables e below S0 T67 (mkF m 75 #[vR a0, vR a1, vR a2, vI p3, vI (1 : Int32), vJ v63, .second, vI (4 : Int32)] [(.int (4 : Int32)), (.ref aw)]) := fun t k => pre67 t (by
    refine XS.iload X67.here hx rfl (hb hby d6_73) rfl ?_
    exact k)
  obtain ⟨cl69, Ar69, q69, S69, M69, H69, G69⟩ := id f50_4
  have in69 : ¬ ((4 : Int32) < 0 ∨ cl69.slots.size ≤ ((4 : Int32)).toNatClampNeg) := inb_of S69 ⟨by decide, by decide⟩
  have at69 : cl69.slots[((4 : Int32)).toNatClampNeg]? = some (.int (1 : Int32)) := H69.at in69 rfl
  have pre70 : Go p.tables e below S0 T67 (mkF m 106 #[vR a0, vR a1, vR a2, vI p3, vI (1 : Int32), vJ v63, .second, vI (4 : Int32)] [(.int (4 : Int32)), (.ref a1), (.long v63)]) := fun t k => pre68 t (by
    refine X67.iaload hx (j := (4 : Int32)) (v := (.int (1 : Int32))) (by rw [e67]; exact Ar69.1) (State.isArrayOf_alike hZ.alike Ar69.2.1) Ar69.2.2 in69 at69 (g := (mkF m 75 #[vR a0, vR a1, vR a2, vI p3, vI (1 : Int32), vJ v63, .second, vI (4 : Int32)] [(.int (4 : Int32)), (.ref aw)])) rfl rfl (hb hby d6_75) _ ?_
    refine XS.iload X67.here hx rfl (hb hby d6_76) rfl ?_
    refine XS.icmpYes X67.here hx rfl (pc0 := 78) (pc' := 101) rfl (hb hby d6_78) rfl (teq (rfl : (1 : Int32) = (1 : Int32))).1 (by decide) (by decide) ?_
    show Steps p.tables e below (T67.setTop (mkF m 101 #[vR a0, vR a1, vR a2, vI p3, vI (1 : Int32), vJ v63, .second, vI (4 : Int32)] [])) _
    refine XS.lload X67.here hx rfl (hb hby d6_101) rfl ?_
    refine XS.aloadN X67.here hx rfl (hb hby d6_103) rfl rfl ?_
    refine XS.iload X67.here hx rfl (hb hby d6_104) rfl ?_
    show Steps p.tables e below (T67.setTop (mkF m 106 #[vR a0, vR a1, vR a2, vI p3, vI (1 : Int32), vJ v63, .second, vI (4 : Int32)] [(.int (4 : Int32)), (.ref a1), (.long v63)])) _
    exact k)
  obtain ⟨cl71, Ar71, q71, S71, M71, H71, G71⟩ := id f50_6
  have in71 : ¬ ((4 : Int32) < 0 ∨ cl71.slots.size ≤ ((4 : Int32)).toNatClampNeg) := inb_of S71 ⟨by decide, by decide⟩
  have at71 : cl71.slots[((4 : Int32)).toNatClampNeg]? = some (.int y4) := H71.at in71 rfl
  have pre72 : Go p.tables e below S0 T67 (mkF m 109 #[vR a0, vR a1, vR a2, vI p3, vI (1 : Int32), vJ v63, .second, vI (4 : Int32)] [(.ref a0), (.long (y4.toInt64)), (.long v63)]) := fun t k => pre70 t (by
    refine X67.iaload hx (j := (4 : Int32)) (v := (.int y4)) (by rw [e67]; exact Ar71.1) (State.isArrayOf_alike hZ.alike Ar71.2.1) Ar71.2.2 in71 at71 (g := (mkF m 106 #[vR a0, vR a1, vR a2, vI p3, vI (1 : Int32), vJ v63, .second, vI (4 : Int32)] [(.int (4 : Int32)), (.ref a1), (.long v63)])) rfl rfl (hb hby d6_106) _ ?_
    refine XS.i2l X67.here hx rfl (hb hby d6_107) rfl ?_
    refine XS.aloadN X67.here hx rfl (hb hby d6_108) rfl rfl ?_
    show Steps p.tables e below (T67.setTop (mkF m 109 #[vR a0, vR a1, vR a2, vI p3, vI (1 : Int32), vJ v63, .second, vI (4 : Int32)] [(.ref a0), (.long (y4.toInt64)), (.long v63)])) _
    exact k)
  obtain ⟨T73, X73, e73, st73⟩ := getF X67 hx hZ hown (host := "") (Or.inl (hw _ (List.mem_of_getElem? (i := 24) rfl))) Via.refl e67 f50_3 (g := (mkF m 109 #[vR a0, vR a1, vR a2, vI p3, vI (1 : Int32), vJ v63, .second, vI (4 : Int32)] [(.ref a0), (.long (y4.toInt64)), (.long v63)])) rfl rfl (hb hby d6_109)
  have pre73 : Go p.tables e below S0 T73 (mkF m 112 #[vR a0, vR a1, vR a2, vI p3, vI (1 : Int32), vJ v63, .second, vI (4 : Int32)] [(.ref as), (.long (y4.toInt64)), (.long v63)]) := fun t k => pre72 t (st73 t k)
  have pre74 : Go p.tables e below S0 T73 (mkF m 114 #[vR a0, vR a1, vR a2, vI p3, vI (1 : Int32), vJ v63, .second, vI (4 : Int32)] [(.int (4 : Int32)), (.ref as), (.long (y4.toInt64)), (.long v63)]) := fun t k => pre73 t (by
    refine XS.iload X73.here hx rfl (hb hby d6_112) rfl ?_
    exact k)
  obtain ⟨cl75, Ar75, q75, S75, M75, H75, G75⟩ := id f50_5
  have in75 : ¬ ((4 : Int32) < 0 ∨ cl75.slots.size ≤ ((4 : Int32)).toNatClampNeg) := inb_of S75 ⟨by decide, by decide⟩
  have at75 : cl75.slots[((4 : Int32)).toNatClampNeg]? = some (.int u4) := H75.at in75 rfl
  obtain ⟨v76, hv76, pre76⟩ : ∃ z : Int64, z = (v63 ||| ((y4.toInt64) <<< (u4 &&& 0x3f).toInt64)) ∧ Go p.tables e below S0 T73 (mkF m 119 #[vR a0, vR a1, vR a2, vI p3, vI (1 : Int32), vJ z, .second, vI (4 : Int32)] []) := ⟨_, rfl, fun t k => pre74 t (by
    refine X73.iaload hx (j := (4 : Int32)) (v := (.int u4)) (by rw [e73]; exact Ar75.1) (State.isArrayOf_alike hZ.alike Ar75.2.1) Ar75.2.2 in75 at75 (g := (mkF m 114 #[vR a0, vR a1, vR a2, vI p3, vI (1 : Int32), vJ v63, .second, vI (4 : Int32)] [(.int (4 : Int32)), (.ref as), (.long (y4.toInt64)), (.long v63)])) rfl rfl (hb hby d6_114) _ ?_
    refine XS.lshl X73.here hx rfl (hb hby d6_115) rfl ?_
    refine XS.lor X73.here hx rfl (hb hby d6_116) rfl ?_
    show Steps p.tables e below (T73.setTop (mkF m 117 #[vR a0, vR a1, vR a2, vI p3, vI (1 : Int32), vJ v63, .second, vI (4 : Int32)] [(.long (v63 ||| ((y4.toInt64) <<< (u4 &&& 0x3f).toInt64)))])) _
    refine XS.lstore X73.here hx rfl (hb hby d6_117) rfl (l' := #[vR a0, vR a1, vR a2, vI p3, vI (1 : Int32), vJ (v63 ||| ((y4.toInt64) <<< (u4 &&& 0x3f).toInt64)), .second, vI (4 : Int32)]) rfl ?_
    exact k)⟩
  have pre77 : Go p.tables e below S0 T73 (mkF m 65 #[vR a0, vR a1, vR a2, vI p3, vI (1 : Int32), vJ v76, .second, vI (5 : Int32)] [(.ref a1), (.int (5 : Int32))]) := fun t k => pre76 t (by
    refine XS.iinc X73.here hx rfl (hb hby d6_119) rfl (l' := #[vR a0, vR a1, vR a2, vI p3, vI (1 : Int32), vJ v76, .second, vI (5 : Int32)]) rfl ?_
    refine XS.goto X73.here hx rfl (pc0 := 122) (pc' := 62) rfl (hb hby d6_122) (by decide) (by decide) ?_
    refine XS.iload X73.here hx rfl (hb hby d6_62) rfl ?_
    show Steps p.tables e below (T73.setTop (mkF m 64 #[vR a0, vR a1, vR a2, vI p3, vI (1 : Int32), vJ v76, .second, vI (5 : Int32)] [(.int (5 : Int32))])) _
    refine XS.aloadN X73.here hx rfl (hb hby d6_64) rfl rfl ?_
    exact k)
  obtain ⟨cl78, Ar78, q78, S78, M78, H78, G78⟩ := id f50_6
  have pre79 : Go p.tables e below S0 T73 (mkF m 132 #[vR a0, vR a1, vR a2, vI p3, vI (1 : Int32), vJ v76, .second, vI (5 : Int32)] [(.long v76), (.int (p3 + (1 : Int32))), (.ref a2)]) := fun t k => pre77 t (by
    refine X73.arraylength hx (by rw [e73]; exact Ar78.1) (State.isArrayOf_alike hZ.alike Ar78.2.1) (g := (mkF m 65 #[vR a0, vR a1, vR a2, vI p3, vI (1 : Int32), vJ v76, .second, vI (5 : Int32)] [(.ref a1), (.int (5 : Int32))])) rfl rfl (hb hby d6_65) _ ?_
    rw [len_of S78 M78]
    refine XS.icmpYes X73.here hx rfl (pc0 := 66) (pc' := 125) rfl (hb hby d6_66) rfl (flt (by decide : ¬ ((5 : Int32) < (5 : Int32)))).2.1 (by decide) (by decide) ?_
    refine XS.aloadN X73.here hx rfl (hb hby d6_125) rfl rfl ?_
    show Steps p.tables e below (T73.setTop (mkF m 126 #[vR a0, vR a1, vR a2, vI p3, vI (1 : Int32), vJ v76, .second, vI (5 : Int32)] [(.ref a2)])) _
    refine XS.iloadN X73.here hx rfl (hb hby d6_126) rfl ?_
    refine XS.iload X73.here hx rfl (hb hby d6_127) rfl ?_
    refine XS.iadd X73.here hx rfl (hb hby d6_129) rfl ?_
    show Steps p.tables e below (T73.setTop (mkF m 130 #[vR a0, vR a1, vR a2, vI p3, vI (1 : Int32), vJ v76, .second, vI (5 : Int32)] [(.int (p3 + (1 : Int32))), (.ref a2)])) _
    refine XS.lload X73.here hx rfl (hb hby d6_130) rfl ?_
    exact k)
  obtain ⟨cl80, Ar80, q80, S80, M80, H80, G80⟩ := id av49
  have in80 : ¬ ((p3 + (1 : Int32)) < 0 ∨ cl80.slots.size ≤ ((p3 + (1 : Int32))).toNatClampNeg) := inb_of S80 hin1
  obtain ⟨T80, h80, X80, e80, W80, st80⟩ := stJ X73 hx hZ e73 Ar80 (j := (p3 + (1 : Int32))) in80 (g := (mkF m 132 #[vR a0, vR a1, vR a2, vI p3, vI (1 : Int32), vJ v76, .second, vI (5 : Int32)] [(.long v76), (.int (p3 + (1 : Int32))), (.ref a2)])) rfl rfl (hb hby d6_132)
  have pre80 : Go p.tables e below S0 T80 (mkF m 133 #[vR a0, vR a1, vR a2, vI p3, vI (1 : Int32), vJ v76, .second, vI (5 : Int32)] []) := fun t k => pre79 t (st80 t k)
  obtain ⟨lo80, N80, X80⟩ : ∃ lo, Fr n0 lo ∧ Stand p l e ({ frames := 0, cells := 0, slots := 0, locals := 0 } : Room) s m #[(.ref a0), (.ref a1), (.ref a2), (.int p3)] below meth c T80 lo 0 0 := ⟨_, Fr.snoc X80 N49 g0, X80⟩
  have av80 : Arv Z h80 a2 k2 .long (6 : Int32) [(.long (own_putL (p3 + (1 : Int32)) (0 : Int32) v76 (own_putL (p3 + (0 : Int32)) (0 : Int32) v41 x0))), (.long (own_putL (p3 + (1 : Int32)) (1 : Int32) v76 (own_putL (p3 + (0 : Int32)) (1 : Int32) v41 x1))), (.long (own_putL (p3 + (1 : Int32)) (2 : Int32) v76 (own_putL (p3 + (0 : Int32)) (2 : Int32) v41 x2))), (.long (own_putL (p3 + (1 : Int32)) (3 : Int32) v76 (own_putL (p3 + (0 : Int32)) (3 : Int32) v41 x3))), (.long (own_putL (p3 + (1 : Int32)) (4 : Int32) v76 (own_putL (p3 + (0 : Int32)) (4 : Int32) v41 x4))), (.long (own_putL (p3 + (1 : Int32)) (5 : Int32) v76 (own_putL (p3 + (0 : Int32)) (5 : Int32) v41 x5)))] (.long (0 : Int64)) := by
    have q := Arv.set Ar80 q80 S80 M80 H80 G80 rfl W80 _ rfl (own_setJ6 (w := 0) (x0 := 0) (x1 := 0) (x2 := 0) (x3 := 0) (x4 := 0) (x5 := 0) hin1).1
    rw [(own_setJ6 hin1).2] at q
    exact q
  have f81_1 := Fld.other W80 f50_1 (Or.inl xe0)
  have f81_2 := Fld.other W80 f50_2 (Or.inl xe0)
  have f81_3 := Fld.other W80 f50_3 (Or.inl xe0)
  have f81_4 := f50_4.other W80 xe1
  have f81_5 := f50_5.other W80 xe2
  have f81_6 := f50_6.other W80 xe3
  have zz82 : n0 ≤ h80.size := Nat.le_trans zz51 (Keep.of_wr W80).1
  have kp83 : Keep h0 h80 [a2] := kp52.wr W80 (Or.inl (List.mem_of_getElem? (i := 0) rfl))
  obtain ⟨fs, hr, hrun, hended, hW, hsame⟩ := X80.leave (v := none) (fun _ => rfl)
  exact ⟨_, _, pre80.fin hS0 (X80.returnOut hx Bd.returns (hb hby d6_133) hr), hrun, hended, _, _, rfl, (by
    show Q6_00011 Z a0 a1 a2 p3 aw as kw ks k1 k2 u0 u1 u2 u3 u4 y0 y1 y2 y3 y4 x0 x1 x2 x3 x4 x5 h0 n0 _ T80.heap _
    rw [e80]
    subst hv76 hv63 hv41 hv28 hv15
    exact ⟨rfl, N80, _, _, _, _, _, _, ⟨rfl, rfl, rfl, rfl, rfl, rfl⟩, kp83, av80⟩), ⟨_, rfl⟩, hW, hsame.mono (by decide) (by decide)⟩
theorem ef_6_00111 (m : MethodId) (x0 : Addr) (x1 : Addr) (x2 : Addr) (x3 : Int32) : entryFrame m #[(.ref x0), (.ref x1), (.ref x2), (.int x3)] 8 = mkF m 0 #[.val (.ref x0), .val (.ref x1), .val (.ref x2), .val (.int x3), .unset, .unset, .unset, .unset] [] := by first | (simp [entryFrame, mkF, argsToLocals, Value.category]; done) | rfl
def Q6_00111 (Z : State) (a0 a1 a2 : Addr) (p3 : Int32) (aw as : Addr) (kw ks k1 k2 : ClassId) (u0 u1 u2 u3 u4 y0 y1 y2 y3 y4 : Int32) (x0 x1 x2 x3 x4 x5 : Int64) (h0 : Heap) (n0 : Nat) (v : Option Value) (h : Heap) (L : List Loc) : Prop := v = none ∧ Fr n0 L ∧ ∃ (z0 z1 z2 z3 z4 z5 : Int64), (z0 = (own_putL (p3 + (1 : Int32)) (0 : Int32) ((((0 : Int64) ||| ((y2.toInt64) <<< (u2 &&& 0x3f).toInt64)) ||| ((y3.toInt64) <<< (u3 &&& 0x3f).toInt64)) ||| ((y4.toInt64) <<< (u4 &&& 0x3f).toInt64)) (own_putL (p3 + (0 : Int32)) (0 : Int32) (((0 : Int64) ||| ((y0.toInt64) <<< (u0 &&& 0x3f).toInt64)) ||| ((y1.toInt64) <<< (u1 &&& 0x3f).toInt64)) x0)) ∧ z1 = (own_putL (p3 + (1 : Int32)) (1 : Int32) ((((0 : Int64) ||| ((y2.toInt64) <<< (u2 &&& 0x3f).toInt64)) ||| ((y3.toInt64) <<< (u3 &&& 0x3f).toInt64)) ||| ((y4.toInt64) <<< (u4 &&& 0x3f).toInt64)) (own_putL (p3 + (0 : Int32)) (1 : Int32) (((0 : Int64) ||| ((y0.toInt64) <<< (u0 &&& 0x3f).toInt64)) ||| ((y1.toInt64) <<< (u1 &&& 0x3f).toInt64)) x1)) ∧ z2 = (own_putL (p3 + (1 : Int32)) (2 : Int32) ((((0 : Int64) ||| ((y2.toInt64) <<< (u2 &&& 0x3f).toInt64)) ||| ((y3.toInt64) <<< (u3 &&& 0x3f).toInt64)) ||| ((y4.toInt64) <<< (u4 &&& 0x3f).toInt64)) (own_putL (p3 + (0 : Int32)) (2 : Int32) (((0 : Int64) ||| ((y0.toInt64) <<< (u0 &&& 0x3f).toInt64)) ||| ((y1.toInt64) <<< (u1 &&& 0x3f).toInt64)) x2)) ∧ z3 = (own_putL (p3 + (1 : Int32)) (3 : Int32) ((((0 : Int64) ||| ((y2.toInt64) <<< (u2 &&& 0x3f).toInt64)) ||| ((y3.toInt64) <<< (u3 &&& 0x3f).toInt64)) ||| ((y4.toInt64) <<< (u4 &&& 0x3f).toInt64)) (own_putL (p3 + (0 : Int32)) (3 : Int32) (((0 : Int64) ||| ((y0.toInt64) <<< (u0 &&& 0x3f).toInt64)) ||| ((y1.toInt64) <<< (u1 &&& 0x3f).toInt64)) x3)) ∧ z4 = (own_putL (p3 + (1 : Int32)) (4 : Int32) ((((0 : Int64) ||| ((y2.toInt64) <<< (u2 &&& 0x3f).toInt64)) ||| ((y3.toInt64) <<< (u3 &&& 0x3f).toInt64)) ||| ((y4.toInt64) <<< (u4 &&& 0x3f).toInt64)) (own_putL (p3 + (0 : Int32)) (4 : Int32) (((0 : Int64) ||| ((y0.toInt64) <<< (u0 &&& 0x3f).toInt64)) ||| ((y1.toInt64) <<< (u1 &&& 0x3f).toInt64)) x4)) ∧ z5 = (own_putL (p3 + (1 : Int32)) (5 : Int32) ((((0 : Int64) ||| ((y2.toInt64) <<< (u2 &&& 0x3f).toInt64)) ||| ((y3.toInt64) <<< (u3 &&& 0x3f).toInt64)) ||| ((y4.toInt64) <<< (u4 &&& 0x3f).toInt64)) (own_putL (p3 + (0 : Int32)) (5 : Int32) (((0 : Int64) ||| ((y0.toInt64) <<< (u0 &&& 0x3f).toInt64)) ||| ((y1.toInt64) <<< (u1 &&& 0x3f).toInt64)) x5))) ∧ Keep h0 h [a2] ∧ (Arv Z h a2 k2 .long (6 : Int32) [(.long z0), (.long z1), (.long z2), (.long z3), (.long z4), (.long z5)] (.long (0 : Int64)))
set_option maxRecDepth 65536 in
set_option maxHeartbeats 40000000 in
theorem rm6_00111 (l : Launch) (Z : State) (A0 : Array Value) (hw : ∀ d ∈ tables_1, d.before A0 Z = true) (ws : List Jvm.Cond) (a0 : Addr) (a1 : Addr) (a2 : Addr) (p3 : Int32) (aw as : Addr) (kw ks k1 k2 : ClassId) (u0 u1 u2 u3 u4 y0 y1 y2 y3 y4 : Int32) (x0 x1 x2 x3 x4 x5 : Int64) (h0 : Heap) (n0 : Nat) (Z0 : n0 ≤ h0.size) (Fn : Fld Z h0 a0 "com/example/garantia/garantia/engine/StateLayout" "words" "I" (.int (2 : Int32))) (Fw : Fld Z h0 a0 "com/example/garantia/garantia/engine/StateLayout" "word" "[I" (.ref aw)) (Fs : Fld Z h0 a0 "com/example/garantia/garantia/engine/StateLayout" "shift" "[I" (.ref as)) (V1 : Arv Z h0 aw kw .int (5 : Int32) [(.int (0 : Int32)), (.int (0 : Int32)), (.int (1 : Int32)), (.int (1 : Int32)), (.int (1 : Int32))] (.int (0 : Int32))) (V2 : Arv Z h0 as ks .int (5 : Int32) [(.int u0), (.int u1), (.int u2), (.int u3), (.int u4)] (.int (0 : Int32))) (V3 : Arv Z h0 a1 k1 .int (5 : Int32) [(.int y0), (.int y1), (.int y2), (.int y3), (.int y4)] (.int (0 : Int32))) (V4 : Arv Z h0 a2 k2 .long (6 : Int32) [(.long x0), (.long x1), (.long x2), (.long x3), (.long x4), (.long x5)] (.long (0 : Int64))) (xe0 : a0 ≠ a2) (xe1 : aw ≠ a2) (xe2 : as ≠ a2) (xe3 : a1 ≠ a2) (g0 : n0 ≤ a2) (hin0 : ¬ (p3 + (0 : Int32)) < 0 ∧ (p3 + (0 : Int32)) < (6 : Int32)) (hin1 : ¬ (p3 + (1 : Int32)) < 0 ∧ (p3 + (1 : Int32)) < (6 : Int32)) :
    MetFree l (⟨"com/example/garantia/garantia/engine/StateLayout", "pack", "([I[JI)V"⟩ : MethodName) (head1 (Jvm.Cond.code (⟨"com/example/garantia/garantia/engine/StateLayout", "pack", "([I[JI)V"⟩ : MethodName) prog_46_method_4_code 8 none :: ws) ({ frames := 0, cells := 0, slots := 0, locals := 0 } : Room)) (fun a U => a = #[(.ref a0), (.ref a1), (.ref a2), (.int p3)] ∧ Z.Warmed39 U.vm ∧ U.heap = h0) (fun _ _ _ _ _ => True) (fun _ U o U' => ∃ v L, o = .returned v ∧ Q6_00111 Z a0 a1 a2 p3 aw as kw ks k1 k2 u0 u1 u2 u3 u4 y0 y1 y2 y3 y4 x0 x1 x2 x3 x4 x5 h0 n0 v U'.heap L ∧ FrameEnd U o U' L ({ frames := 0, cells := 0, slots := 0, locals := 0 } : Room).cells ({ frames := 0, cells := 0, slots := 0, locals := 0 } : Room).slots) := by
  refine MetFree.of_bodySF (plainFor_of_name pn_1) hisR ?_
  intro p e s m args below meth c s₁ Bd hml0 hP hK
  obtain ⟨rfl, hZ, hh⟩ := hP
  have hx := Bd.exec
  have hby := Bd.bytes
  have hml : c.maxLocals = 8 := hml0
  have hown : s.vm.findClass "com/example/garantia/garantia/engine/StateLayout" = some m.cls := findClass_of_methodNamed Bd.named
  have hnm := (name_of_methodNamed Bd.named Bd.method).1
  have X0 : Stand p l e ({ frames := 0, cells := 0, slots := 0, locals := 0 } : Room) s m #[(.ref a0), (.ref a1), (.ref a2), (.int p3)] below meth c s₁ [] 0 0 := Stand.of_body Bd
  have e0 : s₁.heap = h0 := by rw [← hh, Bd.state]; rfl
  have N0 := Fr.nil n0
  have kp0 : Keep h0 h0 [a2] := Keep.refl _ _
  obtain ⟨S0, hS0⟩ : ∃ z, z = s₁.setTop (entryFrame m #[(.ref a0), (.ref a1), (.ref a2), (.int p3)] 8) := ⟨_, rfl⟩
  have pre0 : Go p.tables e below S0 s₁ (mkF m 0 #[vR a0, vR a1, vR a2, vI p3, .unset, .unset, .unset, .unset] []) := fun t k => by rw [hS0]; exact castTop (ef_6_00111 m a0 a1 a2 p3) k
  have pre1 : Go p.tables e below S0 s₁ (mkF m 1 #[vR a0, vR a1, vR a2, vI p3, .unset, .unset, .unset, .unset] [(.ref a0)]) := fun t k => pre0 t (by
    refine XS.aloadN X0.here hx rfl (hb hby d6_0) rfl rfl ?_
    exact k)
  obtain ⟨T2, X2, e2, st2⟩ := getF X0 hx hZ hown (host := "") (Or.inl (hw _ (List.mem_of_getElem? (i := 31) rfl))) Via.refl e0 Fn (g := (mkF m 1 #[vR a0, vR a1, vR a2, vI p3, .unset, .unset, .unset, .unset] [(.ref a0)])) rfl rfl (hb hby d6_1)
  have pre2 : Go p.tables e below S0 T2 (mkF m 4 #[vR a0, vR a1, vR a2, vI p3, .unset, .unset, .unset, .unset] [(.int (2 : Int32))]) := fun t k => pre1 t (st2 t k)
  have pre3 : Go p.tables e below S0 T2 (mkF m 65 #[vR a0, vR a1, vR a2, vI p3, vI (0 : Int32), vJ (0 : Int64), .second, vI (0 : Int32)] [(.ref a1), (.int (0 : Int32))]) := fun t k => pre2 t (by
    refine XS.iconst X2.here hx rfl (hb hby d6_4) ?_
    refine XS.icmpYes X2.here hx rfl (pc0 := 5) (pc' := 53) rfl (hb hby d6_5) rfl (feq (by decide : ¬ ((2 : Int32) = (1 : Int32)))).2 (by decide) (by decide) ?_
    refine XS.iconst X2.here hx rfl (hb hby d6_53) ?_
    show Steps p.tables e below (T2.setTop (mkF m 54 #[vR a0, vR a1, vR a2, vI p3, .unset, .unset, .unset, .unset] [(.int (0 : Int32))])) _
    refine XS.istore X2.here hx rfl (hb hby d6_54) rfl (l' := #[vR a0, vR a1, vR a2, vI p3, vI (0 : Int32), .unset, .unset, .unset]) rfl ?_
    refine XS.lconst X2.here hx rfl (hb hby d6_56) ?_
    refine XS.lstore X2.here hx rfl (hb hby d6_57) rfl (l' := #[vR a0, vR a1, vR a2, vI p3, vI (0 : Int32), vJ (0 : Int64), .second, .unset]) rfl ?_
    show Steps p.tables e below (T2.setTop (mkF m 59 #[vR a0, vR a1, vR a2, vI p3, vI (0 : Int32), vJ (0 : Int64), .second, .unset] [])) _
    refine XS.iconst X2.here hx rfl (hb hby d6_59) ?_
    refine XS.istore X2.here hx rfl (hb hby d6_60) rfl (l' := #[vR a0, vR a1, vR a2, vI p3, vI (0 : Int32), vJ (0 : Int64), .second, vI (0 : Int32)]) rfl ?_
    refine XS.iload X2.here hx rfl (hb hby d6_62) rfl ?_
    show Steps p.tables e below (T2.setTop (mkF m 64 #[vR a0, vR a1, vR a2, vI p3, vI (0 : Int32), vJ (0 : Int64), .second, vI (0 : Int32)] [(.int (0 : Int32))])) _
    refine XS.aloadN X2.here hx rfl (hb hby d6_64) rfl rfl ?_
    exact k)
  obtain ⟨cl4, Ar4, q4, S4, M4, H4, G4⟩ := id V3
  have pre5 : Go p.tables e below S0 T2 (mkF m 70 #[vR a0, vR a1, vR a2, vI p3, vI (0 : Int32), vJ (0 : Int64), .second, vI (0 : Int32)] [(.ref a0)]) := fun t k => pre3 t (by
    refine X2.arraylength hx (by rw [e2]; exact Ar4.1) (State.isArrayOf_alike hZ.alike Ar4.2.1) (g := (mkF m 65 #[vR a0, vR a1, vR a2, vI p3, vI (0 : Int32), vJ (0 : Int64), .second, vI (0 : Int32)] [(.ref a1), (.int (0 : Int32))])) rfl rfl (hb hby d6_65) _ ?_
    rw [len_of S4 M4]
    refine XS.icmpNo X2.here hx rfl (hb hby d6_66) rfl (tlt (by decide : (0 : Int32) < (5 : Int32))).2.1 ?_
    refine XS.aloadN X2.here hx rfl (hb hby d6_69) rfl rfl ?_
    show Steps p.tables e below (T2.setTop (mkF m 70 #[vR a0, vR a1, vR a2, vI p3, vI (0 : Int32), vJ (0 : Int64), .second, vI (0 : Int32)] [(.ref a0)])) _
    exact k)
  obtain ⟨T6, X6, e6, st6⟩ := getF X2 hx hZ hown (host := "") (Or.inl (hw _ (List.mem_of_getElem? (i := 22) rfl))) Via.refl e2 Fw (g := (mkF m 70 #[vR a0, vR a1, vR a2, vI p3, vI (0 : Int32), vJ (0 : Int64), .second, vI (0 : Int32)] [(.ref a0)])) rfl rfl (hb hby d6_70)
  have pre6 : Go p.tables e below S0 T6 (mkF m 73 #[vR a0, vR a1, vR a2, vI p3, vI (0 : Int32), vJ (0 : Int64), .second, vI (0 : Int32)] [(.ref aw)]) := fun t k => pre5 t (st6 t k)
  have pre7 : Go p.tables e below S0 T6 (mkF m 75 #[vR a0, vR a1, vR a2, vI p3, vI (0 : Int32), vJ (0 : Int64), .second, vI (0 : Int32)] [(.int (0 : Int32)), (.ref aw)]) := fun t k => pre6 t (by
    refine XS.iload X6.here hx rfl (hb hby d6_73) rfl ?_
    exact k)
  obtain ⟨cl8, Ar8, q8, S8, M8, H8, G8⟩ := id V1
  have in8 : ¬ ((0 : Int32) < 0 ∨ cl8.slots.size ≤ ((0 : Int32)).toNatClampNeg) := inb_of S8 ⟨by decide, by decide⟩
  have at8 : cl8.slots[((0 : Int32)).toNatClampNeg]? = some (.int (0 : Int32)) := H8.at in8 rfl
  have pre9 : Go p.tables e below S0 T6 (mkF m 106 #[vR a0, vR a1, vR a2, vI p3, vI (0 : Int32), vJ (0 : Int64), .second, vI (0 : Int32)] [(.int (0 : Int32)), (.ref a1), (.long (0 : Int64))]) := fun t k => pre7 t (by
    refine X6.iaload hx (j := (0 : Int32)) (v := (.int (0 : Int32))) (by rw [e6]; exact Ar8.1) (State.isArrayOf_alike hZ.alike Ar8.2.1) Ar8.2.2 in8 at8 (g := (mkF m 75 #[vR a0, vR a1, vR a2, vI p3, vI (0 : Int32), vJ (0 : Int64), .second, vI (0 : Int32)] [(.int (0 : Int32)), (.ref aw)])) rfl rfl (hb hby d6_75) _ ?_
    refine XS.iload X6.here hx rfl (hb hby d6_76) rfl ?_
    refine XS.icmpYes X6.here hx rfl (pc0 := 78) (pc' := 101) rfl (hb hby d6_78) rfl (teq (rfl : (0 : Int32) = (0 : Int32))).1 (by decide) (by decide) ?_
    show Steps p.tables e below (T6.setTop (mkF m 101 #[vR a0, vR a1, vR a2, vI p3, vI (0 : Int32), vJ (0 : Int64), .second, vI (0 : Int32)] [])) _
    refine XS.lload X6.here hx rfl (hb hby d6_101) rfl ?_
    refine XS.aloadN X6.here hx rfl (hb hby d6_103) rfl rfl ?_
    refine XS.iload X6.here hx rfl (hb hby d6_104) rfl ?_
    show Steps p.tables e below (T6.setTop (mkF m 106 #[vR a0, vR a1, vR a2, vI p3, vI (0 : Int32), vJ (0 : Int64), .second, vI (0 : Int32)] [(.int (0 : Int32)), (.ref a1), (.long (0 : Int64))])) _
    exact k)
  obtain ⟨cl10, Ar10, q10, S10, M10, H10, G10⟩ := id V3
  have in10 : ¬ ((0 : Int32) < 0 ∨ cl10.slots.size ≤ ((0 : Int32)).toNatClampNeg) := inb_of S10 ⟨by decide, by decide⟩
  have at10 : cl10.slots[((0 : Int32)).toNatClampNeg]? = some (.int y0) := H10.at in10 rfl
  have pre11 : Go p.tables e below S0 T6 (mkF m 109 #[vR a0, vR a1, vR a2, vI p3, vI (0 : Int32), vJ (0 : Int64), .second, vI (0 : Int32)] [(.ref a0), (.long (y0.toInt64)), (.long (0 : Int64))]) := fun t k => pre9 t (by
    refine X6.iaload hx (j := (0 : Int32)) (v := (.int y0)) (by rw [e6]; exact Ar10.1) (State.isArrayOf_alike hZ.alike Ar10.2.1) Ar10.2.2 in10 at10 (g := (mkF m 106 #[vR a0, vR a1, vR a2, vI p3, vI (0 : Int32), vJ (0 : Int64), .second, vI (0 : Int32)] [(.int (0 : Int32)), (.ref a1), (.long (0 : Int64))])) rfl rfl (hb hby d6_106) _ ?_
    refine XS.i2l X6.here hx rfl (hb hby d6_107) rfl ?_
    refine XS.aloadN X6.here hx rfl (hb hby d6_108) rfl rfl ?_
    show Steps p.tables e below (T6.setTop (mkF m 109 #[vR a0, vR a1, vR a2, vI p3, vI (0 : Int32), vJ (0 : Int64), .second, vI (0 : Int32)] [(.ref a0), (.long (y0.toInt64)), (.long (0 : Int64))])) _
    exact k)
  obtain ⟨T12, X12, e12, st12⟩ := getF X6 hx hZ hown (host := "") (Or.inl (hw _ (List.mem_of_getElem? (i := 24) rfl))) Via.refl e6 Fs (g := (mkF m 109 #[vR a0, vR a1, vR a2, vI p3, vI (0 : Int32), vJ (0 : Int64), .second, vI (0 : Int32)] [(.ref a0), (.long (y0.toInt64)), (.long (0 : Int64))])) rfl rfl (hb hby d6_109)
  have pre12 : Go p.tables e below S0 T12 (mkF m 112 #[vR a0, vR a1, vR a2, vI p3, vI (0 : Int32), vJ (0 : Int64), .second, vI (0 : Int32)] [(.ref as), (.long (y0.toInt64)), (.long (0 : Int64))]) := fun t k => pre11 t (st12 t k)
  have pre13 : Go p.tables e below S0 T12 (mkF m 114 #[vR a0, vR a1, vR a2, vI p3, vI (0 : Int32), vJ (0 : Int64), .second, vI (0 : Int32)] [(.int (0 : Int32)), (.ref as), (.long (y0.toInt64)), (.long (0 : Int64))]) := fun t k => pre12 t (by
    refine XS.iload X12.here hx rfl (hb hby d6_112) rfl ?_
    exact k)
  obtain ⟨cl14, Ar14, q14, S14, M14, H14, G14⟩ := id V2
  have in14 : ¬ ((0 : Int32) < 0 ∨ cl14.slots.size ≤ ((0 : Int32)).toNatClampNeg) := inb_of S14 ⟨by decide, by decide⟩
  have at14 : cl14.slots[((0 : Int32)).toNatClampNeg]? = some (.int u0) := H14.at in14 rfl
  obtain ⟨v15, hv15, pre15⟩ : ∃ z : Int64, z = ((0 : Int64) ||| ((y0.toInt64) <<< (u0 &&& 0x3f).toInt64)) ∧ Go p.tables e below S0 T12 (mkF m 119 #[vR a0, vR a1, vR a2, vI p3, vI (0 : Int32), vJ z, .second, vI (0 : Int32)] []) := ⟨_, rfl, fun t k => pre13 t (by
    refine X12.iaload hx (j := (0 : Int32)) (v := (.int u0)) (by rw [e12]; exact Ar14.1) (State.isArrayOf_alike hZ.alike Ar14.2.1) Ar14.2.2 in14 at14 (g := (mkF m 114 #[vR a0, vR a1, vR a2, vI p3, vI (0 : Int32), vJ (0 : Int64), .second, vI (0 : Int32)] [(.int (0 : Int32)), (.ref as), (.long (y0.toInt64)), (.long (0 : Int64))])) rfl rfl (hb hby d6_114) _ ?_
    refine XS.lshl X12.here hx rfl (hb hby d6_115) rfl ?_
    refine XS.lor X12.here hx rfl (hb hby d6_116) rfl ?_
    show Steps p.tables e below (T12.setTop (mkF m 117 #[vR a0, vR a1, vR a2, vI p3, vI (0 : Int32), vJ (0 : Int64), .second, vI (0 : Int32)] [(.long ((0 : Int64) ||| ((y0.toInt64) <<< (u0 &&& 0x3f).toInt64)))])) _
    refine XS.lstore X12.here hx rfl (hb hby d6_117) rfl (l' := #[vR a0, vR a1, vR a2, vI p3, vI (0 : Int32), vJ ((0 : Int64) ||| ((y0.toInt64) <<< (u0 &&& 0x3f).toInt64)), .second, vI (0 : Int32)]) rfl ?_
    exact k)⟩
  have pre16 : Go p.tables e below S0 T12 (mkF m 65 #[vR a0, vR a1, vR a2, vI p3, vI (0 : Int32), vJ v15, .second, vI (1 : Int32)] [(.ref a1), (.int (1 : Int32))]) := fun t k => pre15 t (by
    refine XS.iinc X12.here hx rfl (hb hby d6_119) rfl (l' := #[vR a0, vR a1, vR a2, vI p3, vI (0 : Int32), vJ v15, .second, vI (1 : Int32)]) rfl ?_
    refine XS.goto X12.here hx rfl (pc0 := 122) (pc' := 62) rfl (hb hby d6_122) (by decide) (by decide) ?_
    refine XS.iload X12.here hx rfl (hb hby d6_62) rfl ?_
    show Steps p.tables e below (T12.setTop (mkF m 64 #[vR a0, vR a1, vR a2, vI p3, vI (0 : Int32), vJ v15, .second, vI (1 : Int32)] [(.int (1 : Int32))])) _
    refine XS.aloadN X12.here hx rfl (hb hby d6_64) rfl rfl ?_
    exact k)
  obtain ⟨cl17, Ar17, q17, S17, M17, H17, G17⟩ := id V3
  have pre18 : Go p.tables e below S0 T12 (mkF m 70 #[vR a0, vR a1, vR a2, vI p3, vI (0 : Int32), vJ v15, .second, vI (1 : Int32)] [(.ref a0)]) := fun t k => pre16 t (by
    refine X12.arraylength hx (by rw [e12]; exact Ar17.1) (State.isArrayOf_alike hZ.alike Ar17.2.1) (g := (mkF m 65 #[vR a0, vR a1, vR a2, vI p3, vI (0 : Int32), vJ v15, .second, vI (1 : Int32)] [(.ref a1), (.int (1 : Int32))])) rfl rfl (hb hby d6_65) _ ?_
    rw [len_of S17 M17]
    refine XS.icmpNo X12.here hx rfl (hb hby d6_66) rfl (tlt (by decide : (1 : Int32) < (5 : Int32))).2.1 ?_
    refine XS.aloadN X12.here hx rfl (hb hby d6_69) rfl rfl ?_
    show Steps p.tables e below (T12.setTop (mkF m 70 #[vR a0, vR a1, vR a2, vI p3, vI (0 : Int32), vJ v15, .second, vI (1 : Int32)] [(.ref a0)])) _
    exact k)
  obtain ⟨T19, X19, e19, st19⟩ := getF X12 hx hZ hown (host := "") (Or.inl (hw _ (List.mem_of_getElem? (i := 22) rfl))) Via.refl e12 Fw (g := (mkF m 70 #[vR a0, vR a1, vR a2, vI p3, vI (0 : Int32), vJ v15, .second, vI (1 : Int32)] [(.ref a0)])) rfl rfl (hb hby d6_70)
  have pre19 : Go p.tables e below S0 T19 (mkF m 73 #[vR a0, vR a1, vR a2, vI p3, vI (0 : Int32), vJ v15, .second, vI (1 : Int32)] [(.ref aw)]) := fun t k => pre18 t (st19 t k)
  have pre20 : Go p.tables e below S0 T19 (mkF m 75 #[vR a0, vR a1, vR a2, vI p3, vI (0 : Int32), vJ v15, .second, vI (1 : Int32)] [(.int (1 : Int32)), (.ref aw)]) := fun t k => pre19 t (by
    refine XS.iload X19.here hx rfl (hb hby d6_73) rfl ?_
    exact k)
  obtain ⟨cl21, Ar21, q21, S21, M21, H21, G21⟩ := id V1
  have in21 : ¬ ((1 : Int32) < 0 ∨ cl21.slots.size ≤ ((1 : Int32)).toNatClampNeg) := inb_of S21 ⟨by decide, by decide⟩
  have at21 : cl21.slots[((1 : Int32)).toNatClampNeg]? = some (.int (0 : Int32)) := H21.at in21 rfl
  have pre22 : Go p.tables e below S0 T19 (mkF m 106 #[vR a0, vR a1, vR a2, vI p3, vI (0 : Int32), vJ v15, .second, vI (1 : Int32)] [(.int (1 : Int32)), (.ref a1), (.long v15)]) := fun t k => pre20 t (by
    refine X19.iaload hx (j := (1 : Int32)) (v := (.int (0 : Int32))) (by rw [e19]; exact Ar21.1) (State.isArrayOf_alike hZ.alike Ar21.2.1) Ar21.2.2 in21 at21 (g := (mkF m 75 #[vR a0, vR a1, vR a2, vI p3, vI (0 : Int32), vJ v15, .second, vI (1 : Int32)] [(.int (1 : Int32)), (.ref aw)])) rfl rfl (hb hby d6_75) _ ?_
    refine XS.iload X19.here hx rfl (hb hby d6_76) rfl ?_
    refine XS.icmpYes X19.here hx rfl (pc0 := 78) (pc' := 101) rfl (hb hby d6_78) rfl (teq (rfl : (0 : Int32) = (0 : Int32))).1 (by decide) (by decide) ?_
    show Steps p.tables e below (T19.setTop (mkF m 101 #[vR a0, vR a1, vR a2, vI p3, vI (0 : Int32), vJ v15, .second, vI (1 : Int32)] [])) _
    refine XS.lload X19.here hx rfl (hb hby d6_101) rfl ?_
    refine XS.aloadN X19.here hx rfl (hb hby d6_103) rfl rfl ?_
    refine XS.iload X19.here hx rfl (hb hby d6_104) rfl ?_
    show Steps p.tables e below (T19.setTop (mkF m 106 #[vR a0, vR a1, vR a2, vI p3, vI (0 : Int32), vJ v15, .second, vI (1 : Int32)] [(.int (1 : Int32)), (.ref a1), (.long v15)])) _
    exact k)
  obtain ⟨cl23, Ar23, q23, S23, M23, H23, G23⟩ := id V3
  have in23 : ¬ ((1 : Int32) < 0 ∨ cl23.slots.size ≤ ((1 : Int32)).toNatClampNeg) := inb_of S23 ⟨by decide, by decide⟩
  have at23 : cl23.slots[((1 : Int32)).toNatClampNeg]? = some (.int y1) := H23.at in23 rfl
  have pre24 : Go p.tables e below S0 T19 (mkF m 109 #[vR a0, vR a1, vR a2, vI p3, vI (0 : Int32), vJ v15, .second, vI (1 : Int32)] [(.ref a0), (.long (y1.toInt64)), (.long v15)]) := fun t k => pre22 t (by
    refine X19.iaload hx (j := (1 : Int32)) (v := (.int y1)) (by rw [e19]; exact Ar23.1) (State.isArrayOf_alike hZ.alike Ar23.2.1) Ar23.2.2 in23 at23 (g := (mkF m 106 #[vR a0, vR a1, vR a2, vI p3, vI (0 : Int32), vJ v15, .second, vI (1 : Int32)] [(.int (1 : Int32)), (.ref a1), (.long v15)])) rfl rfl (hb hby d6_106) _ ?_
    refine XS.i2l X19.here hx rfl (hb hby d6_107) rfl ?_
    refine XS.aloadN X19.here hx rfl (hb hby d6_108) rfl rfl ?_
    show Steps p.tables e below (T19.setTop (mkF m 109 #[vR a0, vR a1, vR a2, vI p3, vI (0 : Int32), vJ v15, .second, vI (1 : Int32)] [(.ref a0), (.long (y1.toInt64)), (.long v15)])) _
    exact k)
  obtain ⟨T25, X25, e25, st25⟩ := getF X19 hx hZ hown (host := "") (Or.inl (hw _ (List.mem_of_getElem? (i := 24) rfl))) Via.refl e19 Fs (g := (mkF m 109 #[vR a0, vR a1, vR a2, vI p3, vI (0 : Int32), vJ v15, .second, vI (1 : Int32)] [(.ref a0), (.long (y1.toInt64)), (.long v15)])) rfl rfl (hb hby d6_109)
  have pre25 : Go p.tables e below S0 T25 (mkF m 112 #[vR a0, vR a1, vR a2, vI p3, vI (0 : Int32), vJ v15, .second, vI (1 : Int32)] [(.ref as), (.long (y1.toInt64)), (.long v15)]) := fun t k => pre24 t (st25 t k)
  have pre26 : Go p.tables e below S0 T25 (mkF m 114 #[vR a0, vR a1, vR a2, vI p3, vI (0 : Int32), vJ v15, .second, vI (1 : Int32)] [(.int (1 : Int32)), (.ref as), (.long (y1.toInt64)), (.long v15)]) := fun t k => pre25 t (by
    refine XS.iload X25.here hx rfl (hb hby d6_112) rfl ?_
    exact k)
  obtain ⟨cl27, Ar27, q27, S27, M27, H27, G27⟩ := id V2
  have in27 : ¬ ((1 : Int32) < 0 ∨ cl27.slots.size ≤ ((1 : Int32)).toNatClampNeg) := inb_of S27 ⟨by decide, by decide⟩
  have at27 : cl27.slots[((1 : Int32)).toNatClampNeg]? = some (.int u1) := H27.at in27 rfl
  obtain ⟨v28, hv28, pre28⟩ : ∃ z : Int64, z = (v15 ||| ((y1.toInt64) <<< (u1 &&& 0x3f).toInt64)) ∧ Go p.tables e below S0 T25 (mkF m 119 #[vR a0, vR a1, vR a2, vI p3, vI (0 : Int32), vJ z, .second, vI (1 : Int32)] []) := ⟨_, rfl, fun t k => pre26 t (by
    refine X25.iaload hx (j := (1 : Int32)) (v := (.int u1)) (by rw [e25]; exact Ar27.1) (State.isArrayOf_alike hZ.alike Ar27.2.1) Ar27.2.2 in27 at27 (g := (mkF m 114 #[vR a0, vR a1, vR a2, vI p3, vI (0 : Int32), vJ v15, .second, vI (1 : Int32)] [(.int (1 : Int32)), (.ref as), (.long (y1.toInt64)), (.long v15)])) rfl rfl (hb hby d6_114) _ ?_
    refine XS.lshl X25.here hx rfl (hb hby d6_115) rfl ?_
    refine XS.lor X25.here hx rfl (hb hby d6_116) rfl ?_
    show Steps p.tables e below (T25.setTop (mkF m 117 #[vR a0, vR a1, vR a2, vI p3, vI (0 : Int32), vJ v15, .second, vI (1 : Int32)] [(.long (v15 ||| ((y1.toInt64) <<< (u1 &&& 0x3f).toInt64)))])) _
    refine XS.lstore X25.here hx rfl (hb hby d6_117) rfl (l' := #[vR a0, vR a1, vR a2, vI p3, vI (0 : Int32), vJ (v15 ||| ((y1.toInt64) <<< (u1 &&& 0x3f).toInt64)), .second, vI (1 : Int32)]) rfl ?_
    exact k)⟩
  have pre29 : Go p.tables e below S0 T25 (mkF m 65 #[vR a0, vR a1, vR a2, vI p3, vI (0 : Int32), vJ v28, .second, vI (2 : Int32)] [(.ref a1), (.int (2 : Int32))]) := fun t k => pre28 t (by
    refine XS.iinc X25.here hx rfl (hb hby d6_119) rfl (l' := #[vR a0, vR a1, vR a2, vI p3, vI (0 : Int32), vJ v28, .second, vI (2 : Int32)]) rfl ?_
    refine XS.goto X25.here hx rfl (pc0 := 122) (pc' := 62) rfl (hb hby d6_122) (by decide) (by decide) ?_
    refine XS.iload X25.here hx rfl (hb hby d6_62) rfl ?_
    show Steps p.tables e below (T25.setTop (mkF m 64 #[vR a0, vR a1, vR a2, vI p3, vI (0 : Int32), vJ v28, .second, vI (2 : Int32)] [(.int (2 : Int32))])) _
    refine XS.aloadN X25.here hx rfl (hb hby d6_64) rfl rfl ?_
    exact k)
  obtain ⟨cl30, Ar30, q30, S30, M30, H30, G30⟩ := id V3
  have pre31 : Go p.tables e below S0 T25 (mkF m 70 #[vR a0, vR a1, vR a2, vI p3, vI (0 : Int32), vJ v28, .second, vI (2 : Int32)] [(.ref a0)]) := fun t k => pre29 t (by
    refine X25.arraylength hx (by rw [e25]; exact Ar30.1) (State.isArrayOf_alike hZ.alike Ar30.2.1) (g := (mkF m 65 #[vR a0, vR a1, vR a2, vI p3, vI (0 : Int32), vJ v28, .second, vI (2 : Int32)] [(.ref a1), (.int (2 : Int32))])) rfl rfl (hb hby d6_65) _ ?_
    rw [len_of S30 M30]
    refine XS.icmpNo X25.here hx rfl (hb hby d6_66) rfl (tlt (by decide : (2 : Int32) < (5 : Int32))).2.1 ?_
    refine XS.aloadN X25.here hx rfl (hb hby d6_69) rfl rfl ?_
    show Steps p.tables e below (T25.setTop (mkF m 70 #[vR a0, vR a1, vR a2, vI p3, vI (0 : Int32), vJ v28, .second, vI (2 : Int32)] [(.ref a0)])) _
    exact k)
  obtain ⟨T32, X32, e32, st32⟩ := getF X25 hx hZ hown (host := "") (Or.inl (hw _ (List.mem_of_getElem? (i := 22) rfl))) Via.refl e25 Fw (g := (mkF m 70 #[vR a0, vR a1, vR a2, vI p3, vI (0 : Int32), vJ v28, .second, vI (2 : Int32)] [(.ref a0)])) rfl rfl (hb hby d6_70)
  have pre32 : Go p.tables e below S0 T32 (mkF m 73 #[vR a0, vR a1, vR a2, vI p3, vI (0 : Int32), vJ v28, .second, vI (2 : Int32)] [(.ref aw)]) := fun t k => pre31 t (st32 t k)
  have pre33 : Go p.tables e below S0 T32 (mkF m 75 #[vR a0, vR a1, vR a2, vI p3, vI (0 : Int32), vJ v28, .second, vI (2 : Int32)] [(.int (2 : Int32)), (.ref aw)]) := fun t k => pre32 t (by
    refine XS.iload X32.here hx rfl (hb hby d6_73) rfl ?_
    exact k)
  obtain ⟨cl34, Ar34, q34, S34, M34, H34, G34⟩ := id V1
  have in34 : ¬ ((2 : Int32) < 0 ∨ cl34.slots.size ≤ ((2 : Int32)).toNatClampNeg) := inb_of S34 ⟨by decide, by decide⟩
  have at34 : cl34.slots[((2 : Int32)).toNatClampNeg]? = some (.int (1 : Int32)) := H34.at in34 rfl
  have pre35 : Go p.tables e below S0 T32 (mkF m 88 #[vR a0, vR a1, vR a2, vI p3, vI (0 : Int32), vJ v28, .second, vI (2 : Int32)] [(.long v28), (.int (p3 + (0 : Int32))), (.ref a2)]) := fun t k => pre33 t (by
    refine X32.iaload hx (j := (2 : Int32)) (v := (.int (1 : Int32))) (by rw [e32]; exact Ar34.1) (State.isArrayOf_alike hZ.alike Ar34.2.1) Ar34.2.2 in34 at34 (g := (mkF m 75 #[vR a0, vR a1, vR a2, vI p3, vI (0 : Int32), vJ v28, .second, vI (2 : Int32)] [(.int (2 : Int32)), (.ref aw)])) rfl rfl (hb hby d6_75) _ ?_
    refine XS.iload X32.here hx rfl (hb hby d6_76) rfl ?_
    refine XS.icmpNo X32.here hx rfl (hb hby d6_78) rfl (feq (by decide : ¬ ((1 : Int32) = (0 : Int32)))).1 ?_
    show Steps p.tables e below (T32.setTop (mkF m 81 #[vR a0, vR a1, vR a2, vI p3, vI (0 : Int32), vJ v28, .second, vI (2 : Int32)] [])) _
    refine XS.aloadN X32.here hx rfl (hb hby d6_81) rfl rfl ?_
    refine XS.iloadN X32.here hx rfl (hb hby d6_82) rfl ?_
    refine XS.iload X32.here hx rfl (hb hby d6_83) rfl ?_
    show Steps p.tables e below (T32.setTop (mkF m 85 #[vR a0, vR a1, vR a2, vI p3, vI (0 : Int32), vJ v28, .second, vI (2 : Int32)] [(.int (0 : Int32)), (.int p3), (.ref a2)])) _
    refine XS.iadd X32.here hx rfl (hb hby d6_85) rfl ?_
    refine XS.lload X32.here hx rfl (hb hby d6_86) rfl ?_
    exact k)
  obtain ⟨cl36, Ar36, q36, S36, M36, H36, G36⟩ := id V4
  have in36 : ¬ ((p3 + (0 : Int32)) < 0 ∨ cl36.slots.size ≤ ((p3 + (0 : Int32))).toNatClampNeg) := inb_of S36 hin0
  obtain ⟨T36, h36, X36, e36, W36, st36⟩ := stJ X32 hx hZ e32 Ar36 (j := (p3 + (0 : Int32))) in36 (g := (mkF m 88 #[vR a0, vR a1, vR a2, vI p3, vI (0 : Int32), vJ v28, .second, vI (2 : Int32)] [(.long v28), (.int (p3 + (0 : Int32))), (.ref a2)])) rfl rfl (hb hby d6_88)
  have pre36 : Go p.tables e below S0 T36 (mkF m 89 #[vR a0, vR a1, vR a2, vI p3, vI (0 : Int32), vJ v28, .second, vI (2 : Int32)] []) := fun t k => pre35 t (st36 t k)
  obtain ⟨lo36, N36, X36⟩ : ∃ lo, Fr n0 lo ∧ Stand p l e ({ frames := 0, cells := 0, slots := 0, locals := 0 } : Room) s m #[(.ref a0), (.ref a1), (.ref a2), (.int p3)] below meth c T36 lo 0 0 := ⟨_, Fr.snoc X36 N0 g0, X36⟩
  have av36 : Arv Z h36 a2 k2 .long (6 : Int32) [(.long (own_putL (p3 + (0 : Int32)) (0 : Int32) v28 x0)), (.long (own_putL (p3 + (0 : Int32)) (1 : Int32) v28 x1)), (.long (own_putL (p3 + (0 : Int32)) (2 : Int32) v28 x2)), (.long (own_putL (p3 + (0 : Int32)) (3 : Int32) v28 x3)), (.long (own_putL (p3 + (0 : Int32)) (4 : Int32) v28 x4)), (.long (own_putL (p3 + (0 : Int32)) (5 : Int32) v28 x5))] (.long (0 : Int64)) := by
    have q := Arv.set Ar36 q36 S36 M36 H36 G36 rfl W36 _ rfl (own_setJ6 (w := 0) (x0 := 0) (x1 := 0) (x2 := 0) (x3 := 0) (x4 := 0) (x5 := 0) hin0).1
    rw [(own_setJ6 hin0).2] at q
    exact q
  have f37_1 := Fld.other W36 Fn (Or.inl xe0)
  have f37_2 := Fld.other W36 Fw (Or.inl xe0)
  have f37_3 := Fld.other W36 Fs (Or.inl xe0)
  have f37_4 := V1.other W36 xe1
  have f37_5 := V2.other W36 xe2
  have f37_6 := V3.other W36 xe3
  have zz38 : n0 ≤ h36.size := Nat.le_trans Z0 (Keep.of_wr W36).1
  have kp39 : Keep h0 h36 [a2] := kp0.wr W36 (Or.inl (List.mem_of_getElem? (i := 0) rfl))
  have pre40 : Go p.tables e below S0 T36 (mkF m 90 #[vR a0, vR a1, vR a2, vI p3, vI (0 : Int32), vJ v28, .second, vI (2 : Int32)] [(.ref a0)]) := fun t k => pre36 t (by
    refine XS.aloadN X36.here hx rfl (hb hby d6_89) rfl rfl ?_
    exact k)
  obtain ⟨T41, X41, e41, st41⟩ := getF X36 hx hZ hown (host := "") (Or.inl (hw _ (List.mem_of_getElem? (i := 22) rfl))) Via.refl e36 f37_2 (g := (mkF m 90 #[vR a0, vR a1, vR a2, vI p3, vI (0 : Int32), vJ v28, .second, vI (2 : Int32)] [(.ref a0)])) rfl rfl (hb hby d6_90)
  have pre41 : Go p.tables e below S0 T41 (mkF m 93 #[vR a0, vR a1, vR a2, vI p3, vI (0 : Int32), vJ v28, .second, vI (2 : Int32)] [(.ref aw)]) := fun t k => pre40 t (st41 t k)
  have pre42 : Go p.tables e below S0 T41 (mkF m 95 #[vR a0, vR a1, vR a2, vI p3, vI (0 : Int32), vJ v28, .second, vI (2 : Int32)] [(.int (2 : Int32)), (.ref aw)]) := fun t k => pre41 t (by
    refine XS.iload X41.here hx rfl (hb hby d6_93) rfl ?_
    exact k)
  obtain ⟨cl43, Ar43, q43, S43, M43, H43, G43⟩ := id f37_4
  have in43 : ¬ ((2 : Int32) < 0 ∨ cl43.slots.size ≤ ((2 : Int32)).toNatClampNeg) := inb_of S43 ⟨by decide, by decide⟩
  have at43 : cl43.slots[((2 : Int32)).toNatClampNeg]? = some (.int (1 : Int32)) := H43.at in43 rfl
  have pre44 : Go p.tables e below S0 T41 (mkF m 106 #[vR a0, vR a1, vR a2, vI p3, vI (1 : Int32), vJ (0 : Int64), .second, vI (2 : Int32)] [(.int (2 : Int32)), (.ref a1), (.long (0 : Int64))]) := fun t k => pre42 t (by
    refine X41.iaload hx (j := (2 : Int32)) (v := (.int (1 : Int32))) (by rw [e41]; exact Ar43.1) (State.isArrayOf_alike hZ.alike Ar43.2.1) Ar43.2.2 in43 at43 (g := (mkF m 95 #[vR a0, vR a1, vR a2, vI p3, vI (0 : Int32), vJ v28, .second, vI (2 : Int32)] [(.int (2 : Int32)), (.ref aw)])) rfl rfl (hb hby d6_95) _ ?_
    refine XS.istore X41.here hx rfl (hb hby d6_96) rfl (l' := #[vR a0, vR a1, vR a2, vI p3, vI (1 : Int32), vJ v28, .second, vI (2 : Int32)]) rfl ?_
    refine XS.lconst X41.here hx rfl (hb hby d6_98) ?_
    show Steps p.tables e below (T41.setTop (mkF m 99 #[vR a0, vR a1, vR a2, vI p3, vI (1 : Int32), vJ v28, .second, vI (2 : Int32)] [(.long (0 : Int64))])) _
    refine XS.lstore X41.here hx rfl (hb hby d6_99) rfl (l' := #[vR a0, vR a1, vR a2, vI p3, vI (1 : Int32), vJ (0 : Int64), .second, vI (2 : Int32)]) rfl ?_
    refine XS.lload X41.here hx rfl (hb hby d6_101) rfl ?_
    refine XS.aloadN X41.here hx rfl (hb hby d6_103) rfl rfl ?_
    show Steps p.tables e below (T41.setTop (mkF m 104 #[vR a0, vR a1, vR a2, vI p3, vI (1 : Int32), vJ (0 : Int64), .second, vI (2 : Int32)] [(.ref a1), (.long (0 : Int64))])) _
    refine XS.iload X41.here hx rfl (hb hby d6_104) rfl ?_
    exact k)
  obtain ⟨cl45, Ar45, q45, S45, M45, H45, G45⟩ := id f37_6
  have in45 : ¬ ((2 : Int32) < 0 ∨ cl45.slots.size ≤ ((2 : Int32)).toNatClampNeg) := inb_of S45 ⟨by decide, by decide⟩
  have at45 : cl45.slots[((2 : Int32)).toNatClampNeg]? = some (.int y2) := H45.at in45 rfl
  have pre46 : Go p.tables e below S0 T41 (mkF m 109 #[vR a0, vR a1, vR a2, vI p3, vI (1 : Int32), vJ (0 : Int64), .second, vI (2 : Int32)] [(.ref a0), (.long (y2.toInt64)), (.long (0 : Int64))]) := fun t k => pre44 t (by
    refine X41.iaload hx (j := (2 : Int32)) (v := (.int y2)) (by rw [e41]; exact Ar45.1) (State.isArrayOf_alike hZ.alike Ar45.2.1) Ar45.2.2 in45 at45 (g := (mkF m 106 #[vR a0, vR a1, vR a2, vI p3, vI (1 : Int32), vJ (0 : Int64), .second, vI (2 : Int32)] [(.int (2 : Int32)), (.ref a1), (.long (0 : Int64))])) rfl rfl (hb hby d6_106) _ ?_
    refine XS.i2l X41.here hx rfl (hb hby d6_107) rfl ?_
    refine XS.aloadN X41.here hx rfl (hb hby d6_108) rfl rfl ?_
    show Steps p.tables e below (T41.setTop (mkF m 109 #[vR a0, vR a1, vR a2, vI p3, vI (1 : Int32), vJ (0 : Int64), .second, vI (2 : Int32)] [(.ref a0), (.long (y2.toInt64)), (.long (0 : Int64))])) _
    exact k)
  obtain ⟨T47, X47, e47, st47⟩ := getF X41 hx hZ hown (host := "") (Or.inl (hw _ (List.mem_of_getElem? (i := 24) rfl))) Via.refl e41 f37_3 (g := (mkF m 109 #[vR a0, vR a1, vR a2, vI p3, vI (1 : Int32), vJ (0 : Int64), .second, vI (2 : Int32)] [(.ref a0), (.long (y2.toInt64)), (.long (0 : Int64))])) rfl rfl (hb hby d6_109)
  have pre47 : Go p.tables e below S0 T47 (mkF m 112 #[vR a0, vR a1, vR a2, vI p3, vI (1 : Int32), vJ (0 : Int64), .second, vI (2 : Int32)] [(.ref as), (.long (y2.toInt64)), (.long (0 : Int64))]) := fun t k => pre46 t (st47 t k)
  have pre48 : Go p.tables e below S0 T47 (mkF m 114 #[vR a0, vR a1, vR a2, vI p3, vI (1 : Int32), vJ (0 : Int64), .second, vI (2 : Int32)] [(.int (2 : Int32)), (.ref as), (.long (y2.toInt64)), (.long (0 : Int64))]) := fun t k => pre47 t (by
    refine XS.iload X47.here hx rfl (hb hby d6_112) rfl ?_
    exact k)
  obtain ⟨cl49, Ar49, q49, S49, M49, H49, G49⟩ := id f37_5
  have in49 : ¬ ((2 : Int32) < 0 ∨ cl49.slots.size ≤ ((2 : Int32)).toNatClampNeg) := inb_of S49 ⟨by decide, by decide⟩
  have at49 : cl49.slots[((2 : Int32)).toNatClampNeg]? = some (.int u2) := H49.at in49 rfl
  obtain ⟨v50, hv50, pre50⟩ : ∃ z : Int64, z = ((0 : Int64) ||| ((y2.toInt64) <<< (u2 &&& 0x3f).toInt64)) ∧ Go p.tables e below S0 T47 (mkF m 119 #[vR a0, vR a1, vR a2, vI p3, vI (1 : Int32), vJ z, .second, vI (2 : Int32)] []) := ⟨_, rfl, fun t k => pre48 t (by
    refine X47.iaload hx (j := (2 : Int32)) (v := (.int u2)) (by rw [e47]; exact Ar49.1) (State.isArrayOf_alike hZ.alike Ar49.2.1) Ar49.2.2 in49 at49 (g := (mkF m 114 #[vR a0, vR a1, vR a2, vI p3, vI (1 : Int32), vJ (0 : Int64), .second, vI (2 : Int32)] [(.int (2 : Int32)), (.ref as), (.long (y2.toInt64)), (.long (0 : Int64))])) rfl rfl (hb hby d6_114) _ ?_
    refine XS.lshl X47.here hx rfl (hb hby d6_115) rfl ?_
    refine XS.lor X47.here hx rfl (hb hby d6_116) rfl ?_
    show Steps p.tables e below (T47.setTop (mkF m 117 #[vR a0, vR a1, vR a2, vI p3, vI (1 : Int32), vJ (0 : Int64), .second, vI (2 : Int32)] [(.long ((0 : Int64) ||| ((y2.toInt64) <<< (u2 &&& 0x3f).toInt64)))])) _
    refine XS.lstore X47.here hx rfl (hb hby d6_117) rfl (l' := #[vR a0, vR a1, vR a2, vI p3, vI (1 : Int32), vJ ((0 : Int64) ||| ((y2.toInt64) <<< (u2 &&& 0x3f).toInt64)), .second, vI (2 : Int32)]) rfl ?_
    exact k)⟩
  have pre51 : Go p.tables e below S0 T47 (mkF m 65 #[vR a0, vR a1, vR a2, vI p3, vI (1 : Int32), vJ v50, .second, vI (3 : Int32)] [(.ref a1), (.int (3 : Int32))]) := fun t k => pre50 t (by
    refine XS.iinc X47.here hx rfl (hb hby d6_119) rfl (l' := #[vR a0, vR a1, vR a2, vI p3, vI (1 : Int32), vJ v50, .second, vI (3 : Int32)]) rfl ?_
    refine XS.goto X47.here hx rfl (pc0 := 122) (pc' := 62) rfl (hb hby d6_122) (by decide) (by decide) ?_
    refine XS.iload X47.here hx rfl (hb hby d6_62) rfl ?_
    show Steps p.tables e below (T47.setTop (mkF m 64 #[vR a0, vR a1, vR a2, vI p3, vI (1 : Int32), vJ v50, .second, vI (3 : Int32)] [(.int (3 : Int32))])) _
    refine XS.aloadN X47.here hx rfl (hb hby d6_64) rfl rfl ?_
    exact k)
  obtain ⟨cl52, Ar52, q52, S52, M52, H52, G52⟩ := id f37_6
  have pre53 : Go p.tables e below S0 T47 (mkF m 70 #[vR a0, vR a1, vR a2, vI p3, vI (1 : Int32), vJ v50, .second, vI (3 : Int32)] [(.ref a0)]) := fun t k => pre51 t (by
    refine X47.arraylength hx (by rw [e47]; exact Ar52.1) (State.isArrayOf_alike hZ.alike Ar52.2.1) (g := (mkF m 65 #[vR a0, vR a1, vR a2, vI p3, vI (1 : Int32), vJ v50, .second, vI (3 : Int32)] [(.ref a1), (.int (3 : Int32))])) rfl rfl (hb hby d6_65) _ ?_
    rw [len_of S52 M52]
    refine XS.icmpNo X47.here hx rfl (hb hby d6_66) rfl (tlt (by decide : (3 : Int32) < (5 : Int32))).2.1 ?_
    refine XS.aloadN X47.here hx rfl (hb hby d6_69) rfl rfl ?_
    show Steps p.tables e below (T47.setTop (mkF m 70 #[vR a0, vR a1, vR a2, vI p3, vI (1 : Int32), vJ v50, .second, vI (3 : Int32)] [(.ref a0)])) _
    exact k)
  obtain ⟨T54, X54, e54, st54⟩ := getF X47 hx hZ hown (host := "") (Or.inl (hw _ (List.mem_of_getElem? (i := 22) rfl))) Via.refl e47 f37_2 (g := (mkF m 70 #[vR a0, vR a1, vR a2, vI p3, vI (1 : Int32), vJ v50, .second, vI (3 : Int32)] [(.ref a0)])) rfl rfl (hb hby d6_70)
  have pre54 : Go p.tables e below S0 T54 (mkF m 73 #[vR a0, vR a1, vR a2, vI p3, vI (1 : Int32), vJ v50, .second, vI (3 : Int32)] [(.ref aw)]) := fun t k => pre53 t (st54 t k)
  have pre55 : Go p.tables e below S0 T54 (mkF m 75 #[vR a0, vR a1, vR a2, vI p3, vI (1 : Int32), vJ v50, .second, vI (3 : Int32)] [(.int (3 : Int32)), (.ref aw)]) := fun t k => pre54 t (by
    refine XS.iload X54.here hx rfl (hb hby d6_73) rfl ?_
    exact k)
  obtain ⟨cl56, Ar56, q56, S56, M56, H56, G56⟩ := id f37_4
  have in56 : ¬ ((3 : Int32) < 0 ∨ cl56.slots.size ≤ ((3 : Int32)).toNatClampNeg) := inb_of S56 ⟨by decide, by decide⟩
  have at56 : cl56.slots[((3 : Int32)).toNatClampNeg]? = some (.int (1 : Int32)) := H56.at in56 rfl
  have pre57 : Go p.tables e below S0 T54 (mkF m 106 #[vR a0, vR a1, vR a2, vI p3, vI (1 : Int32), vJ v50, .second, vI (3 : Int32)] [(.int (3 : Int32)), (.ref a1), (.long v50)]) := fun t k => pre55 t (by
    refine X54.iaload hx (j := (3 : Int32)) (v := (.int (1 : Int32))) (by rw [e54]; exact Ar56.1) (State.isArrayOf_alike hZ.alike Ar56.2.1) Ar56.2.2 in56 at56 (g := (mkF m 75 #[vR a0, vR a1, vR a2, vI p3, vI (1 : Int32), vJ v50, .second, vI (3 : Int32)] [(.int (3 : Int32)), (.ref aw)])) rfl rfl (hb hby d6_75) _ ?_
    refine XS.iload X54.here hx rfl (hb hby d6_76) rfl ?_
    refine XS.icmpYes X54.here hx rfl (pc0 := 78) (pc' := 101) rfl (hb hby d6_78) rfl (teq (rfl : (1 : Int32) = (1 : Int32))).1 (by decide) (by decide) ?_
    show Steps p.tables e below (T54.setTop (mkF m 101 #[vR a0, vR a1, vR a2, vI p3, vI (1 : Int32), vJ v50, .second, vI (3 : Int32)] [])) _
    refine XS.lload X54.here hx rfl (hb hby d6_101) rfl ?_
    refine XS.aloadN X54.here hx rfl (hb hby d6_103) rfl rfl ?_
    refine XS.iload X54.here hx rfl (hb hby d6_104) rfl ?_
    show Steps p.tables e below (T54.setTop (mkF m 106 #[vR a0, vR a1, vR a2, vI p3, vI (1 : Int32), vJ v50, .second, vI (3 : Int32)] [(.int (3 : Int32)), (.ref a1), (.long v50)])) _
    exact k)
  obtain ⟨cl58, Ar58, q58, S58, M58, H58, G58⟩ := id f37_6
  have in58 : ¬ ((3 : Int32) < 0 ∨ cl58.slots.size ≤ ((3 : Int32)).toNatClampNeg) := inb_of S58 ⟨by decide, by decide⟩
  have at58 : cl58.slots[((3 : Int32)).toNatClampNeg]? = some (.int y3) := H58.at in58 rfl
  have pre59 : Go p.tables e below S0 T54 (mkF m 109 #[vR a0, vR a1, vR a2, vI p3, vI (1 : Int32), vJ v50, .second, vI (3 : Int32)] [(.ref a0), (.long (y3.toInt64)), (.long v50)]) := fun t k => pre57 t (by
    refine X54.iaload hx (j := (3 : Int32)) (v := (.int y3)) (by rw [e54]; exact Ar58.1) (State.isArrayOf_alike hZ.alike Ar58.2.1) Ar58.2.2 in58 at58 (g := (mkF m 106 #[vR a0, vR a1, vR a2, vI p3, vI (1 : Int32), vJ v50, .second, vI (3 : Int32)] [(.int (3 : Int32)), (.ref a1), (.long v50)])) rfl rfl (hb hby d6_106) _ ?_
    refine XS.i2l X54.here hx rfl (hb hby d6_107) rfl ?_
    refine XS.aloadN X54.here hx rfl (hb hby d6_108) rfl rfl ?_
    show Steps p.tables e below (T54.setTop (mkF m 109 #[vR a0, vR a1, vR a2, vI p3, vI (1 : Int32), vJ v50, .second, vI (3 : Int32)] [(.ref a0), (.long (y3.toInt64)), (.long v50)])) _
    exact k)
  obtain ⟨T60, X60, e60, st60⟩ := getF X54 hx hZ hown (host := "") (Or.inl (hw _ (List.mem_of_getElem? (i := 24) rfl))) Via.refl e54 f37_3 (g := (mkF m 109 #[vR a0, vR a1, vR a2, vI p3, vI (1 : Int32), vJ v50, .second, vI (3 : Int32)] [(.ref a0), (.long (y3.toInt64)), (.long v50)])) rfl rfl (hb hby d6_109)
  have pre60 : Go p.tables e below S0 T60 (mkF m 112 #[vR a0, vR a1, vR a2, vI p3, vI (1 : Int32), vJ v50, .second, vI (3 : Int32)] [(.ref as), (.long (y3.toInt64)), (.long v50)]) := fun t k => pre59 t (st60 t k)
  have pre61 : Go p.tables e below S0 T60 (mkF m 114 #[vR a0, vR a1, vR a2, vI p3, vI (1 : Int32), vJ v50, .second, vI (3 : Int32)] [(.int (3 : Int32)), (.ref as), (.long (y3.toInt64)), (.long v50)]) := fun t k => pre60 t (by
    refine XS.iload X60.here hx rfl (hb hby d6_112) rfl ?_
    exact k)
  obtain ⟨cl62, Ar62, q62, S62, M62, H62, G62⟩ := id f37_5
  have in62 : ¬ ((3 : Int32) < 0 ∨ cl62.slots.size ≤ ((3 : Int32)).toNatClampNeg) := inb_of S62 ⟨by decide, by decide⟩
  have at62 : cl62.slots[((3 : Int32)).toNatClampNeg]? = some (.int u3) := H62.at in62 rfl
  obtain ⟨v63, hv63, pre63⟩ : ∃ z : Int64, z = (v50 ||| ((y3.toInt64) <<< (u3 &&& 0x3f).toInt64)) ∧ Go p.tables e below S0 T60 (mkF m 119 #[vR a0, vR a1, vR a2, vI p3, vI (1 : Int32), vJ z, .second, vI (3 : Int32)] []) := ⟨_, rfl, fun t k => pre61 t (by
    refine X60.iaload hx (j := (3 : Int32)) (v := (.int u3)) (by rw [e60]; exact Ar62.1) (State.isArrayOf_alike hZ.alike Ar62.2.1) Ar62.2.2 in62 at62 (g := (mkF m 114 #[vR a0, vR a1, vR a2, vI p3, vI (1 : Int32), vJ v50, .second, vI (3 : Int32)] [(.int (3 : Int32)), (.ref as), (.long (y3.toInt64)), (.long v50)])) rfl rfl (hb hby d6_114) _ ?_
    refine XS.lshl X60.here hx rfl (hb hby d6_115) rfl ?_
    refine XS.lor X60.here hx rfl (hb hby d6_116) rfl ?_
    show Steps p.tables e below (T60.setTop (mkF m 117 #[vR a0, vR a1, vR a2, vI p3, vI (1 : Int32), vJ v50, .second, vI (3 : Int32)] [(.long (v50 ||| ((y3.toInt64) <<< (u3 &&& 0x3f).toInt64)))])) _
    refine XS.lstore X60.here hx rfl (hb hby d6_117) rfl (l' := #[vR a0, vR a1, vR a2, vI p3, vI (1 : Int32), vJ (v50 ||| ((y3.toInt64) <<< (u3 &&& 0x3f).toInt64)), .second, vI (3 : Int32)]) rfl ?_
    exact k)⟩
  have pre64 : Go p.tables e below S0 T60 (mkF m 65 #[vR a0, vR a1, vR a2, vI p3, vI (1 : Int32), vJ v63, .second, vI (4 : Int32)] [(.ref a1), (.int (4 : Int32))]) := fun t k => pre63 t (by
    refine XS.iinc X60.here hx rfl (hb hby d6_119) rfl (l' := #[vR a0, vR a1, vR a2, vI p3, vI (1 : Int32), vJ v63, .second, vI (4 : Int32)]) rfl ?_
    refine XS.goto X60.here hx rfl (pc0 := 122) (pc' := 62) rfl (hb hby d6_122) (by decide) (by decide) ?_
    refine XS.iload X60.here hx rfl (hb hby d6_62) rfl ?_
    show Steps p.tables e below (T60.setTop (mkF m 64 #[vR a0, vR a1, vR a2, vI p3, vI (1 : Int32), vJ v63, .second, vI (4 : Int32)] [(.int (4 : Int32))])) _
    refine XS.aloadN X60.here hx rfl (hb hby d6_64) rfl rfl ?_
    exact k)
  obtain ⟨cl65, Ar65, q65, S65, M65, H65, G65⟩ := id f37_6
  have pre66 : Go p.tables e below S0 T60 (mkF m 70 #[vR a0, vR a1, vR a2, vI p3, vI (1 : Int32), vJ v63, .second, vI (4 : Int32)] [(.ref a0)]) := fun t k => pre64 t (by
    refine X60.arraylength hx (by rw [e60]; exact Ar65.1) (State.isArrayOf_alike hZ.alike Ar65.2.1) (g := (mkF m 65 #[vR a0, vR a1, vR a2, vI p3, vI (1 : Int32), vJ v63, .second, vI (4 : Int32)] [(.ref a1), (.int (4 : Int32))])) rfl rfl (hb hby d6_65) _ ?_
    rw [len_of S65 M65]
    refine XS.icmpNo X60.here hx rfl (hb hby d6_66) rfl (tlt (by decide : (4 : Int32) < (5 : Int32))).2.1 ?_
    refine XS.aloadN X60.here hx rfl (hb hby d6_69) rfl rfl ?_
    show Steps p.tables e below (T60.setTop (mkF m 70 #[vR a0, vR a1, vR a2, vI p3, vI (1 : Int32), vJ v63, .second, vI (4 : Int32)] [(.ref a0)])) _
    exact k)
  obtain ⟨T67, X67, e67, st67⟩ := getF X60 hx hZ hown (host := "") (Or.inl (hw _ (List.mem_of_getElem? (i := 22) rfl))) Via.refl e60 f37_2 (g := (mkF m 70 #[vR a0, vR a1, vR a2, vI p3, vI (1 : Int32), vJ v63, .second, vI (4 : Int32)] [(.ref a0)])) rfl rfl (hb hby d6_70)
  have pre67 : Go p.tables e below S0 T67 (mkF m 73 #[vR a0, vR a1, vR a2, vI p3, vI (1 : Int32), vJ v63, .second, vI (4 : Int32)] [(.ref aw)]) := fun t k => pre66 t (st67 t k)
  have pre68 : Go p.tables e below S0 T67 (mkF m 75 #[vR a0, vR a1, vR a2, vI p3, vI (1 : Int32), vJ v63, .second, vI (4 : Int32)] [(.int (4 : Int32)), (.ref aw)]) := fun t k => pre67 t (by
    refine XS.iload X67.here hx rfl (hb hby d6_73) rfl ?_
    exact k)
  obtain ⟨cl69, Ar69, q69, S69, M69, H69, G69⟩ := id f37_4
  have in69 : ¬ ((4 : Int32) < 0 ∨ cl69.slots.size ≤ ((4 : Int32)).toNatClampNeg) := inb_of S69 ⟨by decide, by decide⟩
  have at69 : cl69.slots[((4 : Int32)).toNatClampNeg]? = some (.int (1 : Int32)) := H69.at in69 rfl
  have pre70 : Go p.tables e below S0 T67 (mkF m 106 #[vR a0, vR a1, vR a2, vI p3, vI (1 : Int32), vJ v63, .second, vI (4 : Int32)] [(.int (4 : Int32)), (.ref a1), (.long v63)]) := fun t k => pre68 t (by
    refine X67.iaload hx (j := (4 : Int32)) (v := (.int (1 : Int32))) (by rw [e67]; exact Ar69.1) (State.isArrayOf_alike hZ.alike Ar69.2.1) Ar69.2.2 in69 at69 (g := (mkF m 75 #[vR a0, vR a1, vR a2, vI p3, vI (1 : Int32), vJ v63, .second, vI (4 : Int32)] [(.int (4 : Int32)), (.ref aw)])) rfl rfl (hb hby d6_75) _ ?_
    refine XS.iload X67.here hx rfl (hb hby d6_76) rfl ?_
    refine XS.icmpYes X67.here hx rfl (pc0 := 78) (pc' := 101) rfl (hb hby d6_78) rfl (teq (rfl : (1 : Int32) = (1 : Int32))).1 (by decide) (by decide) ?_
    show Steps p.tables e below (T67.setTop (mkF m 101 #[vR a0, vR a1, vR a2, vI p3, vI (1 : Int32), vJ v63, .second, vI (4 : Int32)] [])) _
    refine XS.lload X67.here hx rfl (hb hby d6_101) rfl ?_
    refine XS.aloadN X67.here hx rfl (hb hby d6_103) rfl rfl ?_
    refine XS.iload X67.here hx rfl (hb hby d6_104) rfl ?_
    show Steps p.tables e below (T67.setTop (mkF m 106 #[vR a0, vR a1, vR a2, vI p3, vI (1 : Int32), vJ v63, .second, vI (4 : Int32)] [(.int (4 : Int32)), (.ref a1), (.long v63)])) _
    exact k)
  obtain ⟨cl71, Ar71, q71, S71, M71, H71, G71⟩ := id f37_6
  have in71 : ¬ ((4 : Int32) < 0 ∨ cl71.slots.size ≤ ((4 : Int32)).toNatClampNeg) := inb_of S71 ⟨by decide, by decide⟩
  have at71 : cl71.slots[((4 : Int32)).toNatClampNeg]? = some (.int y4) := H71.at in71 rfl
  have pre72 : Go p.tables e below S0 T67 (mkF m 109 #[vR a0, vR a1, vR a2, vI p3, vI (1 : Int32), vJ v63, .second, vI (4 : Int32)] [(.ref a0), (.long (y4.toInt64)), (.long v63)]) := fun t k => pre70 t (by
    refine X67.iaload hx (j := (4 : Int32)) (v := (.int y4)) (by rw [e67]; exact Ar71.1) (State.isArrayOf_alike hZ.alike Ar71.2.1) Ar71.2.2 in71 at71 (g := (mkF m 106 #[vR a0, vR a1, vR a2, vI p3, vI (1 : Int32), vJ v63, .second, vI (4 : Int32)] [(.int (4 : Int32)), (.ref a1), (.long v63)])) rfl rfl (hb hby d6_106) _ ?_
    refine XS.i2l X67.here hx rfl (hb hby d6_107) rfl ?_
    refine XS.aloadN X67.here hx rfl (hb hby d6_108) rfl rfl ?_
    show Steps p.tables e below (T67.setTop (mkF m 109 #[vR a0, vR a1, vR a2, vI p3, vI (1 : Int32), vJ v63, .second, vI (4 : Int32)] [(.ref a0), (.long (y4.toInt64)), (.long v63)])) _
    exact k)
  obtain ⟨T73, X73, e73, st73⟩ := getF X67 hx hZ hown (host := "") (Or.inl (hw _ (List.mem_of_getElem? (i := 24) rfl))) Via.refl e67 f37_3 (g := (mkF m 109 #[vR a0, vR a1, vR a2, vI p3, vI (1 : Int32), vJ v63, .second, vI (4 : Int32)] [(.ref a0), (.long (y4.toInt64)), (.long v63)])) rfl rfl (hb hby d6_109)
  have pre73 : Go p.tables e below S0 T73 (mkF m 112 #[vR a0, vR a1, vR a2, vI p3, vI (1 : Int32), vJ v63, .second, vI (4 : Int32)] [(.ref as), (.long (y4.toInt64)), (.long v63)]) := fun t k => pre72 t (st73 t k)
  have pre74 : Go p.tables e below S0 T73 (mkF m 114 #[vR a0, vR a1, vR a2, vI p3, vI (1 : Int32), vJ v63, .second, vI (4 : Int32)] [(.int (4 : Int32)), (.ref as), (.long (y4.toInt64)), (.long v63)]) := fun t k => pre73 t (by
    refine XS.iload X73.here hx rfl (hb hby d6_112) rfl ?_
    exact k)
  obtain ⟨cl75, Ar75, q75, S75, M75, H75, G75⟩ := id f37_5
  have in75 : ¬ ((4 : Int32) < 0 ∨ cl75.slots.size ≤ ((4 : Int32)).toNatClampNeg) := inb_of S75 ⟨by decide, by decide⟩
  have at75 : cl75.slots[((4 : Int32)).toNatClampNeg]? = some (.int u4) := H75.at in75 rfl
  obtain ⟨v76, hv76, pre76⟩ : ∃ z : Int64, z = (v63 ||| ((y4.toInt64) <<< (u4 &&& 0x3f).toInt64)) ∧ Go p.tables e below S0 T73 (mkF m 119 #[vR a0, vR a1, vR a2, vI p3, vI (1 : Int32), vJ z, .second, vI (4 : Int32)] []) := ⟨_, rfl, fun t k => pre74 t (by
    refine X73.iaload hx (j := (4 : Int32)) (v := (.int u4)) (by rw [e73]; exact Ar75.1) (State.isArrayOf_alike hZ.alike Ar75.2.1) Ar75.2.2 in75 at75 (g := (mkF m 114 #[vR a0, vR a1, vR a2, vI p3, vI (1 : Int32), vJ v63, .second, vI (4 : Int32)] [(.int (4 : Int32)), (.ref as), (.long (y4.toInt64)), (.long v63)])) rfl rfl (hb hby d6_114) _ ?_
    refine XS.lshl X73.here hx rfl (hb hby d6_115) rfl ?_
    refine XS.lor X73.here hx rfl (hb hby d6_116) rfl ?_
    show Steps p.tables e below (T73.setTop (mkF m 117 #[vR a0, vR a1, vR a2, vI p3, vI (1 : Int32), vJ v63, .second, vI (4 : Int32)] [(.long (v63 ||| ((y4.toInt64) <<< (u4 &&& 0x3f).toInt64)))])) _
    refine XS.lstore X73.here hx rfl (hb hby d6_117) rfl (l' := #[vR a0, vR a1, vR a2, vI p3, vI (1 : Int32), vJ (v63 ||| ((y4.toInt64) <<< (u4 &&& 0x3f).toInt64)), .second, vI (4 : Int32)]) rfl ?_
    exact k)⟩
  have pre77 : Go p.tables e below S0 T73 (mkF m 65 #[vR a0, vR a1, vR a2, vI p3, vI (1 : Int32), vJ v76, .second, vI (5 : Int32)] [(.ref a1), (.int (5 : Int32))]) := fun t k => pre76 t (by
    refine XS.iinc X73.here hx rfl (hb hby d6_119) rfl (l' := #[vR a0, vR a1, vR a2, vI p3, vI (1 : Int32), vJ v76, .second, vI (5 : Int32)]) rfl ?_
    refine XS.goto X73.here hx rfl (pc0 := 122) (pc' := 62) rfl (hb hby d6_122) (by decide) (by decide) ?_
    refine XS.iload X73.here hx rfl (hb hby d6_62) rfl ?_
    show Steps p.tables e below (T73.setTop (mkF m 64 #[vR a0, vR a1, vR a2, vI p3, vI (1 : Int32), vJ v76, .second, vI (5 : Int32)] [(.int (5 : Int32))])) _
    refine XS.aloadN X73.here hx rfl (hb hby d6_64) rfl rfl ?_
    exact k)
  obtain ⟨cl78, Ar78, q78, S78, M78, H78, G78⟩ := id f37_6
  have pre79 : Go p.tables e below S0 T73 (mkF m 132 #[vR a0, vR a1, vR a2, vI p3, vI (1 : Int32), vJ v76, .second, vI (5 : Int32)] [(.long v76), (.int (p3 + (1 : Int32))), (.ref a2)]) := fun t k => pre77 t (by
    refine X73.arraylength hx (by rw [e73]; exact Ar78.1) (State.isArrayOf_alike hZ.alike Ar78.2.1) (g := (mkF m 65 #[vR a0, vR a1, vR a2, vI p3, vI (1 : Int32), vJ v76, .second, vI (5 : Int32)] [(.ref a1), (.int (5 : Int32))])) rfl rfl (hb hby d6_65) _ ?_
    rw [len_of S78 M78]
    refine XS.icmpYes X73.here hx rfl (pc0 := 66) (pc' := 125) rfl (hb hby d6_66) rfl (flt (by decide : ¬ ((5 : Int32) < (5 : Int32)))).2.1 (by decide) (by decide) ?_
    refine XS.aloadN X73.here hx rfl (hb hby d6_125) rfl rfl ?_
    show Steps p.tables e below (T73.setTop (mkF m 126 #[vR a0, vR a1, vR a2, vI p3, vI (1 : Int32), vJ v76, .second, vI (5 : Int32)] [(.ref a2)])) _
    refine XS.iloadN X73.here hx rfl (hb hby d6_126) rfl ?_
    refine XS.iload X73.here hx rfl (hb hby d6_127) rfl ?_
    refine XS.iadd X73.here hx rfl (hb hby d6_129) rfl ?_
    show Steps p.tables e below (T73.setTop (mkF m 130 #[vR a0, vR a1, vR a2, vI p3, vI (1 : Int32), vJ v76, .second, vI (5 : Int32)] [(.int (p3 + (1 : Int32))), (.ref a2)])) _
    refine XS.lload X73.here hx rfl (hb hby d6_130) rfl ?_
    exact k)
  obtain ⟨cl80, Ar80, q80, S80, M80, H80, G80⟩ := id av36
  have in80 : ¬ ((p3 + (1 : Int32)) < 0 ∨ cl80.slots.size ≤ ((p3 + (1 : Int32))).toNatClampNeg) := inb_of S80 hin1
  obtain ⟨T80, h80, X80, e80, W80, st80⟩ := stJ X73 hx hZ e73 Ar80 (j := (p3 + (1 : Int32))) in80 (g := (mkF m 132 #[vR a0, vR a1, vR a2, vI p3, vI (1 : Int32), vJ v76, .second, vI (5 : Int32)] [(.long v76), (.int (p3 + (1 : Int32))), (.ref a2)])) rfl rfl (hb hby d6_132)
  have pre80 : Go p.tables e below S0 T80 (mkF m 133 #[vR a0, vR a1, vR a2, vI p3, vI (1 : Int32), vJ v76, .second, vI (5 : Int32)] []) := fun t k => pre79 t (st80 t k)
  obtain ⟨lo80, N80, X80⟩ : ∃ lo, Fr n0 lo ∧ Stand p l e ({ frames := 0, cells := 0, slots := 0, locals := 0 } : Room) s m #[(.ref a0), (.ref a1), (.ref a2), (.int p3)] below meth c T80 lo 0 0 := ⟨_, Fr.snoc X80 N36 g0, X80⟩
  have av80 : Arv Z h80 a2 k2 .long (6 : Int32) [(.long (own_putL (p3 + (1 : Int32)) (0 : Int32) v76 (own_putL (p3 + (0 : Int32)) (0 : Int32) v28 x0))), (.long (own_putL (p3 + (1 : Int32)) (1 : Int32) v76 (own_putL (p3 + (0 : Int32)) (1 : Int32) v28 x1))), (.long (own_putL (p3 + (1 : Int32)) (2 : Int32) v76 (own_putL (p3 + (0 : Int32)) (2 : Int32) v28 x2))), (.long (own_putL (p3 + (1 : Int32)) (3 : Int32) v76 (own_putL (p3 + (0 : Int32)) (3 : Int32) v28 x3))), (.long (own_putL (p3 + (1 : Int32)) (4 : Int32) v76 (own_putL (p3 + (0 : Int32)) (4 : Int32) v28 x4))), (.long (own_putL (p3 + (1 : Int32)) (5 : Int32) v76 (own_putL (p3 + (0 : Int32)) (5 : Int32) v28 x5)))] (.long (0 : Int64)) := by
    have q := Arv.set Ar80 q80 S80 M80 H80 G80 rfl W80 _ rfl (own_setJ6 (w := 0) (x0 := 0) (x1 := 0) (x2 := 0) (x3 := 0) (x4 := 0) (x5 := 0) hin1).1
    rw [(own_setJ6 hin1).2] at q
    exact q
  have f81_1 := Fld.other W80 f37_1 (Or.inl xe0)
  have f81_2 := Fld.other W80 f37_2 (Or.inl xe0)
  have f81_3 := Fld.other W80 f37_3 (Or.inl xe0)
  have f81_4 := f37_4.other W80 xe1
  have f81_5 := f37_5.other W80 xe2
  have f81_6 := f37_6.other W80 xe3
  have zz82 : n0 ≤ h80.size := Nat.le_trans zz38 (Keep.of_wr W80).1
  have kp83 : Keep h0 h80 [a2] := kp39.wr W80 (Or.inl (List.mem_of_getElem? (i := 0) rfl))
  obtain ⟨fs, hr, hrun, hended, hW, hsame⟩ := X80.leave (v := none) (fun _ => rfl)
  exact ⟨_, _, pre80.fin hS0 (X80.returnOut hx Bd.returns (hb hby d6_133) hr), hrun, hended, _, _, rfl, (by
    show Q6_00111 Z a0 a1 a2 p3 aw as kw ks k1 k2 u0 u1 u2 u3 u4 y0 y1 y2 y3 y4 x0 x1 x2 x3 x4 x5 h0 n0 _ T80.heap _
    rw [e80]
    subst hv76 hv63 hv50 hv28 hv15
    exact ⟨rfl, N80, _, _, _, _, _, _, ⟨rfl, rfl, rfl, rfl, rfl, rfl⟩, kp83, av80⟩), ⟨_, rfl⟩, hW, hsame.mono (by decide) (by decide)⟩
theorem ef_6_00112 (m : MethodId) (x0 : Addr) (x1 : Addr) (x2 : Addr) (x3 : Int32) : entryFrame m #[(.ref x0), (.ref x1), (.ref x2), (.int x3)] 8 = mkF m 0 #[.val (.ref x0), .val (.ref x1), .val (.ref x2), .val (.int x3), .unset, .unset, .unset, .unset] [] := by first | (simp [entryFrame, mkF, argsToLocals, Value.category]; done) | rfl
def Q6_00112 (Z : State) (a0 a1 a2 : Addr) (p3 : Int32) (aw as : Addr) (kw ks k1 k2 : ClassId) (u0 u1 u2 u3 u4 y0 y1 y2 y3 y4 : Int32) (x0 x1 x2 x3 x4 x5 : Int64) (h0 : Heap) (n0 : Nat) (v : Option Value) (h : Heap) (L : List Loc) : Prop := v = none ∧ Fr n0 L ∧ ∃ (z0 z1 z2 z3 z4 z5 : Int64), (z0 = (own_putL (p3 + (2 : Int32)) (0 : Int32) ((0 : Int64) ||| ((y4.toInt64) <<< (u4 &&& 0x3f).toInt64)) (own_putL (p3 + (1 : Int32)) (0 : Int32) (((0 : Int64) ||| ((y2.toInt64) <<< (u2 &&& 0x3f).toInt64)) ||| ((y3.toInt64) <<< (u3 &&& 0x3f).toInt64)) (own_putL (p3 + (0 : Int32)) (0 : Int32) (((0 : Int64) ||| ((y0.toInt64) <<< (u0 &&& 0x3f).toInt64)) ||| ((y1.toInt64) <<< (u1 &&& 0x3f).toInt64)) x0))) ∧ z1 = (own_putL (p3 + (2 : Int32)) (1 : Int32) ((0 : Int64) ||| ((y4.toInt64) <<< (u4 &&& 0x3f).toInt64)) (own_putL (p3 + (1 : Int32)) (1 : Int32) (((0 : Int64) ||| ((y2.toInt64) <<< (u2 &&& 0x3f).toInt64)) ||| ((y3.toInt64) <<< (u3 &&& 0x3f).toInt64)) (own_putL (p3 + (0 : Int32)) (1 : Int32) (((0 : Int64) ||| ((y0.toInt64) <<< (u0 &&& 0x3f).toInt64)) ||| ((y1.toInt64) <<< (u1 &&& 0x3f).toInt64)) x1))) ∧ z2 = (own_putL (p3 + (2 : Int32)) (2 : Int32) ((0 : Int64) ||| ((y4.toInt64) <<< (u4 &&& 0x3f).toInt64)) (own_putL (p3 + (1 : Int32)) (2 : Int32) (((0 : Int64) ||| ((y2.toInt64) <<< (u2 &&& 0x3f).toInt64)) ||| ((y3.toInt64) <<< (u3 &&& 0x3f).toInt64)) (own_putL (p3 + (0 : Int32)) (2 : Int32) (((0 : Int64) ||| ((y0.toInt64) <<< (u0 &&& 0x3f).toInt64)) ||| ((y1.toInt64) <<< (u1 &&& 0x3f).toInt64)) x2))) ∧ z3 = (own_putL (p3 + (2 : Int32)) (3 : Int32) ((0 : Int64) ||| ((y4.toInt64) <<< (u4 &&& 0x3f).toInt64)) (own_putL (p3 + (1 : Int32)) (3 : Int32) (((0 : Int64) ||| ((y2.toInt64) <<< (u2 &&& 0x3f).toInt64)) ||| ((y3.toInt64) <<< (u3 &&& 0x3f).toInt64)) (own_putL (p3 + (0 : Int32)) (3 : Int32) (((0 : Int64) ||| ((y0.toInt64) <<< (u0 &&& 0x3f).toInt64)) ||| ((y1.toInt64) <<< (u1 &&& 0x3f).toInt64)) x3))) ∧ z4 = (own_putL (p3 + (2 : Int32)) (4 : Int32) ((0 : Int64) ||| ((y4.toInt64) <<< (u4 &&& 0x3f).toInt64)) (own_putL (p3 + (1 : Int32)) (4 : Int32) (((0 : Int64) ||| ((y2.toInt64) <<< (u2 &&& 0x3f).toInt64)) ||| ((y3.toInt64) <<< (u3 &&& 0x3f).toInt64)) (own_putL (p3 + (0 : Int32)) (4 : Int32) (((0 : Int64) ||| ((y0.toInt64) <<< (u0 &&& 0x3f).toInt64)) ||| ((y1.toInt64) <<< (u1 &&& 0x3f).toInt64)) x4))) ∧ z5 = (own_putL (p3 + (2 : Int32)) (5 : Int32) ((0 : Int64) ||| ((y4.toInt64) <<< (u4 &&& 0x3f).toInt64)) (own_putL (p3 + (1 : Int32)) (5 : Int32) (((0 : Int64) ||| ((y2.toInt64) <<< (u2 &&& 0x3f).toInt64)) ||| ((y3.toInt64) <<< (u3 &&& 0x3f).toInt64)) (own_putL (p3 + (0 : Int32)) (5 : Int32) (((0 : Int64) ||| ((y0.toInt64) <<< (u0 &&& 0x3f).toInt64)) ||| ((y1.toInt64) <<< (u1 &&& 0x3f).toInt64)) x5)))) ∧ Keep h0 h [a2] ∧ (Arv Z h a2 k2 .long (6 : Int32) [(.long z0), (.long z1), (.long z2), (.long z3), (.long z4), (.long z5)] (.long (0 : Int64)))
set_option maxRecDepth 65536 in
set_option maxHeartbeats 40000000 in
theorem rm6_00112 (l : Launch) (Z : State) (A0 : Array Value) (hw : ∀ d ∈ tables_1, d.before A0 Z = true) (ws : List Jvm.Cond) (a0 : Addr) (a1 : Addr) (a2 : Addr) (p3 : Int32) (aw as : Addr) (kw ks k1 k2 : ClassId) (u0 u1 u2 u3 u4 y0 y1 y2 y3 y4 : Int32) (x0 x1 x2 x3 x4 x5 : Int64) (h0 : Heap) (n0 : Nat) (Z0 : n0 ≤ h0.size) (Fn : Fld Z h0 a0 "com/example/garantia/garantia/engine/StateLayout" "words" "I" (.int (3 : Int32))) (Fw : Fld Z h0 a0 "com/example/garantia/garantia/engine/StateLayout" "word" "[I" (.ref aw)) (Fs : Fld Z h0 a0 "com/example/garantia/garantia/engine/StateLayout" "shift" "[I" (.ref as)) (V1 : Arv Z h0 aw kw .int (5 : Int32) [(.int (0 : Int32)), (.int (0 : Int32)), (.int (1 : Int32)), (.int (1 : Int32)), (.int (2 : Int32))] (.int (0 : Int32))) (V2 : Arv Z h0 as ks .int (5 : Int32) [(.int u0), (.int u1), (.int u2), (.int u3), (.int u4)] (.int (0 : Int32))) (V3 : Arv Z h0 a1 k1 .int (5 : Int32) [(.int y0), (.int y1), (.int y2), (.int y3), (.int y4)] (.int (0 : Int32))) (V4 : Arv Z h0 a2 k2 .long (6 : Int32) [(.long x0), (.long x1), (.long x2), (.long x3), (.long x4), (.long x5)] (.long (0 : Int64))) (xe0 : a0 ≠ a2) (xe1 : aw ≠ a2) (xe2 : as ≠ a2) (xe3 : a1 ≠ a2) (g0 : n0 ≤ a2) (hin0 : ¬ (p3 + (0 : Int32)) < 0 ∧ (p3 + (0 : Int32)) < (6 : Int32)) (hin1 : ¬ (p3 + (1 : Int32)) < 0 ∧ (p3 + (1 : Int32)) < (6 : Int32)) (hin2 : ¬ (p3 + (2 : Int32)) < 0 ∧ (p3 + (2 : Int32)) < (6 : Int32)) :
    MetFree l (⟨"com/example/garantia/garantia/engine/StateLayout", "pack", "([I[JI)V"⟩ : MethodName) (head1 (Jvm.Cond.code (⟨"com/example/garantia/garantia/engine/StateLayout", "pack", "([I[JI)V"⟩ : MethodName) prog_46_method_4_code 8 none :: ws) ({ frames := 0, cells := 0, slots := 0, locals := 0 } : Room)) (fun a U => a = #[(.ref a0), (.ref a1), (.ref a2), (.int p3)] ∧ Z.Warmed39 U.vm ∧ U.heap = h0) (fun _ _ _ _ _ => True) (fun _ U o U' => ∃ v L, o = .returned v ∧ Q6_00112 Z a0 a1 a2 p3 aw as kw ks k1 k2 u0 u1 u2 u3 u4 y0 y1 y2 y3 y4 x0 x1 x2 x3 x4 x5 h0 n0 v U'.heap L ∧ FrameEnd U o U' L ({ frames := 0, cells := 0, slots := 0, locals := 0 } : Room).cells ({ frames := 0, cells := 0, slots := 0, locals := 0 } : Room).slots) := by
  refine MetFree.of_bodySF (plainFor_of_name pn_1) hisR ?_
  intro p e s m args below meth c s₁ Bd hml0 hP hK
  obtain ⟨rfl, hZ, hh⟩ := hP
  have hx := Bd.exec
  have hby := Bd.bytes
  have hml : c.maxLocals = 8 := hml0
  have hown : s.vm.findClass "com/example/garantia/garantia/engine/StateLayout" = some m.cls := findClass_of_methodNamed Bd.named
  have hnm := (name_of_methodNamed Bd.named Bd.method).1
  have X0 : Stand p l e ({ frames := 0, cells := 0, slots := 0, locals := 0 } : Room) s m #[(.ref a0), (.ref a1), (.ref a2), (.int p3)] below meth c s₁ [] 0 0 := Stand.of_body Bd
  have e0 : s₁.heap = h0 := by rw [← hh, Bd.state]; rfl
  have N0 := Fr.nil n0
  have kp0 : Keep h0 h0 [a2] := Keep.refl _ _
  obtain ⟨S0, hS0⟩ : ∃ z, z = s₁.setTop (entryFrame m #[(.ref a0), (.ref a1), (.ref a2), (.int p3)] 8) := ⟨_, rfl⟩
  have pre0 : Go p.tables e below S0 s₁ (mkF m 0 #[vR a0, vR a1, vR a2, vI p3, .unset, .unset, .unset, .unset] []) := fun t k => by rw [hS0]; exact castTop (ef_6_00112 m a0 a1 a2 p3) k
  have pre1 : Go p.tables e below S0 s₁ (mkF m 1 #[vR a0, vR a1, vR a2, vI p3, .unset, .unset, .unset, .unset] [(.ref a0)]) := fun t k => pre0 t (by
    refine XS.aloadN X0.here hx rfl (hb hby d6_0) rfl rfl ?_
    exact k)
  obtain ⟨T2, X2, e2, st2⟩ := getF X0 hx hZ hown (host := "") (Or.inl (hw _ (List.mem_of_getElem? (i := 31) rfl))) Via.refl e0 Fn (g := (mkF m 1 #[vR a0, vR a1, vR a2, vI p3, .unset, .unset, .unset, .unset] [(.ref a0)])) rfl rfl (hb hby d6_1)
  have pre2 : Go p.tables e below S0 T2 (mkF m 4 #[vR a0, vR a1, vR a2, vI p3, .unset, .unset, .unset, .unset] [(.int (3 : Int32))]) := fun t k => pre1 t (st2 t k)
  have pre3 : Go p.tables e below S0 T2 (mkF m 65 #[vR a0, vR a1, vR a2, vI p3, vI (0 : Int32), vJ (0 : Int64), .second, vI (0 : Int32)] [(.ref a1), (.int (0 : Int32))]) := fun t k => pre2 t (by
    refine XS.iconst X2.here hx rfl (hb hby d6_4) ?_
    refine XS.icmpYes X2.here hx rfl (pc0 := 5) (pc' := 53) rfl (hb hby d6_5) rfl (feq (by decide : ¬ ((3 : Int32) = (1 : Int32)))).2 (by decide) (by decide) ?_
    refine XS.iconst X2.here hx rfl (hb hby d6_53) ?_
    show Steps p.tables e below (T2.setTop (mkF m 54 #[vR a0, vR a1, vR a2, vI p3, .unset, .unset, .unset, .unset] [(.int (0 : Int32))])) _
    refine XS.istore X2.here hx rfl (hb hby d6_54) rfl (l' := #[vR a0, vR a1, vR a2, vI p3, vI (0 : Int32), .unset, .unset, .unset]) rfl ?_
    refine XS.lconst X2.here hx rfl (hb hby d6_56) ?_
    refine XS.lstore X2.here hx rfl (hb hby d6_57) rfl (l' := #[vR a0, vR a1, vR a2, vI p3, vI (0 : Int32), vJ (0 : Int64), .second, .unset]) rfl ?_
    show Steps p.tables e below (T2.setTop (mkF m 59 #[vR a0, vR a1, vR a2, vI p3, vI (0 : Int32), vJ (0 : Int64), .second, .unset] [])) _
    refine XS.iconst X2.here hx rfl (hb hby d6_59) ?_
    refine XS.istore X2.here hx rfl (hb hby d6_60) rfl (l' := #[vR a0, vR a1, vR a2, vI p3, vI (0 : Int32), vJ (0 : Int64), .second, vI (0 : Int32)]) rfl ?_
    refine XS.iload X2.here hx rfl (hb hby d6_62) rfl ?_
    show Steps p.tables e below (T2.setTop (mkF m 64 #[vR a0, vR a1, vR a2, vI p3, vI (0 : Int32), vJ (0 : Int64), .second, vI (0 : Int32)] [(.int (0 : Int32))])) _
    refine XS.aloadN X2.here hx rfl (hb hby d6_64) rfl rfl ?_
    exact k)
  obtain ⟨cl4, Ar4, q4, S4, M4, H4, G4⟩ := id V3
  have pre5 : Go p.tables e below S0 T2 (mkF m 70 #[vR a0, vR a1, vR a2, vI p3, vI (0 : Int32), vJ (0 : Int64), .second, vI (0 : Int32)] [(.ref a0)]) := fun t k => pre3 t (by
    refine X2.arraylength hx (by rw [e2]; exact Ar4.1) (State.isArrayOf_alike hZ.alike Ar4.2.1) (g := (mkF m 65 #[vR a0, vR a1, vR a2, vI p3, vI (0 : Int32), vJ (0 : Int64), .second, vI (0 : Int32)] [(.ref a1), (.int (0 : Int32))])) rfl rfl (hb hby d6_65) _ ?_
    rw [len_of S4 M4]
    refine XS.icmpNo X2.here hx rfl (hb hby d6_66) rfl (tlt (by decide : (0 : Int32) < (5 : Int32))).2.1 ?_
    refine XS.aloadN X2.here hx rfl (hb hby d6_69) rfl rfl ?_
    show Steps p.tables e below (T2.setTop (mkF m 70 #[vR a0, vR a1, vR a2, vI p3, vI (0 : Int32), vJ (0 : Int64), .second, vI (0 : Int32)] [(.ref a0)])) _
    exact k)
  obtain ⟨T6, X6, e6, st6⟩ := getF X2 hx hZ hown (host := "") (Or.inl (hw _ (List.mem_of_getElem? (i := 22) rfl))) Via.refl e2 Fw (g := (mkF m 70 #[vR a0, vR a1, vR a2, vI p3, vI (0 : Int32), vJ (0 : Int64), .second, vI (0 : Int32)] [(.ref a0)])) rfl rfl (hb hby d6_70)
  have pre6 : Go p.tables e below S0 T6 (mkF m 73 #[vR a0, vR a1, vR a2, vI p3, vI (0 : Int32), vJ (0 : Int64), .second, vI (0 : Int32)] [(.ref aw)]) := fun t k => pre5 t (st6 t k)
  have pre7 : Go p.tables e below S0 T6 (mkF m 75 #[vR a0, vR a1, vR a2, vI p3, vI (0 : Int32), vJ (0 : Int64), .second, vI (0 : Int32)] [(.int (0 : Int32)), (.ref aw)]) := fun t k => pre6 t (by
    refine XS.iload X6.here hx rfl (hb hby d6_73) rfl ?_
    exact k)
  obtain ⟨cl8, Ar8, q8, S8, M8, H8, G8⟩ := id V1
  have in8 : ¬ ((0 : Int32) < 0 ∨ cl8.slots.size ≤ ((0 : Int32)).toNatClampNeg) := inb_of S8 ⟨by decide, by decide⟩
  have at8 : cl8.slots[((0 : Int32)).toNatClampNeg]? = some (.int (0 : Int32)) := H8.at in8 rfl
  have pre9 : Go p.tables e below S0 T6 (mkF m 106 #[vR a0, vR a1, vR a2, vI p3, vI (0 : Int32), vJ (0 : Int64), .second, vI (0 : Int32)] [(.int (0 : Int32)), (.ref a1), (.long (0 : Int64))]) := fun t k => pre7 t (by
    refine X6.iaload hx (j := (0 : Int32)) (v := (.int (0 : Int32))) (by rw [e6]; exact Ar8.1) (State.isArrayOf_alike hZ.alike Ar8.2.1) Ar8.2.2 in8 at8 (g := (mkF m 75 #[vR a0, vR a1, vR a2, vI p3, vI (0 : Int32), vJ (0 : Int64), .second, vI (0 : Int32)] [(.int (0 : Int32)), (.ref aw)])) rfl rfl (hb hby d6_75) _ ?_
    refine XS.iload X6.here hx rfl (hb hby d6_76) rfl ?_
    refine XS.icmpYes X6.here hx rfl (pc0 := 78) (pc' := 101) rfl (hb hby d6_78) rfl (teq (rfl : (0 : Int32) = (0 : Int32))).1 (by decide) (by decide) ?_
    show Steps p.tables e below (T6.setTop (mkF m 101 #[vR a0, vR a1, vR a2, vI p3, vI (0 : Int32), vJ (0 : Int64), .second, vI (0 : Int32)] [])) _
    refine XS.lload X6.here hx rfl (hb hby d6_101) rfl ?_
    refine XS.aloadN X6.here hx rfl (hb hby d6_103) rfl rfl ?_
    refine XS.iload X6.here hx rfl (hb hby d6_104) rfl ?_
    show Steps p.tables e below (T6.setTop (mkF m 106 #[vR a0, vR a1, vR a2, vI p3, vI (0 : Int32), vJ (0 : Int64), .second, vI (0 : Int32)] [(.int (0 : Int32)), (.ref a1), (.long (0 : Int64))])) _
    exact k)
  obtain ⟨cl10, Ar10, q10, S10, M10, H10, G10⟩ := id V3
  have in10 : ¬ ((0 : Int32) < 0 ∨ cl10.slots.size ≤ ((0 : Int32)).toNatClampNeg) := inb_of S10 ⟨by decide, by decide⟩
  have at10 : cl10.slots[((0 : Int32)).toNatClampNeg]? = some (.int y0) := H10.at in10 rfl
  have pre11 : Go p.tables e below S0 T6 (mkF m 109 #[vR a0, vR a1, vR a2, vI p3, vI (0 : Int32), vJ (0 : Int64), .second, vI (0 : Int32)] [(.ref a0), (.long (y0.toInt64)), (.long (0 : Int64))]) := fun t k => pre9 t (by
    refine X6.iaload hx (j := (0 : Int32)) (v := (.int y0)) (by rw [e6]; exact Ar10.1) (State.isArrayOf_alike hZ.alike Ar10.2.1) Ar10.2.2 in10 at10 (g := (mkF m 106 #[vR a0, vR a1, vR a2, vI p3, vI (0 : Int32), vJ (0 : Int64), .second, vI (0 : Int32)] [(.int (0 : Int32)), (.ref a1), (.long (0 : Int64))])) rfl rfl (hb hby d6_106) _ ?_
    refine XS.i2l X6.here hx rfl (hb hby d6_107) rfl ?_
    refine XS.aloadN X6.here hx rfl (hb hby d6_108) rfl rfl ?_
    show Steps p.tables e below (T6.setTop (mkF m 109 #[vR a0, vR a1, vR a2, vI p3, vI (0 : Int32), vJ (0 : Int64), .second, vI (0 : Int32)] [(.ref a0), (.long (y0.toInt64)), (.long (0 : Int64))])) _
    exact k)
  obtain ⟨T12, X12, e12, st12⟩ := getF X6 hx hZ hown (host := "") (Or.inl (hw _ (List.mem_of_getElem? (i := 24) rfl))) Via.refl e6 Fs (g := (mkF m 109 #[vR a0, vR a1, vR a2, vI p3, vI (0 : Int32), vJ (0 : Int64), .second, vI (0 : Int32)] [(.ref a0), (.long (y0.toInt64)), (.long (0 : Int64))])) rfl rfl (hb hby d6_109)
  have pre12 : Go p.tables e below S0 T12 (mkF m 112 #[vR a0, vR a1, vR a2, vI p3, vI (0 : Int32), vJ (0 : Int64), .second, vI (0 : Int32)] [(.ref as), (.long (y0.toInt64)), (.long (0 : Int64))]) := fun t k => pre11 t (st12 t k)
  have pre13 : Go p.tables e below S0 T12 (mkF m 114 #[vR a0, vR a1, vR a2, vI p3, vI (0 : Int32), vJ (0 : Int64), .second, vI (0 : Int32)] [(.int (0 : Int32)), (.ref as), (.long (y0.toInt64)), (.long (0 : Int64))]) := fun t k => pre12 t (by
    refine XS.iload X12.here hx rfl (hb hby d6_112) rfl ?_
    exact k)
  obtain ⟨cl14, Ar14, q14, S14, M14, H14, G14⟩ := id V2
  have in14 : ¬ ((0 : Int32) < 0 ∨ cl14.slots.size ≤ ((0 : Int32)).toNatClampNeg) := inb_of S14 ⟨by decide, by decide⟩
  have at14 : cl14.slots[((0 : Int32)).toNatClampNeg]? = some (.int u0) := H14.at in14 rfl
  obtain ⟨v15, hv15, pre15⟩ : ∃ z : Int64, z = ((0 : Int64) ||| ((y0.toInt64) <<< (u0 &&& 0x3f).toInt64)) ∧ Go p.tables e below S0 T12 (mkF m 119 #[vR a0, vR a1, vR a2, vI p3, vI (0 : Int32), vJ z, .second, vI (0 : Int32)] []) := ⟨_, rfl, fun t k => pre13 t (by
    refine X12.iaload hx (j := (0 : Int32)) (v := (.int u0)) (by rw [e12]; exact Ar14.1) (State.isArrayOf_alike hZ.alike Ar14.2.1) Ar14.2.2 in14 at14 (g := (mkF m 114 #[vR a0, vR a1, vR a2, vI p3, vI (0 : Int32), vJ (0 : Int64), .second, vI (0 : Int32)] [(.int (0 : Int32)), (.ref as), (.long (y0.toInt64)), (.long (0 : Int64))])) rfl rfl (hb hby d6_114) _ ?_
    refine XS.lshl X12.here hx rfl (hb hby d6_115) rfl ?_
    refine XS.lor X12.here hx rfl (hb hby d6_116) rfl ?_
    show Steps p.tables e below (T12.setTop (mkF m 117 #[vR a0, vR a1, vR a2, vI p3, vI (0 : Int32), vJ (0 : Int64), .second, vI (0 : Int32)] [(.long ((0 : Int64) ||| ((y0.toInt64) <<< (u0 &&& 0x3f).toInt64)))])) _
    refine XS.lstore X12.here hx rfl (hb hby d6_117) rfl (l' := #[vR a0, vR a1, vR a2, vI p3, vI (0 : Int32), vJ ((0 : Int64) ||| ((y0.toInt64) <<< (u0 &&& 0x3f).toInt64)), .second, vI (0 : Int32)]) rfl ?_
    exact k)⟩
  have pre16 : Go p.tables e below S0 T12 (mkF m 65 #[vR a0, vR a1, vR a2, vI p3, vI (0 : Int32), vJ v15, .second, vI (1 : Int32)] [(.ref a1), (.int (1 : Int32))]) := fun t k => pre15 t (by
    refine XS.iinc X12.here hx rfl (hb hby d6_119) rfl (l' := #[vR a0, vR a1, vR a2, vI p3, vI (0 : Int32), vJ v15, .second, vI (1 : Int32)]) rfl ?_
    refine XS.goto X12.here hx rfl (pc0 := 122) (pc' := 62) rfl (hb hby d6_122) (by decide) (by decide) ?_
    refine XS.iload X12.here hx rfl (hb hby d6_62) rfl ?_
    show Steps p.tables e below (T12.setTop (mkF m 64 #[vR a0, vR a1, vR a2, vI p3, vI (0 : Int32), vJ v15, .second, vI (1 : Int32)] [(.int (1 : Int32))])) _
    refine XS.aloadN X12.here hx rfl (hb hby d6_64) rfl rfl ?_
    exact k)
  obtain ⟨cl17, Ar17, q17, S17, M17, H17, G17⟩ := id V3
  have pre18 : Go p.tables e below S0 T12 (mkF m 70 #[vR a0, vR a1, vR a2, vI p3, vI (0 : Int32), vJ v15, .second, vI (1 : Int32)] [(.ref a0)]) := fun t k => pre16 t (by
    refine X12.arraylength hx (by rw [e12]; exact Ar17.1) (State.isArrayOf_alike hZ.alike Ar17.2.1) (g := (mkF m 65 #[vR a0, vR a1, vR a2, vI p3, vI (0 : Int32), vJ v15, .second, vI (1 : Int32)] [(.ref a1), (.int (1 : Int32))])) rfl rfl (hb hby d6_65) _ ?_
    rw [len_of S17 M17]
    refine XS.icmpNo X12.here hx rfl (hb hby d6_66) rfl (tlt (by decide : (1 : Int32) < (5 : Int32))).2.1 ?_
    refine XS.aloadN X12.here hx rfl (hb hby d6_69) rfl rfl ?_
    show Steps p.tables e below (T12.setTop (mkF m 70 #[vR a0, vR a1, vR a2, vI p3, vI (0 : Int32), vJ v15, .second, vI (1 : Int32)] [(.ref a0)])) _
    exact k)
  obtain ⟨T19, X19, e19, st19⟩ := getF X12 hx hZ hown (host := "") (Or.inl (hw _ (List.mem_of_getElem? (i := 22) rfl))) Via.refl e12 Fw (g := (mkF m 70 #[vR a0, vR a1, vR a2, vI p3, vI (0 : Int32), vJ v15, .second, vI (1 : Int32)] [(.ref a0)])) rfl rfl (hb hby d6_70)
  have pre19 : Go p.tables e below S0 T19 (mkF m 73 #[vR a0, vR a1, vR a2, vI p3, vI (0 : Int32), vJ v15, .second, vI (1 : Int32)] [(.ref aw)]) := fun t k => pre18 t (st19 t k)
  have pre20 : Go p.tables e below S0 T19 (mkF m 75 #[vR a0, vR a1, vR a2, vI p3, vI (0 : Int32), vJ v15, .second, vI (1 : Int32)] [(.int (1 : Int32)), (.ref aw)]) := fun t k => pre19 t (by
    refine XS.iload X19.here hx rfl (hb hby d6_73) rfl ?_
    exact k)
  obtain ⟨cl21, Ar21, q21, S21, M21, H21, G21⟩ := id V1
  have in21 : ¬ ((1 : Int32) < 0 ∨ cl21.slots.size ≤ ((1 : Int32)).toNatClampNeg) := inb_of S21 ⟨by decide, by decide⟩
  have at21 : cl21.slots[((1 : Int32)).toNatClampNeg]? = some (.int (0 : Int32)) := H21.at in21 rfl
  have pre22 : Go p.tables e below S0 T19 (mkF m 106 #[vR a0, vR a1, vR a2, vI p3, vI (0 : Int32), vJ v15, .second, vI (1 : Int32)] [(.int (1 : Int32)), (.ref a1), (.long v15)]) := fun t k => pre20 t (by
    refine X19.iaload hx (j := (1 : Int32)) (v := (.int (0 : Int32))) (by rw [e19]; exact Ar21.1) (State.isArrayOf_alike hZ.alike Ar21.2.1) Ar21.2.2 in21 at21 (g := (mkF m 75 #[vR a0, vR a1, vR a2, vI p3, vI (0 : Int32), vJ v15, .second, vI (1 : Int32)] [(.int (1 : Int32)), (.ref aw)])) rfl rfl (hb hby d6_75) _ ?_
    refine XS.iload X19.here hx rfl (hb hby d6_76) rfl ?_
    refine XS.icmpYes X19.here hx rfl (pc0 := 78) (pc' := 101) rfl (hb hby d6_78) rfl (teq (rfl : (0 : Int32) = (0 : Int32))).1 (by decide) (by decide) ?_
    show Steps p.tables e below (T19.setTop (mkF m 101 #[vR a0, vR a1, vR a2, vI p3, vI (0 : Int32), vJ v15, .second, vI (1 : Int32)] [])) _
    refine XS.lload X19.here hx rfl (hb hby d6_101) rfl ?_
    refine XS.aloadN X19.here hx rfl (hb hby d6_103) rfl rfl ?_
    refine XS.iload X19.here hx rfl (hb hby d6_104) rfl ?_
    show Steps p.tables e below (T19.setTop (mkF m 106 #[vR a0, vR a1, vR a2, vI p3, vI (0 : Int32), vJ v15, .second, vI (1 : Int32)] [(.int (1 : Int32)), (.ref a1), (.long v15)])) _
    exact k)
  obtain ⟨cl23, Ar23, q23, S23, M23, H23, G23⟩ := id V3
  have in23 : ¬ ((1 : Int32) < 0 ∨ cl23.slots.size ≤ ((1 : Int32)).toNatClampNeg) := inb_of S23 ⟨by decide, by decide⟩
  have at23 : cl23.slots[((1 : Int32)).toNatClampNeg]? = some (.int y1) := H23.at in23 rfl
  have pre24 : Go p.tables e below S0 T19 (mkF m 109 #[vR a0, vR a1, vR a2, vI p3, vI (0 : Int32), vJ v15, .second, vI (1 : Int32)] [(.ref a0), (.long (y1.toInt64)), (.long v15)]) := fun t k => pre22 t (by
    refine X19.iaload hx (j := (1 : Int32)) (v := (.int y1)) (by rw [e19]; exact Ar23.1) (State.isArrayOf_alike hZ.alike Ar23.2.1) Ar23.2.2 in23 at23 (g := (mkF m 106 #[vR a0, vR a1, vR a2, vI p3, vI (0 : Int32), vJ v15, .second, vI (1 : Int32)] [(.int (1 : Int32)), (.ref a1), (.long v15)])) rfl rfl (hb hby d6_106) _ ?_
    refine XS.i2l X19.here hx rfl (hb hby d6_107) rfl ?_
    refine XS.aloadN X19.here hx rfl (hb hby d6_108) rfl rfl ?_
    show Steps p.tables e below (T19.setTop (mkF m 109 #[vR a0, vR a1, vR a2, vI p3, vI (0 : Int32), vJ v15, .second, vI (1 : Int32)] [(.ref a0), (.long (y1.toInt64)), (.long v15)])) _
    exact k)
  obtain ⟨T25, X25, e25, st25⟩ := getF X19 hx hZ hown (host := "") (Or.inl (hw _ (List.mem_of_getElem? (i := 24) rfl))) Via.refl e19 Fs (g := (mkF m 109 #[vR a0, vR a1, vR a2, vI p3, vI (0 : Int32), vJ v15, .second, vI (1 : Int32)] [(.ref a0), (.long (y1.toInt64)), (.long v15)])) rfl rfl (hb hby d6_109)
  have pre25 : Go p.tables e below S0 T25 (mkF m 112 #[vR a0, vR a1, vR a2, vI p3, vI (0 : Int32), vJ v15, .second, vI (1 : Int32)] [(.ref as), (.long (y1.toInt64)), (.long v15)]) := fun t k => pre24 t (st25 t k)
  have pre26 : Go p.tables e below S0 T25 (mkF m 114 #[vR a0, vR a1, vR a2, vI p3, vI (0 : Int32), vJ v15, .second, vI (1 : Int32)] [(.int (1 : Int32)), (.ref as), (.long (y1.toInt64)), (.long v15)]) := fun t k => pre25 t (by
    refine XS.iload X25.here hx rfl (hb hby d6_112) rfl ?_
    exact k)
  obtain ⟨cl27, Ar27, q27, S27, M27, H27, G27⟩ := id V2
  have in27 : ¬ ((1 : Int32) < 0 ∨ cl27.slots.size ≤ ((1 : Int32)).toNatClampNeg) := inb_of S27 ⟨by decide, by decide⟩
  have at27 : cl27.slots[((1 : Int32)).toNatClampNeg]? = some (.int u1) := H27.at in27 rfl
  obtain ⟨v28, hv28, pre28⟩ : ∃ z : Int64, z = (v15 ||| ((y1.toInt64) <<< (u1 &&& 0x3f).toInt64)) ∧ Go p.tables e below S0 T25 (mkF m 119 #[vR a0, vR a1, vR a2, vI p3, vI (0 : Int32), vJ z, .second, vI (1 : Int32)] []) := ⟨_, rfl, fun t k => pre26 t (by
    refine X25.iaload hx (j := (1 : Int32)) (v := (.int u1)) (by rw [e25]; exact Ar27.1) (State.isArrayOf_alike hZ.alike Ar27.2.1) Ar27.2.2 in27 at27 (g := (mkF m 114 #[vR a0, vR a1, vR a2, vI p3, vI (0 : Int32), vJ v15, .second, vI (1 : Int32)] [(.int (1 : Int32)), (.ref as), (.long (y1.toInt64)), (.long v15)])) rfl rfl (hb hby d6_114) _ ?_
    refine XS.lshl X25.here hx rfl (hb hby d6_115) rfl ?_
    refine XS.lor X25.here hx rfl (hb hby d6_116) rfl ?_
    show Steps p.tables e below (T25.setTop (mkF m 117 #[vR a0, vR a1, vR a2, vI p3, vI (0 : Int32), vJ v15, .second, vI (1 : Int32)] [(.long (v15 ||| ((y1.toInt64) <<< (u1 &&& 0x3f).toInt64)))])) _
    refine XS.lstore X25.here hx rfl (hb hby d6_117) rfl (l' := #[vR a0, vR a1, vR a2, vI p3, vI (0 : Int32), vJ (v15 ||| ((y1.toInt64) <<< (u1 &&& 0x3f).toInt64)), .second, vI (1 : Int32)]) rfl ?_
    exact k)⟩
  have pre29 : Go p.tables e below S0 T25 (mkF m 65 #[vR a0, vR a1, vR a2, vI p3, vI (0 : Int32), vJ v28, .second, vI (2 : Int32)] [(.ref a1), (.int (2 : Int32))]) := fun t k => pre28 t (by
    refine XS.iinc X25.here hx rfl (hb hby d6_119) rfl (l' := #[vR a0, vR a1, vR a2, vI p3, vI (0 : Int32), vJ v28, .second, vI (2 : Int32)]) rfl ?_
    refine XS.goto X25.here hx rfl (pc0 := 122) (pc' := 62) rfl (hb hby d6_122) (by decide) (by decide) ?_
    refine XS.iload X25.here hx rfl (hb hby d6_62) rfl ?_
    show Steps p.tables e below (T25.setTop (mkF m 64 #[vR a0, vR a1, vR a2, vI p3, vI (0 : Int32), vJ v28, .second, vI (2 : Int32)] [(.int (2 : Int32))])) _
    refine XS.aloadN X25.here hx rfl (hb hby d6_64) rfl rfl ?_
    exact k)
  obtain ⟨cl30, Ar30, q30, S30, M30, H30, G30⟩ := id V3
  have pre31 : Go p.tables e below S0 T25 (mkF m 70 #[vR a0, vR a1, vR a2, vI p3, vI (0 : Int32), vJ v28, .second, vI (2 : Int32)] [(.ref a0)]) := fun t k => pre29 t (by
    refine X25.arraylength hx (by rw [e25]; exact Ar30.1) (State.isArrayOf_alike hZ.alike Ar30.2.1) (g := (mkF m 65 #[vR a0, vR a1, vR a2, vI p3, vI (0 : Int32), vJ v28, .second, vI (2 : Int32)] [(.ref a1), (.int (2 : Int32))])) rfl rfl (hb hby d6_65) _ ?_
    rw [len_of S30 M30]
    refine XS.icmpNo X25.here hx rfl (hb hby d6_66) rfl (tlt (by decide : (2 : Int32) < (5 : Int32))).2.1 ?_
    refine XS.aloadN X25.here hx rfl (hb hby d6_69) rfl rfl ?_
    show Steps p.tables e below (T25.setTop (mkF m 70 #[vR a0, vR a1, vR a2, vI p3, vI (0 : Int32), vJ v28, .second, vI (2 : Int32)] [(.ref a0)])) _
    exact k)
  obtain ⟨T32, X32, e32, st32⟩ := getF X25 hx hZ hown (host := "") (Or.inl (hw _ (List.mem_of_getElem? (i := 22) rfl))) Via.refl e25 Fw (g := (mkF m 70 #[vR a0, vR a1, vR a2, vI p3, vI (0 : Int32), vJ v28, .second, vI (2 : Int32)] [(.ref a0)])) rfl rfl (hb hby d6_70)
  have pre32 : Go p.tables e below S0 T32 (mkF m 73 #[vR a0, vR a1, vR a2, vI p3, vI (0 : Int32), vJ v28, .second, vI (2 : Int32)] [(.ref aw)]) := fun t k => pre31 t (st32 t k)
  have pre33 : Go p.tables e below S0 T32 (mkF m 75 #[vR a0, vR a1, vR a2, vI p3, vI (0 : Int32), vJ v28, .second, vI (2 : Int32)] [(.int (2 : Int32)), (.ref aw)]) := fun t k => pre32 t (by
    refine XS.iload X32.here hx rfl (hb hby d6_73) rfl ?_
    exact k)
  obtain ⟨cl34, Ar34, q34, S34, M34, H34, G34⟩ := id V1
  have in34 : ¬ ((2 : Int32) < 0 ∨ cl34.slots.size ≤ ((2 : Int32)).toNatClampNeg) := inb_of S34 ⟨by decide, by decide⟩
  have at34 : cl34.slots[((2 : Int32)).toNatClampNeg]? = some (.int (1 : Int32)) := H34.at in34 rfl
  have pre35 : Go p.tables e below S0 T32 (mkF m 88 #[vR a0, vR a1, vR a2, vI p3, vI (0 : Int32), vJ v28, .second, vI (2 : Int32)] [(.long v28), (.int (p3 + (0 : Int32))), (.ref a2)]) := fun t k => pre33 t (by
    refine X32.iaload hx (j := (2 : Int32)) (v := (.int (1 : Int32))) (by rw [e32]; exact Ar34.1) (State.isArrayOf_alike hZ.alike Ar34.2.1) Ar34.2.2 in34 at34 (g := (mkF m 75 #[vR a0, vR a1, vR a2, vI p3, vI (0 : Int32), vJ v28, .second, vI (2 : Int32)] [(.int (2 : Int32)), (.ref aw)])) rfl rfl (hb hby d6_75) _ ?_
    refine XS.iload X32.here hx rfl (hb hby d6_76) rfl ?_
    refine XS.icmpNo X32.here hx rfl (hb hby d6_78) rfl (feq (by decide : ¬ ((1 : Int32) = (0 : Int32)))).1 ?_
    show Steps p.tables e below (T32.setTop (mkF m 81 #[vR a0, vR a1, vR a2, vI p3, vI (0 : Int32), vJ v28, .second, vI (2 : Int32)] [])) _
    refine XS.aloadN X32.here hx rfl (hb hby d6_81) rfl rfl ?_
    refine XS.iloadN X32.here hx rfl (hb hby d6_82) rfl ?_
    refine XS.iload X32.here hx rfl (hb hby d6_83) rfl ?_
    show Steps p.tables e below (T32.setTop (mkF m 85 #[vR a0, vR a1, vR a2, vI p3, vI (0 : Int32), vJ v28, .second, vI (2 : Int32)] [(.int (0 : Int32)), (.int p3), (.ref a2)])) _
    refine XS.iadd X32.here hx rfl (hb hby d6_85) rfl ?_
    refine XS.lload X32.here hx rfl (hb hby d6_86) rfl ?_
    exact k)
  obtain ⟨cl36, Ar36, q36, S36, M36, H36, G36⟩ := id V4
  have in36 : ¬ ((p3 + (0 : Int32)) < 0 ∨ cl36.slots.size ≤ ((p3 + (0 : Int32))).toNatClampNeg) := inb_of S36 hin0
  obtain ⟨T36, h36, X36, e36, W36, st36⟩ := stJ X32 hx hZ e32 Ar36 (j := (p3 + (0 : Int32))) in36 (g := (mkF m 88 #[vR a0, vR a1, vR a2, vI p3, vI (0 : Int32), vJ v28, .second, vI (2 : Int32)] [(.long v28), (.int (p3 + (0 : Int32))), (.ref a2)])) rfl rfl (hb hby d6_88)
  have pre36 : Go p.tables e below S0 T36 (mkF m 89 #[vR a0, vR a1, vR a2, vI p3, vI (0 : Int32), vJ v28, .second, vI (2 : Int32)] []) := fun t k => pre35 t (st36 t k)
  obtain ⟨lo36, N36, X36⟩ : ∃ lo, Fr n0 lo ∧ Stand p l e ({ frames := 0, cells := 0, slots := 0, locals := 0 } : Room) s m #[(.ref a0), (.ref a1), (.ref a2), (.int p3)] below meth c T36 lo 0 0 := ⟨_, Fr.snoc X36 N0 g0, X36⟩
  have av36 : Arv Z h36 a2 k2 .long (6 : Int32) [(.long (own_putL (p3 + (0 : Int32)) (0 : Int32) v28 x0)), (.long (own_putL (p3 + (0 : Int32)) (1 : Int32) v28 x1)), (.long (own_putL (p3 + (0 : Int32)) (2 : Int32) v28 x2)), (.long (own_putL (p3 + (0 : Int32)) (3 : Int32) v28 x3)), (.long (own_putL (p3 + (0 : Int32)) (4 : Int32) v28 x4)), (.long (own_putL (p3 + (0 : Int32)) (5 : Int32) v28 x5))] (.long (0 : Int64)) := by
    have q := Arv.set Ar36 q36 S36 M36 H36 G36 rfl W36 _ rfl (own_setJ6 (w := 0) (x0 := 0) (x1 := 0) (x2 := 0) (x3 := 0) (x4 := 0) (x5 := 0) hin0).1
    rw [(own_setJ6 hin0).2] at q
    exact q
  have f37_1 := Fld.other W36 Fn (Or.inl xe0)
  have f37_2 := Fld.other W36 Fw (Or.inl xe0)
  have f37_3 := Fld.other W36 Fs (Or.inl xe0)
  have f37_4 := V1.other W36 xe1
  have f37_5 := V2.other W36 xe2
  have f37_6 := V3.other W36 xe3
  have zz38 : n0 ≤ h36.size := Nat.le_trans Z0 (Keep.of_wr W36).1
  have kp39 : Keep h0 h36 [a2] := kp0.wr W36 (Or.inl (List.mem_of_getElem? (i := 0) rfl))
  have pre40 : Go p.tables e below S0 T36 (mkF m 90 #[vR a0, vR a1, vR a2, vI p3, vI (0 : Int32), vJ v28, .second, vI (2 : Int32)] [(.ref a0)]) := fun t k => pre36 t (by
    refine XS.aloadN X36.here hx rfl (hb hby d6_89) rfl rfl ?_
    exact k)
  obtain ⟨T41, X41, e41, st41⟩ := getF X36 hx hZ hown (host := "") (Or.inl (hw _ (List.mem_of_getElem? (i := 22) rfl))) Via.refl e36 f37_2 (g := (mkF m 90 #[vR a0, vR a1, vR a2, vI p3, vI (0 : Int32), vJ v28, .second, vI (2 : Int32)] [(.ref a0)])) rfl rfl (hb hby d6_90)
  have pre41 : Go p.tables e below S0 T41 (mkF m 93 #[vR a0, vR a1, vR a2, vI p3, vI (0 : Int32), vJ v28, .second, vI (2 : Int32)] [(.ref aw)]) := fun t k => pre40 t (st41 t k)
  have pre42 : Go p.tables e below S0 T41 (mkF m 95 #[vR a0, vR a1, vR a2, vI p3, vI (0 : Int32), vJ v28, .second, vI (2 : Int32)] [(.int (2 : Int32)), (.ref aw)]) := fun t k => pre41 t (by
    refine XS.iload X41.here hx rfl (hb hby d6_93) rfl ?_
    exact k)
  obtain ⟨cl43, Ar43, q43, S43, M43, H43, G43⟩ := id f37_4
  have in43 : ¬ ((2 : Int32) < 0 ∨ cl43.slots.size ≤ ((2 : Int32)).toNatClampNeg) := inb_of S43 ⟨by decide, by decide⟩
  have at43 : cl43.slots[((2 : Int32)).toNatClampNeg]? = some (.int (1 : Int32)) := H43.at in43 rfl
  have pre44 : Go p.tables e below S0 T41 (mkF m 106 #[vR a0, vR a1, vR a2, vI p3, vI (1 : Int32), vJ (0 : Int64), .second, vI (2 : Int32)] [(.int (2 : Int32)), (.ref a1), (.long (0 : Int64))]) := fun t k => pre42 t (by
    refine X41.iaload hx (j := (2 : Int32)) (v := (.int (1 : Int32))) (by rw [e41]; exact Ar43.1) (State.isArrayOf_alike hZ.alike Ar43.2.1) Ar43.2.2 in43 at43 (g := (mkF m 95 #[vR a0, vR a1, vR a2, vI p3, vI (0 : Int32), vJ v28, .second, vI (2 : Int32)] [(.int (2 : Int32)), (.ref aw)])) rfl rfl (hb hby d6_95) _ ?_
    refine XS.istore X41.here hx rfl (hb hby d6_96) rfl (l' := #[vR a0, vR a1, vR a2, vI p3, vI (1 : Int32), vJ v28, .second, vI (2 : Int32)]) rfl ?_
    refine XS.lconst X41.here hx rfl (hb hby d6_98) ?_
    show Steps p.tables e below (T41.setTop (mkF m 99 #[vR a0, vR a1, vR a2, vI p3, vI (1 : Int32), vJ v28, .second, vI (2 : Int32)] [(.long (0 : Int64))])) _
    refine XS.lstore X41.here hx rfl (hb hby d6_99) rfl (l' := #[vR a0, vR a1, vR a2, vI p3, vI (1 : Int32), vJ (0 : Int64), .second, vI (2 : Int32)]) rfl ?_
    refine XS.lload X41.here hx rfl (hb hby d6_101) rfl ?_
    refine XS.aloadN X41.here hx rfl (hb hby d6_103) rfl rfl ?_
    show Steps p.tables e below (T41.setTop (mkF m 104 #[vR a0, vR a1, vR a2, vI p3, vI (1 : Int32), vJ (0 : Int64), .second, vI (2 : Int32)] [(.ref a1), (.long (0 : Int64))])) _
    refine XS.iload X41.here hx rfl (hb hby d6_104) rfl ?_
    exact k)
  obtain ⟨cl45, Ar45, q45, S45, M45, H45, G45⟩ := id f37_6
  have in45 : ¬ ((2 : Int32) < 0 ∨ cl45.slots.size ≤ ((2 : Int32)).toNatClampNeg) := inb_of S45 ⟨by decide, by decide⟩
  have at45 : cl45.slots[((2 : Int32)).toNatClampNeg]? = some (.int y2) := H45.at in45 rfl
  have pre46 : Go p.tables e below S0 T41 (mkF m 109 #[vR a0, vR a1, vR a2, vI p3, vI (1 : Int32), vJ (0 : Int64), .second, vI (2 : Int32)] [(.ref a0), (.long (y2.toInt64)), (.long (0 : Int64))]) := fun t k => pre44 t (by
    refine X41.iaload hx (j := (2 : Int32)) (v := (.int y2)) (by rw [e41]; exact Ar45.1) (State.isArrayOf_alike hZ.alike Ar45.2.1) Ar45.2.2 in45 at45 (g := (mkF m 106 #[vR a0, vR a1, vR a2, vI p3, vI (1 : Int32), vJ (0 : Int64), .second, vI (2 : Int32)] [(.int (2 : Int32)), (.ref a1), (.long (0 : Int64))])) rfl rfl (hb hby d6_106) _ ?_
    refine XS.i2l X41.here hx rfl (hb hby d6_107) rfl ?_
    refine XS.aloadN X41.here hx rfl (hb hby d6_108) rfl rfl ?_
    show Steps p.tables e below (T41.setTop (mkF m 109 #[vR a0, vR a1, vR a2, vI p3, vI (1 : Int32), vJ (0 : Int64), .second, vI (2 : Int32)] [(.ref a0), (.long (y2.toInt64)), (.long (0 : Int64))])) _
    exact k)
  obtain ⟨T47, X47, e47, st47⟩ := getF X41 hx hZ hown (host := "") (Or.inl (hw _ (List.mem_of_getElem? (i := 24) rfl))) Via.refl e41 f37_3 (g := (mkF m 109 #[vR a0, vR a1, vR a2, vI p3, vI (1 : Int32), vJ (0 : Int64), .second, vI (2 : Int32)] [(.ref a0), (.long (y2.toInt64)), (.long (0 : Int64))])) rfl rfl (hb hby d6_109)
  have pre47 : Go p.tables e below S0 T47 (mkF m 112 #[vR a0, vR a1, vR a2, vI p3, vI (1 : Int32), vJ (0 : Int64), .second, vI (2 : Int32)] [(.ref as), (.long (y2.toInt64)), (.long (0 : Int64))]) := fun t k => pre46 t (st47 t k)
  have pre48 : Go p.tables e below S0 T47 (mkF m 114 #[vR a0, vR a1, vR a2, vI p3, vI (1 : Int32), vJ (0 : Int64), .second, vI (2 : Int32)] [(.int (2 : Int32)), (.ref as), (.long (y2.toInt64)), (.long (0 : Int64))]) := fun t k => pre47 t (by
    refine XS.iload X47.here hx rfl (hb hby d6_112) rfl ?_
    exact k)
  obtain ⟨cl49, Ar49, q49, S49, M49, H49, G49⟩ := id f37_5
  have in49 : ¬ ((2 : Int32) < 0 ∨ cl49.slots.size ≤ ((2 : Int32)).toNatClampNeg) := inb_of S49 ⟨by decide, by decide⟩
  have at49 : cl49.slots[((2 : Int32)).toNatClampNeg]? = some (.int u2) := H49.at in49 rfl
  obtain ⟨v50, hv50, pre50⟩ : ∃ z : Int64, z = ((0 : Int64) ||| ((y2.toInt64) <<< (u2 &&& 0x3f).toInt64)) ∧ Go p.tables e below S0 T47 (mkF m 119 #[vR a0, vR a1, vR a2, vI p3, vI (1 : Int32), vJ z, .second, vI (2 : Int32)] []) := ⟨_, rfl, fun t k => pre48 t (by
    refine X47.iaload hx (j := (2 : Int32)) (v := (.int u2)) (by rw [e47]; exact Ar49.1) (State.isArrayOf_alike hZ.alike Ar49.2.1) Ar49.2.2 in49 at49 (g := (mkF m 114 #[vR a0, vR a1, vR a2, vI p3, vI (1 : Int32), vJ (0 : Int64), .second, vI (2 : Int32)] [(.int (2 : Int32)), (.ref as), (.long (y2.toInt64)), (.long (0 : Int64))])) rfl rfl (hb hby d6_114) _ ?_
    refine XS.lshl X47.here hx rfl (hb hby d6_115) rfl ?_
    refine XS.lor X47.here hx rfl (hb hby d6_116) rfl ?_
    show Steps p.tables e below (T47.setTop (mkF m 117 #[vR a0, vR a1, vR a2, vI p3, vI (1 : Int32), vJ (0 : Int64), .second, vI (2 : Int32)] [(.long ((0 : Int64) ||| ((y2.toInt64) <<< (u2 &&& 0x3f).toInt64)))])) _
    refine XS.lstore X47.here hx rfl (hb hby d6_117) rfl (l' := #[vR a0, vR a1, vR a2, vI p3, vI (1 : Int32), vJ ((0 : Int64) ||| ((y2.toInt64) <<< (u2 &&& 0x3f).toInt64)), .second, vI (2 : Int32)]) rfl ?_
    exact k)⟩
  have pre51 : Go p.tables e below S0 T47 (mkF m 65 #[vR a0, vR a1, vR a2, vI p3, vI (1 : Int32), vJ v50, .second, vI (3 : Int32)] [(.ref a1), (.int (3 : Int32))]) := fun t k => pre50 t (by
    refine XS.iinc X47.here hx rfl (hb hby d6_119) rfl (l' := #[vR a0, vR a1, vR a2, vI p3, vI (1 : Int32), vJ v50, .second, vI (3 : Int32)]) rfl ?_
    refine XS.goto X47.here hx rfl (pc0 := 122) (pc' := 62) rfl (hb hby d6_122) (by decide) (by decide) ?_
    refine XS.iload X47.here hx rfl (hb hby d6_62) rfl ?_
    show Steps p.tables e below (T47.setTop (mkF m 64 #[vR a0, vR a1, vR a2, vI p3, vI (1 : Int32), vJ v50, .second, vI (3 : Int32)] [(.int (3 : Int32))])) _
    refine XS.aloadN X47.here hx rfl (hb hby d6_64) rfl rfl ?_
    exact k)
  obtain ⟨cl52, Ar52, q52, S52, M52, H52, G52⟩ := id f37_6
  have pre53 : Go p.tables e below S0 T47 (mkF m 70 #[vR a0, vR a1, vR a2, vI p3, vI (1 : Int32), vJ v50, .second, vI (3 : Int32)] [(.ref a0)]) := fun t k => pre51 t (by
    refine X47.arraylength hx (by rw [e47]; exact Ar52.1) (State.isArrayOf_alike hZ.alike Ar52.2.1) (g := (mkF m 65 #[vR a0, vR a1, vR a2, vI p3, vI (1 : Int32), vJ v50, .second, vI (3 : Int32)] [(.ref a1), (.int (3 : Int32))])) rfl rfl (hb hby d6_65) _ ?_
    rw [len_of S52 M52]
    refine XS.icmpNo X47.here hx rfl (hb hby d6_66) rfl (tlt (by decide : (3 : Int32) < (5 : Int32))).2.1 ?_
    refine XS.aloadN X47.here hx rfl (hb hby d6_69) rfl rfl ?_
    show Steps p.tables e below (T47.setTop (mkF m 70 #[vR a0, vR a1, vR a2, vI p3, vI (1 : Int32), vJ v50, .second, vI (3 : Int32)] [(.ref a0)])) _
    exact k)
  obtain ⟨T54, X54, e54, st54⟩ := getF X47 hx hZ hown (host := "") (Or.inl (hw _ (List.mem_of_getElem? (i := 22) rfl))) Via.refl e47 f37_2 (g := (mkF m 70 #[vR a0, vR a1, vR a2, vI p3, vI (1 : Int32), vJ v50, .second, vI (3 : Int32)] [(.ref a0)])) rfl rfl (hb hby d6_70)
  have pre54 : Go p.tables e below S0 T54 (mkF m 73 #[vR a0, vR a1, vR a2, vI p3, vI (1 : Int32), vJ v50, .second, vI (3 : Int32)] [(.ref aw)]) := fun t k => pre53 t (st54 t k)
  have pre55 : Go p.tables e below S0 T54 (mkF m 75 #[vR a0, vR a1, vR a2, vI p3, vI (1 : Int32), vJ v50, .second, vI (3 : Int32)] [(.int (3 : Int32)), (.ref aw)]) := fun t k => pre54 t (by
    refine XS.iload X54.here hx rfl (hb hby d6_73) rfl ?_
    exact k)
  obtain ⟨cl56, Ar56, q56, S56, M56, H56, G56⟩ := id f37_4
  have in56 : ¬ ((3 : Int32) < 0 ∨ cl56.slots.size ≤ ((3 : Int32)).toNatClampNeg) := inb_of S56 ⟨by decide, by decide⟩
  have at56 : cl56.slots[((3 : Int32)).toNatClampNeg]? = some (.int (1 : Int32)) := H56.at in56 rfl
  have pre57 : Go p.tables e below S0 T54 (mkF m 106 #[vR a0, vR a1, vR a2, vI p3, vI (1 : Int32), vJ v50, .second, vI (3 : Int32)] [(.int (3 : Int32)), (.ref a1), (.long v50)]) := fun t k => pre55 t (by
    refine X54.iaload hx (j := (3 : Int32)) (v := (.int (1 : Int32))) (by rw [e54]; exact Ar56.1) (State.isArrayOf_alike hZ.alike Ar56.2.1) Ar56.2.2 in56 at56 (g := (mkF m 75 #[vR a0, vR a1, vR a2, vI p3, vI (1 : Int32), vJ v50, .second, vI (3 : Int32)] [(.int (3 : Int32)), (.ref aw)])) rfl rfl (hb hby d6_75) _ ?_
    refine XS.iload X54.here hx rfl (hb hby d6_76) rfl ?_
    refine XS.icmpYes X54.here hx rfl (pc0 := 78) (pc' := 101) rfl (hb hby d6_78) rfl (teq (rfl : (1 : Int32) = (1 : Int32))).1 (by decide) (by decide) ?_
    show Steps p.tables e below (T54.setTop (mkF m 101 #[vR a0, vR a1, vR a2, vI p3, vI (1 : Int32), vJ v50, .second, vI (3 : Int32)] [])) _
    refine XS.lload X54.here hx rfl (hb hby d6_101) rfl ?_
    refine XS.aloadN X54.here hx rfl (hb hby d6_103) rfl rfl ?_
    refine XS.iload X54.here hx rfl (hb hby d6_104) rfl ?_
    show Steps p.tables e below (T54.setTop (mkF m 106 #[vR a0, vR a1, vR a2, vI p3, vI (1 : Int32), vJ v50, .second, vI (3 : Int32)] [(.int (3 : Int32)), (.ref a1), (.long v50)])) _
    exact k)
  obtain ⟨cl58, Ar58, q58, S58, M58, H58, G58⟩ := id f37_6
  have in58 : ¬ ((3 : Int32) < 0 ∨ cl58.slots.size ≤ ((3 : Int32)).toNatClampNeg) := inb_of S58 ⟨by decide, by decide⟩
  have at58 : cl58.slots[((3 : Int32)).toNatClampNeg]? = some (.int y3) := H58.at in58 rfl
  have pre59 : Go p.tables e below S0 T54 (mkF m 109 #[vR a0, vR a1, vR a2, vI p3, vI (1 : Int32), vJ v50, .second, vI (3 : Int32)] [(.ref a0), (.long (y3.toInt64)), (.long v50)]) := fun t k => pre57 t (by
    refine X54.iaload hx (j := (3 : Int32)) (v := (.int y3)) (by rw [e54]; exact Ar58.1) (State.isArrayOf_alike hZ.alike Ar58.2.1) Ar58.2.2 in58 at58 (g := (mkF m 106 #[vR a0, vR a1, vR a2, vI p3, vI (1 : Int32), vJ v50, .second, vI (3 : Int32)] [(.int (3 : Int32)), (.ref a1), (.long v50)])) rfl rfl (hb hby d6_106) _ ?_
    refine XS.i2l X54.here hx rfl (hb hby d6_107) rfl ?_
    refine XS.aloadN X54.here hx rfl (hb hby d6_108) rfl rfl ?_
    show Steps p.tables e below (T54.setTop (mkF m 109 #[vR a0, vR a1, vR a2, vI p3, vI (1 : Int32), vJ v50, .second, vI (3 : Int32)] [(.ref a0), (.long (y3.toInt64)), (.long v50)])) _
    exact k)
  obtain ⟨T60, X60, e60, st60⟩ := getF X54 hx hZ hown (host := "") (Or.inl (hw _ (List.mem_of_getElem? (i := 24) rfl))) Via.refl e54 f37_3 (g := (mkF m 109 #[vR a0, vR a1, vR a2, vI p3, vI (1 : Int32), vJ v50, .second, vI (3 : Int32)] [(.ref a0), (.long (y3.toInt64)), (.long v50)])) rfl rfl (hb hby d6_109)
  have pre60 : Go p.tables e below S0 T60 (mkF m 112 #[vR a0, vR a1, vR a2, vI p3, vI (1 : Int32), vJ v50, .second, vI (3 : Int32)] [(.ref as), (.long (y3.toInt64)), (.long v50)]) := fun t k => pre59 t (st60 t k)
  have pre61 : Go p.tables e below S0 T60 (mkF m 114 #[vR a0, vR a1, vR a2, vI p3, vI (1 : Int32), vJ v50, .second, vI (3 : Int32)] [(.int (3 : Int32)), (.ref as), (.long (y3.toInt64)), (.long v50)]) := fun t k => pre60 t (by
    refine XS.iload X60.here hx rfl (hb hby d6_112) rfl ?_
    exact k)
  obtain ⟨cl62, Ar62, q62, S62, M62, H62, G62⟩ := id f37_5
  have in62 : ¬ ((3 : Int32) < 0 ∨ cl62.slots.size ≤ ((3 : Int32)).toNatClampNeg) := inb_of S62 ⟨by decide, by decide⟩
  have at62 : cl62.slots[((3 : Int32)).toNatClampNeg]? = some (.int u3) := H62.at in62 rfl
  obtain ⟨v63, hv63, pre63⟩ : ∃ z : Int64, z = (v50 ||| ((y3.toInt64) <<< (u3 &&& 0x3f).toInt64)) ∧ Go p.tables e below S0 T60 (mkF m 119 #[vR a0, vR a1, vR a2, vI p3, vI (1 : Int32), vJ z, .second, vI (3 : Int32)] []) := ⟨_, rfl, fun t k => pre61 t (by
    refine X60.iaload hx (j := (3 : Int32)) (v := (.int u3)) (by rw [e60]; exact Ar62.1) (State.isArrayOf_alike hZ.alike Ar62.2.1) Ar62.2.2 in62 at62 (g := (mkF m 114 #[vR a0, vR a1, vR a2, vI p3, vI (1 : Int32), vJ v50, .second, vI (3 : Int32)] [(.int (3 : Int32)), (.ref as), (.long (y3.toInt64)), (.long v50)])) rfl rfl (hb hby d6_114) _ ?_
    refine XS.lshl X60.here hx rfl (hb hby d6_115) rfl ?_
    refine XS.lor X60.here hx rfl (hb hby d6_116) rfl ?_
    show Steps p.tables e below (T60.setTop (mkF m 117 #[vR a0, vR a1, vR a2, vI p3, vI (1 : Int32), vJ v50, .second, vI (3 : Int32)] [(.long (v50 ||| ((y3.toInt64) <<< (u3 &&& 0x3f).toInt64)))])) _
    refine XS.lstore X60.here hx rfl (hb hby d6_117) rfl (l' := #[vR a0, vR a1, vR a2, vI p3, vI (1 : Int32), vJ (v50 ||| ((y3.toInt64) <<< (u3 &&& 0x3f).toInt64)), .second, vI (3 : Int32)]) rfl ?_
    exact k)⟩
  have pre64 : Go p.tables e below S0 T60 (mkF m 65 #[vR a0, vR a1, vR a2, vI p3, vI (1 : Int32), vJ v63, .second, vI (4 : Int32)] [(.ref a1), (.int (4 : Int32))]) := fun t k => pre63 t (by
    refine XS.iinc X60.here hx rfl (hb hby d6_119) rfl (l' := #[vR a0, vR a1, vR a2, vI p3, vI (1 : Int32), vJ v63, .second, vI (4 : Int32)]) rfl ?_
    refine XS.goto X60.here hx rfl (pc0 := 122) (pc' := 62) rfl (hb hby d6_122) (by decide) (by decide) ?_
    refine XS.iload X60.here hx rfl (hb hby d6_62) rfl ?_
    show Steps p.tables e below (T60.setTop (mkF m 64 #[vR a0, vR a1, vR a2, vI p3, vI (1 : Int32), vJ v63, .second, vI (4 : Int32)] [(.int (4 : Int32))])) _
    refine XS.aloadN X60.here hx rfl (hb hby d6_64) rfl rfl ?_
    exact k)
  obtain ⟨cl65, Ar65, q65, S65, M65, H65, G65⟩ := id f37_6
  have pre66 : Go p.tables e below S0 T60 (mkF m 70 #[vR a0, vR a1, vR a2, vI p3, vI (1 : Int32), vJ v63, .second, vI (4 : Int32)] [(.ref a0)]) := fun t k => pre64 t (by
    refine X60.arraylength hx (by rw [e60]; exact Ar65.1) (State.isArrayOf_alike hZ.alike Ar65.2.1) (g := (mkF m 65 #[vR a0, vR a1, vR a2, vI p3, vI (1 : Int32), vJ v63, .second, vI (4 : Int32)] [(.ref a1), (.int (4 : Int32))])) rfl rfl (hb hby d6_65) _ ?_
    rw [len_of S65 M65]
    refine XS.icmpNo X60.here hx rfl (hb hby d6_66) rfl (tlt (by decide : (4 : Int32) < (5 : Int32))).2.1 ?_
    refine XS.aloadN X60.here hx rfl (hb hby d6_69) rfl rfl ?_
    show Steps p.tables e below (T60.setTop (mkF m 70 #[vR a0, vR a1, vR a2, vI p3, vI (1 : Int32), vJ v63, .second, vI (4 : Int32)] [(.ref a0)])) _
    exact k)
  obtain ⟨T67, X67, e67, st67⟩ := getF X60 hx hZ hown (host := "") (Or.inl (hw _ (List.mem_of_getElem? (i := 22) rfl))) Via.refl e60 f37_2 (g := (mkF m 70 #[vR a0, vR a1, vR a2, vI p3, vI (1 : Int32), vJ v63, .second, vI (4 : Int32)] [(.ref a0)])) rfl rfl (hb hby d6_70)
  have pre67 : Go p.tables e below S0 T67 (mkF m 73 #[vR a0, vR a1, vR a2, vI p3, vI (1 : Int32), vJ v63, .second, vI (4 : Int32)] [(.ref aw)]) := fun t k => pre66 t (st67 t k)
  have pre68 : Go p.tables e below S0 T67 (mkF m 75 #[vR a0, vR a1, vR a2, vI p3, vI (1 : Int32), vJ v63, .second, vI (4 : Int32)] [(.int (4 : Int32)), (.ref aw)]) := fun t k => pre67 t (by
    refine XS.iload X67.here hx rfl (hb hby d6_73) rfl ?_
    exact k)
  obtain ⟨cl69, Ar69, q69, S69, M69, H69, G69⟩ := id f37_4
  have in69 : ¬ ((4 : Int32) < 0 ∨ cl69.slots.size ≤ ((4 : Int32)).toNatClampNeg) := inb_of S69 ⟨by decide, by decide⟩
  have at69 : cl69.slots[((4 : Int32)).toNatClampNeg]? = some (.int (2 : Int32)) := H69.at in69 rfl
  have pre70 : Go p.tables e below S0 T67 (mkF m 88 #[vR a0, vR a1, vR a2, vI p3, vI (1 : Int32), vJ v63, .second, vI (4 : Int32)] [(.long v63), (.int (p3 + (1 : Int32))), (.ref a2)]) := fun t k => pre68 t (by
    refine X67.iaload hx (j := (4 : Int32)) (v := (.int (2 : Int32))) (by rw [e67]; exact Ar69.1) (State.isArrayOf_alike hZ.alike Ar69.2.1) Ar69.2.2 in69 at69 (g := (mkF m 75 #[vR a0, vR a1, vR a2, vI p3, vI (1 : Int32), vJ v63, .second, vI (4 : Int32)] [(.int (4 : Int32)), (.ref aw)])) rfl rfl (hb hby d6_75) _ ?_
    refine XS.iload X67.here hx rfl (hb hby d6_76) rfl ?_
    refine XS.icmpNo X67.here hx rfl (hb hby d6_78) rfl (feq (by decide : ¬ ((2 : Int32) = (1 : Int32)))).1 ?_
    show Steps p.tables e below (T67.setTop (mkF m 81 #[vR a0, vR a1, vR a2, vI p3, vI (1 : Int32), vJ v63, .second, vI (4 : Int32)] [])) _
    refine XS.aloadN X67.here hx rfl (hb hby d6_81) rfl rfl ?_
    refine XS.iloadN X67.here hx rfl (hb hby d6_82) rfl ?_
    refine XS.iload X67.here hx rfl (hb hby d6_83) rfl ?_
    show Steps p.tables e below (T67.setTop (mkF m 85 #[vR a0, vR a1, vR a2, vI p3, vI (1 : Int32), vJ v63, .second, vI (4 : Int32)] [(.int (1 : Int32)), (.int p3), (.ref a2)])) _
    refine XS.iadd X67.here hx rfl (hb hby d6_85) rfl ?_
    refine XS.lload X67.here hx rfl (hb hby d6_86) rfl ?_
    exact k)
  obtain ⟨cl71, Ar71, q71, S71, M71, H71, G71⟩ := id av36
  have in71 : ¬ ((p3 + (1 : Int32)) < 0 ∨ cl71.slots.size ≤ ((p3 + (1 : Int32))).toNatClampNeg) := inb_of S71 hin1
  obtain ⟨T71, h71, X71, e71, W71, st71⟩ := stJ X67 hx hZ e67 Ar71 (j := (p3 + (1 : Int32))) in71 (g := (mkF m 88 #[vR a0, vR a1, vR a2, vI p3, vI (1 : Int32), vJ v63, .second, vI (4 : Int32)] [(.long v63), (.int (p3 + (1 : Int32))), (.ref a2)])) rfl rfl (hb hby d6_88)
  have pre71 : Go p.tables e below S0 T71 (mkF m 89 #[vR a0, vR a1, vR a2, vI p3, vI (1 : Int32), vJ v63, .second, vI (4 : Int32)] []) := fun t k => pre70 t (st71 t k)
  obtain ⟨lo71, N71, X71⟩ : ∃ lo, Fr n0 lo ∧ Stand p l e ({ frames := 0, cells := 0, slots := 0, locals := 0 } : Room) s m #[(.ref a0), (.ref a1), (.ref a2), (.int p3)] below meth c T71 lo 0 0 := ⟨_, Fr.snoc X71 N36 g0, X71⟩
  have av71 : Arv Z h71 a2 k2 .long (6 : Int32) [(.long (own_putL (p3 + (1 : Int32)) (0 : Int32) v63 (own_putL (p3 + (0 : Int32)) (0 : Int32) v28 x0))), (.long (own_putL (p3 + (1 : Int32)) (1 : Int32) v63 (own_putL (p3 + (0 : Int32)) (1 : Int32) v28 x1))), (.long (own_putL (p3 + (1 : Int32)) (2 : Int32) v63 (own_putL (p3 + (0 : Int32)) (2 : Int32) v28 x2))), (.long (own_putL (p3 + (1 : Int32)) (3 : Int32) v63 (own_putL (p3 + (0 : Int32)) (3 : Int32) v28 x3))), (.long (own_putL (p3 + (1 : Int32)) (4 : Int32) v63 (own_putL (p3 + (0 : Int32)) (4 : Int32) v28 x4))), (.long (own_putL (p3 + (1 : Int32)) (5 : Int32) v63 (own_putL (p3 + (0 : Int32)) (5 : Int32) v28 x5)))] (.long (0 : Int64)) := by
    have q := Arv.set Ar71 q71 S71 M71 H71 G71 rfl W71 _ rfl (own_setJ6 (w := 0) (x0 := 0) (x1 := 0) (x2 := 0) (x3 := 0) (x4 := 0) (x5 := 0) hin1).1
    rw [(own_setJ6 hin1).2] at q
    exact q
  have f72_1 := Fld.other W71 f37_1 (Or.inl xe0)
  have f72_2 := Fld.other W71 f37_2 (Or.inl xe0)
  have f72_3 := Fld.other W71 f37_3 (Or.inl xe0)
  have f72_4 := f37_4.other W71 xe1
  have f72_5 := f37_5.other W71 xe2
  have f72_6 := f37_6.other W71 xe3
  have zz73 : n0 ≤ h71.size := Nat.le_trans zz38 (Keep.of_wr W71).1
  have kp74 : Keep h0 h71 [a2] := kp39.wr W71 (Or.inl (List.mem_of_getElem? (i := 0) rfl))
  have pre75 : Go p.tables e below S0 T71 (mkF m 90 #[vR a0, vR a1, vR a2, vI p3, vI (1 : Int32), vJ v63, .second, vI (4 : Int32)] [(.ref a0)]) := fun t k => pre71 t (by
    refine XS.aloadN X71.here hx rfl (hb hby d6_89) rfl rfl ?_
    exact k)
  obtain ⟨T76, X76, e76, st76⟩ := getF X71 hx hZ hown (host := "") (Or.inl (hw _ (List.mem_of_getElem? (i := 22) rfl))) Via.refl e71 f72_2 (g := (mkF m 90 #[vR a0, vR a1, vR a2, vI p3, vI (1 : Int32), vJ v63, .second, vI (4 : Int32)] [(.ref a0)])) rfl rfl (hb hby d6_90)
  have pre76 : Go p.tables e below S0 T76 (mkF m 93 #[vR a0, vR a1, vR a2, vI p3, vI (1 : Int32), vJ v63, .second, vI (4 : Int32)] [(.ref aw)]) := fun t k => pre75 t (st76 t k)
  have pre77 : Go p.tables e below S0 T76 (mkF m 95 #[vR a0, vR a1, vR a2, vI p3, vI (1 : Int32), vJ v63, .second, vI (4 : Int32)] [(.int (4 : Int32)), (.ref aw)]) := fun t k => pre76 t (by
    refine XS.iload X76.here hx rfl (hb hby d6_93) rfl ?_
    exact k)
  obtain ⟨cl78, Ar78, q78, S78, M78, H78, G78⟩ := id f72_4
  have in78 : ¬ ((4 : Int32) < 0 ∨ cl78.slots.size ≤ ((4 : Int32)).toNatClampNeg) := inb_of S78 ⟨by decide, by decide⟩
  have at78 : cl78.slots[((4 : Int32)).toNatClampNeg]? = some (.int (2 : Int32)) := H78.at in78 rfl
  have pre79 : Go p.tables e below S0 T76 (mkF m 106 #[vR a0, vR a1, vR a2, vI p3, vI (2 : Int32), vJ (0 : Int64), .second, vI (4 : Int32)] [(.int (4 : Int32)), (.ref a1), (.long (0 : Int64))]) := fun t k => pre77 t (by
    refine X76.iaload hx (j := (4 : Int32)) (v := (.int (2 : Int32))) (by rw [e76]; exact Ar78.1) (State.isArrayOf_alike hZ.alike Ar78.2.1) Ar78.2.2 in78 at78 (g := (mkF m 95 #[vR a0, vR a1, vR a2, vI p3, vI (1 : Int32), vJ v63, .second, vI (4 : Int32)] [(.int (4 : Int32)), (.ref aw)])) rfl rfl (hb hby d6_95) _ ?_
    refine XS.istore X76.here hx rfl (hb hby d6_96) rfl (l' := #[vR a0, vR a1, vR a2, vI p3, vI (2 : Int32), vJ v63, .second, vI (4 : Int32)]) rfl ?_
    refine XS.lconst X76.here hx rfl (hb hby d6_98) ?_
    show Steps p.tables e below (T76.setTop (mkF m 99 #[vR a0, vR a1, vR a2, vI p3, vI (2 : Int32), vJ v63, .second, vI (4 : Int32)] [(.long (0 : Int64))])) _
    refine XS.lstore X76.here hx rfl (hb hby d6_99) rfl (l' := #[vR a0, vR a1, vR a2, vI p3, vI (2 : Int32), vJ (0 : Int64), .second, vI (4 : Int32)]) rfl ?_
    refine XS.lload X76.here hx rfl (hb hby d6_101) rfl ?_
    refine XS.aloadN X76.here hx rfl (hb hby d6_103) rfl rfl ?_
    show Steps p.tables e below (T76.setTop (mkF m 104 #[vR a0, vR a1, vR a2, vI p3, vI (2 : Int32), vJ (0 : Int64), .second, vI (4 : Int32)] [(.ref a1), (.long (0 : Int64))])) _
    refine XS.iload X76.here hx rfl (hb hby d6_104) rfl ?_
    exact k)
  obtain ⟨cl80, Ar80, q80, S80, M80, H80, G80⟩ := id f72_6
  have in80 : ¬ ((4 : Int32) < 0 ∨ cl80.slots.size ≤ ((4 : Int32)).toNatClampNeg) := inb_of S80 ⟨by decide, by decide⟩
  have at80 : cl80.slots[((4 : Int32)).toNatClampNeg]? = some (.int y4) := H80.at in80 rfl
  have pre81 : Go p.tables e below S0 T76 (mkF m 109 #[vR a0, vR a1, vR a2, vI p3, vI (2 : Int32), vJ (0 : Int64), .second, vI (4 : Int32)] [(.ref a0), (.long (y4.toInt64)), (.long (0 : Int64))]) := fun t k => pre79 t (by
    refine X76.iaload hx (j := (4 : Int32)) (v := (.int y4)) (by rw [e76]; exact Ar80.1) (State.isArrayOf_alike hZ.alike Ar80.2.1) Ar80.2.2 in80 at80 (g := (mkF m 106 #[vR a0, vR a1, vR a2, vI p3, vI (2 : Int32), vJ (0 : Int64), .second, vI (4 : Int32)] [(.int (4 : Int32)), (.ref a1), (.long (0 : Int64))])) rfl rfl (hb hby d6_106) _ ?_
    refine XS.i2l X76.here hx rfl (hb hby d6_107) rfl ?_
    refine XS.aloadN X76.here hx rfl (hb hby d6_108) rfl rfl ?_
    show Steps p.tables e below (T76.setTop (mkF m 109 #[vR a0, vR a1, vR a2, vI p3, vI (2 : Int32), vJ (0 : Int64), .second, vI (4 : Int32)] [(.ref a0), (.long (y4.toInt64)), (.long (0 : Int64))])) _
    exact k)
  obtain ⟨T82, X82, e82, st82⟩ := getF X76 hx hZ hown (host := "") (Or.inl (hw _ (List.mem_of_getElem? (i := 24) rfl))) Via.refl e76 f72_3 (g := (mkF m 109 #[vR a0, vR a1, vR a2, vI p3, vI (2 : Int32), vJ (0 : Int64), .second, vI (4 : Int32)] [(.ref a0), (.long (y4.toInt64)), (.long (0 : Int64))])) rfl rfl (hb hby d6_109)
  have pre82 : Go p.tables e below S0 T82 (mkF m 112 #[vR a0, vR a1, vR a2, vI p3, vI (2 : Int32), vJ (0 : Int64), .second, vI (4 : Int32)] [(.ref as), (.long (y4.toInt64)), (.long (0 : Int64))]) := fun t k => pre81 t (st82 t k)
  have pre83 : Go p.tables e below S0 T82 (mkF m 114 #[vR a0, vR a1, vR a2, vI p3, vI (2 : Int32), vJ (0 : Int64), .second, vI (4 : Int32)] [(.int (4 : Int32)), (.ref as), (.long (y4.toInt64)), (.long (0 : Int64))]) := fun t k => pre82 t (by
    refine XS.iload X82.here hx rfl (hb hby d6_112) rfl ?_
    exact k)
  obtain ⟨cl84, Ar84, q84, S84, M84, H84, G84⟩ := id f72_5
  have in84 : ¬ ((4 : Int32) < 0 ∨ cl84.slots.size ≤ ((4 : Int32)).toNatClampNeg) := inb_of S84 ⟨by decide, by decide⟩
  have at84 : cl84.slots[((4 : Int32)).toNatClampNeg]? = some (.int u4) := H84.at in84 rfl
  obtain ⟨v85, hv85, pre85⟩ : ∃ z : Int64, z = ((0 : Int64) ||| ((y4.toInt64) <<< (u4 &&& 0x3f).toInt64)) ∧ Go p.tables e below S0 T82 (mkF m 119 #[vR a0, vR a1, vR a2, vI p3, vI (2 : Int32), vJ z, .second, vI (4 : Int32)] []) := ⟨_, rfl, fun t k => pre83 t (by
    refine X82.iaload hx (j := (4 : Int32)) (v := (.int u4)) (by rw [e82]; exact Ar84.1) (State.isArrayOf_alike hZ.alike Ar84.2.1) Ar84.2.2 in84 at84 (g := (mkF m 114 #[vR a0, vR a1, vR a2, vI p3, vI (2 : Int32), vJ (0 : Int64), .second, vI (4 : Int32)] [(.int (4 : Int32)), (.ref as), (.long (y4.toInt64)), (.long (0 : Int64))])) rfl rfl (hb hby d6_114) _ ?_
    refine XS.lshl X82.here hx rfl (hb hby d6_115) rfl ?_
    refine XS.lor X82.here hx rfl (hb hby d6_116) rfl ?_
    show Steps p.tables e below (T82.setTop (mkF m 117 #[vR a0, vR a1, vR a2, vI p3, vI (2 : Int32), vJ (0 : Int64), .second, vI (4 : Int32)] [(.long ((0 : Int64) ||| ((y4.toInt64) <<< (u4 &&& 0x3f).toInt64)))])) _
    refine XS.lstore X82.here hx rfl (hb hby d6_117) rfl (l' := #[vR a0, vR a1, vR a2, vI p3, vI (2 : Int32), vJ ((0 : Int64) ||| ((y4.toInt64) <<< (u4 &&& 0x3f).toInt64)), .second, vI (4 : Int32)]) rfl ?_
    exact k)⟩
  have pre86 : Go p.tables e below S0 T82 (mkF m 65 #[vR a0, vR a1, vR a2, vI p3, vI (2 : Int32), vJ v85, .second, vI (5 : Int32)] [(.ref a1), (.int (5 : Int32))]) := fun t k => pre85 t (by
    refine XS.iinc X82.here hx rfl (hb hby d6_119) rfl (l' := #[vR a0, vR a1, vR a2, vI p3, vI (2 : Int32), vJ v85, .second, vI (5 : Int32)]) rfl ?_
    refine XS.goto X82.here hx rfl (pc0 := 122) (pc' := 62) rfl (hb hby d6_122) (by decide) (by decide) ?_
    refine XS.iload X82.here hx rfl (hb hby d6_62) rfl ?_
    show Steps p.tables e below (T82.setTop (mkF m 64 #[vR a0, vR a1, vR a2, vI p3, vI (2 : Int32), vJ v85, .second, vI (5 : Int32)] [(.int (5 : Int32))])) _
    refine XS.aloadN X82.here hx rfl (hb hby d6_64) rfl rfl ?_
    exact k)
  obtain ⟨cl87, Ar87, q87, S87, M87, H87, G87⟩ := id f72_6
  have pre88 : Go p.tables e below S0 T82 (mkF m 132 #[vR a0, vR a1, vR a2, vI p3, vI (2 : Int32), vJ v85, .second, vI (5 : Int32)] [(.long v85), (.int (p3 + (2 : Int32))), (.ref a2)]) := fun t k => pre86 t (by
    refine X82.arraylength hx (by rw [e82]; exact Ar87.1) (State.isArrayOf_alike hZ.alike Ar87.2.1) (g := (mkF m 65 #[vR a0, vR a1, vR a2, vI p3, vI (2 : Int32), vJ v85, .second, vI (5 : Int32)] [(.ref a1), (.int (5 : Int32))])) rfl rfl (hb hby d6_65) _ ?_
    rw [len_of S87 M87]
    refine XS.icmpYes X82.here hx rfl (pc0 := 66) (pc' := 125) rfl (hb hby d6_66) rfl (flt (by decide : ¬ ((5 : Int32) < (5 : Int32)))).2.1 (by decide) (by decide) ?_
    refine XS.aloadN X82.here hx rfl (hb hby d6_125) rfl rfl ?_
    show Steps p.tables e below (T82.setTop (mkF m 126 #[vR a0, vR a1, vR a2, vI p3, vI (2 : Int32), vJ v85, .second, vI (5 : Int32)] [(.ref a2)])) _
    refine XS.iloadN X82.here hx rfl (hb hby d6_126) rfl ?_
    refine XS.iload X82.here hx rfl (hb hby d6_127) rfl ?_
    refine XS.iadd X82.here hx rfl (hb hby d6_129) rfl ?_
    show Steps p.tables e below (T82.setTop (mkF m 130 #[vR a0, vR a1, vR a2, vI p3, vI (2 : Int32), vJ v85, .second, vI (5 : Int32)] [(.int (p3 + (2 : Int32))), (.ref a2)])) _
    refine XS.lload X82.here hx rfl (hb hby d6_130) rfl ?_
    exact k)
  obtain ⟨cl89, Ar89, q89, S89, M89, H89, G89⟩ := id av71
  have in89 : ¬ ((p3 + (2 : Int32)) < 0 ∨ cl89.slots.size ≤ ((p3 + (2 : Int32))).toNatClampNeg) := inb_of S89 hin2
  obtain ⟨T89, h89, X89, e89, W89, st89⟩ := stJ X82 hx hZ e82 Ar89 (j := (p3 + (2 : Int32))) in89 (g := (mkF m 132 #[vR a0, vR a1, vR a2, vI p3, vI (2 : Int32), vJ v85, .second, vI (5 : Int32)] [(.long v85), (.int (p3 + (2 : Int32))), (.ref a2)])) rfl rfl (hb hby d6_132)
  have pre89 : Go p.tables e below S0 T89 (mkF m 133 #[vR a0, vR a1, vR a2, vI p3, vI (2 : Int32), vJ v85, .second, vI (5 : Int32)] []) := fun t k => pre88 t (st89 t k)
  obtain ⟨lo89, N89, X89⟩ : ∃ lo, Fr n0 lo ∧ Stand p l e ({ frames := 0, cells := 0, slots := 0, locals := 0 } : Room) s m #[(.ref a0), (.ref a1), (.ref a2), (.int p3)] below meth c T89 lo 0 0 := ⟨_, Fr.snoc X89 N71 g0, X89⟩
  have av89 : Arv Z h89 a2 k2 .long (6 : Int32) [(.long (own_putL (p3 + (2 : Int32)) (0 : Int32) v85 (own_putL (p3 + (1 : Int32)) (0 : Int32) v63 (own_putL (p3 + (0 : Int32)) (0 : Int32) v28 x0)))), (.long (own_putL (p3 + (2 : Int32)) (1 : Int32) v85 (own_putL (p3 + (1 : Int32)) (1 : Int32) v63 (own_putL (p3 + (0 : Int32)) (1 : Int32) v28 x1)))), (.long (own_putL (p3 + (2 : Int32)) (2 : Int32) v85 (own_putL (p3 + (1 : Int32)) (2 : Int32) v63 (own_putL (p3 + (0 : Int32)) (2 : Int32) v28 x2)))), (.long (own_putL (p3 + (2 : Int32)) (3 : Int32) v85 (own_putL (p3 + (1 : Int32)) (3 : Int32) v63 (own_putL (p3 + (0 : Int32)) (3 : Int32) v28 x3)))), (.long (own_putL (p3 + (2 : Int32)) (4 : Int32) v85 (own_putL (p3 + (1 : Int32)) (4 : Int32) v63 (own_putL (p3 + (0 : Int32)) (4 : Int32) v28 x4)))), (.long (own_putL (p3 + (2 : Int32)) (5 : Int32) v85 (own_putL (p3 + (1 : Int32)) (5 : Int32) v63 (own_putL (p3 + (0 : Int32)) (5 : Int32) v28 x5))))] (.long (0 : Int64)) := by
    have q := Arv.set Ar89 q89 S89 M89 H89 G89 rfl W89 _ rfl (own_setJ6 (w := 0) (x0 := 0) (x1 := 0) (x2 := 0) (x3 := 0) (x4 := 0) (x5 := 0) hin2).1
    rw [(own_setJ6 hin2).2] at q
    exact q
  have f90_1 := Fld.other W89 f72_1 (Or.inl xe0)
  have f90_2 := Fld.other W89 f72_2 (Or.inl xe0)
  have f90_3 := Fld.other W89 f72_3 (Or.inl xe0)
  have f90_4 := f72_4.other W89 xe1
  have f90_5 := f72_5.other W89 xe2
  have f90_6 := f72_6.other W89 xe3
  have zz91 : n0 ≤ h89.size := Nat.le_trans zz73 (Keep.of_wr W89).1
  have kp92 : Keep h0 h89 [a2] := kp74.wr W89 (Or.inl (List.mem_of_getElem? (i := 0) rfl))
  obtain ⟨fs, hr, hrun, hended, hW, hsame⟩ := X89.leave (v := none) (fun _ => rfl)
  exact ⟨_, _, pre89.fin hS0 (X89.returnOut hx Bd.returns (hb hby d6_133) hr), hrun, hended, _, _, rfl, (by
    show Q6_00112 Z a0 a1 a2 p3 aw as kw ks k1 k2 u0 u1 u2 u3 u4 y0 y1 y2 y3 y4 x0 x1 x2 x3 x4 x5 h0 n0 _ T89.heap _
    rw [e89]
    subst hv85 hv63 hv50 hv28 hv15
    exact ⟨rfl, N89, _, _, _, _, _, _, ⟨rfl, rfl, rfl, rfl, rfl, rfl⟩, kp92, av89⟩), ⟨_, rfl⟩, hW, hsame.mono (by decide) (by decide)⟩
theorem ef_7 (m : MethodId) (x0 : Addr) : entryFrame m #[(.ref x0)] 1 = mkF m 0 #[.val (.ref x0)] [] := by first | (simp [entryFrame, mkF, argsToLocals, Value.category]; done) | rfl
theorem d7_0 : decode prog_46_method_2_code 0 = .ok (.aload_n 0, 1) := by decide +kernel
theorem d7_1 : decode prog_46_method_2_code 1 = .ok (.getfield 27, 3) := by decide +kernel
theorem d7_4 : decode prog_46_method_2_code 4 = .ok (.ireturn, 1) := by decide +kernel
def Q7 (Z : State) (a0 : Addr) (w : Int32) (h0 : Heap) (n0 : Nat) (v : Option Value) (h : Heap) (L : List Loc) : Prop := v = some (.int w) ∧ Fr n0 L ∧ h = h0
set_option maxRecDepth 65536 in
set_option maxHeartbeats 40000000 in
theorem rm7 (l : Launch) (Z : State) (A0 : Array Value) (hw : ∀ d ∈ tables_1, d.before A0 Z = true) (ws : List Jvm.Cond) (a0 : Addr) (w : Int32) (h0 : Heap) (n0 : Nat) (Z0 : n0 ≤ h0.size) (F0 : Fld Z h0 a0 "com/example/garantia/garantia/engine/StateLayout" "words" "I" (.int w)) :
    MetFree l (⟨"com/example/garantia/garantia/engine/StateLayout", "words", "()I"⟩ : MethodName) (head1 (Jvm.Cond.code (⟨"com/example/garantia/garantia/engine/StateLayout", "words", "()I"⟩ : MethodName) prog_46_method_2_code 1 (some .int) :: ws) ({ frames := 0, cells := 0, slots := 0, locals := 0 } : Room)) (fun a U => a = #[(.ref a0)] ∧ Z.Warmed39 U.vm ∧ U.heap = h0) (fun _ _ _ _ _ => True) (fun _ U o U' => ∃ v L, o = .returned v ∧ Q7 Z a0 w h0 n0 v U'.heap L ∧ FrameEnd U o U' L ({ frames := 0, cells := 0, slots := 0, locals := 0 } : Room).cells ({ frames := 0, cells := 0, slots := 0, locals := 0 } : Room).slots) := by
  refine MetFree.of_bodySF (plainFor_of_name pn_1) hisR ?_
  intro p e s m args below meth c s₁ Bd hml0 hP hK
  obtain ⟨rfl, hZ, hh⟩ := hP
  have hx := Bd.exec
  have hby := Bd.bytes
  have hml : c.maxLocals = 1 := hml0
  have hown : s.vm.findClass "com/example/garantia/garantia/engine/StateLayout" = some m.cls := findClass_of_methodNamed Bd.named
  have hnm := (name_of_methodNamed Bd.named Bd.method).1
  have X0 : Stand p l e ({ frames := 0, cells := 0, slots := 0, locals := 0 } : Room) s m #[(.ref a0)] below meth c s₁ [] 0 0 := Stand.of_body Bd
  have e0 : s₁.heap = h0 := by rw [← hh, Bd.state]; rfl
  have N0 := Fr.nil n0
  obtain ⟨S0, hS0⟩ : ∃ z, z = s₁.setTop (entryFrame m #[(.ref a0)] 1) := ⟨_, rfl⟩
  have pre0 : Go p.tables e below S0 s₁ (mkF m 0 #[vR a0] []) := fun t k => by rw [hS0]; exact castTop (ef_7 m a0) k
  have pre1 : Go p.tables e below S0 s₁ (mkF m 1 #[vR a0] [(.ref a0)]) := fun t k => pre0 t (by
    refine XS.aloadN X0.here hx rfl (hb hby d7_0) rfl rfl ?_
    exact k)
  obtain ⟨T2, X2, e2, st2⟩ := getF X0 hx hZ hown (host := "") (Or.inl (hw _ (List.mem_of_getElem? (i := 31) rfl))) Via.refl e0 F0 (g := (mkF m 1 #[vR a0] [(.ref a0)])) rfl rfl (hb hby d7_1)
  have pre2 : Go p.tables e below S0 T2 (mkF m 4 #[vR a0] [(.int w)]) := fun t k => pre1 t (st2 t k)
  obtain ⟨fs, hr, hrun, hended, hW, hsame⟩ := X2.leave (v := some (.int w)) (fun h => by rw [Bd.returns] at h; cases h)
  exact ⟨_, _, pre2.fin hS0 (retI X2 hx Bd.returns (hb hby d7_4) hr), hrun, hended, _, _, rfl, (by
    show Q7 Z a0 w h0 n0 _ T2.heap _
    rw [e2]
    exact ⟨rfl, N0, rfl⟩), ⟨_, rfl⟩, hW, hsame.mono (by decide) (by decide)⟩
theorem ef_8 (m : MethodId) (x0 : Addr) (x1 : Int32) (x2 : Int32) (x3 : Int32) (x4 : Addr) (x5 : Int64) : entryFrame m #[(.ref x0), (.int x1), (.int x2), (.int x3), (.ref x4), (.long x5)] 7 = mkF m 0 #[.val (.ref x0), .val (.int x1), .val (.int x2), .val (.int x3), .val (.ref x4), .val (.long x5), .second] [] := by first | (simp [entryFrame, mkF, argsToLocals, Value.category]; done) | rfl
theorem d8_0 : decode method_6_code 0 = .ok (.iload_n 1, 1) := by decide +kernel
theorem d8_1 : decode method_6_code 1 = .ok (.iload_n 2, 1) := by decide +kernel
theorem d8_2 : decode method_6_code 2 = .ok (.if_icmp .lt 29, 3) := by decide +kernel
theorem d8_5 : decode method_6_code 5 = .ok (.iload_n 1, 1) := by decide +kernel
theorem d8_6 : decode method_6_code 6 = .ok (.iload_n 2, 1) := by decide +kernel
theorem d8_7 : decode method_6_code 7 = .ok (.iload_n 3, 1) := by decide +kernel
theorem d8_8 : decode method_6_code 8 = .ok (.iadd, 1) := by decide +kernel
theorem d8_9 : decode method_6_code 9 = .ok (.if_icmp .ge 22, 3) := by decide +kernel
theorem d8_12 : decode method_6_code 12 = .ok (.aload_n 0, 1) := by decide +kernel
theorem d8_13 : decode method_6_code 13 = .ok (.iload_n 1, 1) := by decide +kernel
theorem d8_14 : decode method_6_code 14 = .ok (.laload, 1) := by decide +kernel
theorem d8_15 : decode method_6_code 15 = .ok (.aload 4, 2) := by decide +kernel
theorem d8_17 : decode method_6_code 17 = .ok (.iload_n 1, 1) := by decide +kernel
theorem d8_18 : decode method_6_code 18 = .ok (.iload_n 2, 1) := by decide +kernel
theorem d8_19 : decode method_6_code 19 = .ok (.isub, 1) := by decide +kernel
theorem d8_20 : decode method_6_code 20 = .ok (.laload, 1) := by decide +kernel
theorem d8_21 : decode method_6_code 21 = .ok (.lcmp, 1) := by decide +kernel
theorem d8_22 : decode method_6_code 22 = .ok (.ifCond .ne 7, 3) := by decide +kernel
theorem d8_25 : decode method_6_code 25 = .ok (.iconst 1, 1) := by decide +kernel
theorem d8_26 : decode method_6_code 26 = .ok (.goto 4, 3) := by decide +kernel
theorem d8_30 : decode method_6_code 30 = .ok (.ireturn, 1) := by decide +kernel
theorem d8_31 : decode method_6_code 31 = .ok (.aload_n 0, 1) := by decide +kernel
theorem d8_32 : decode method_6_code 32 = .ok (.iload_n 1, 1) := by decide +kernel
theorem d8_33 : decode method_6_code 33 = .ok (.laload, 1) := by decide +kernel
theorem d8_34 : decode method_6_code 34 = .ok (.lload 5, 2) := by decide +kernel
theorem d8_36 : decode method_6_code 36 = .ok (.lcmp, 1) := by decide +kernel
theorem d8_37 : decode method_6_code 37 = .ok (.ifCond .ne 7, 3) := by decide +kernel
theorem d8_40 : decode method_6_code 40 = .ok (.iconst 1, 1) := by decide +kernel
theorem d8_41 : decode method_6_code 41 = .ok (.goto 4, 3) := by decide +kernel
theorem d8_45 : decode method_6_code 45 = .ok (.ireturn, 1) := by decide +kernel
def Q8 (Z : State) (a0 : Addr) (p1 p2 p3 : Int32) (a4 : Addr) (q5 : Int64) (k0 k4 : ClassId) (x0 x1 x2 x3 x4 x5 e0_ e1_ e2_ : Int64) (h0 : Heap) (n0 : Nat) (v : Option Value) (h : Heap) (L : List Loc) : Prop := v = some (.int 1) ∧ Fr n0 L ∧ h = h0
set_option maxRecDepth 65536 in
set_option maxHeartbeats 40000000 in
theorem rm8 (l : Launch) (Z : State) (A0 : Array Value) (hw : ∀ d ∈ tables_1, d.before A0 Z = true) (ws : List Jvm.Cond) (a0 : Addr) (p1 : Int32) (p2 : Int32) (p3 : Int32) (a4 : Addr) (q5 : Int64) (k0 k4 : ClassId) (x0 x1 x2 x3 x4 x5 e0_ e1_ e2_ : Int64) (h0 : Heap) (n0 : Nat) (Z0 : n0 ≤ h0.size) (V0 : Arv Z h0 a0 k0 .long (6 : Int32) [(.long x0), (.long x1), (.long x2), (.long x3), (.long x4), (.long x5)] (.long (0 : Int64))) (V4 : Arv Z h0 a4 k4 .long (3 : Int32) [(.long e0_), (.long e1_), (.long e2_)] (.long (0 : Int64))) (hj : ¬ p1 < 0 ∧ p1 < (6 : Int32)) (hE : ¬ (p1 < p2) → p1 < (p2 + p3) → ¬ (p1 - p2) < 0 ∧ (p1 - p2) < (3 : Int32)) (hA : ¬ (p1 < p2) → p1 < (p2 + p3) → ([x0, x1, x2, x3, x4, x5].getD (p1).toNatClampNeg 0) = ([e0_, e1_, e2_].getD (p1 - p2).toNatClampNeg 0)) (hB : (p1 < p2 ∨ ¬ (p1 < (p2 + p3))) → ([x0, x1, x2, x3, x4, x5].getD (p1).toNatClampNeg 0) = q5) :
    MetFree l (⟨"com/example/garantia/garantia/engine/StateLayoutPackPinLaw", "cell", "([JIII[JJ)Z"⟩ : MethodName) (head1 (Jvm.Cond.code (⟨"com/example/garantia/garantia/engine/StateLayoutPackPinLaw", "cell", "([JIII[JJ)Z"⟩ : MethodName) method_6_code 7 (some .boolean) :: ws) ({ frames := 0, cells := 0, slots := 0, locals := 0 } : Room)) (fun a U => a = #[(.ref a0), (.int p1), (.int p2), (.int p3), (.ref a4), (.long q5)] ∧ Z.Warmed39 U.vm ∧ U.heap = h0) (fun _ _ _ _ _ => True) (fun _ U o U' => ∃ v L, o = .returned v ∧ Q8 Z a0 p1 p2 p3 a4 q5 k0 k4 x0 x1 x2 x3 x4 x5 e0_ e1_ e2_ h0 n0 v U'.heap L ∧ FrameEnd U o U' L ({ frames := 0, cells := 0, slots := 0, locals := 0 } : Room).cells ({ frames := 0, cells := 0, slots := 0, locals := 0 } : Room).slots) := by
  refine MetFree.of_bodySF (plainFor_of_name pn_0) hisR ?_
  intro p e s m args below meth c s₁ Bd hml0 hP hK
  obtain ⟨rfl, hZ, hh⟩ := hP
  have hx := Bd.exec
  have hby := Bd.bytes
  have hml : c.maxLocals = 7 := hml0
  have hown : s.vm.findClass "com/example/garantia/garantia/engine/StateLayoutPackPinLaw" = some m.cls := findClass_of_methodNamed Bd.named
  have hnm := (name_of_methodNamed Bd.named Bd.method).1
  have X0 : Stand p l e ({ frames := 0, cells := 0, slots := 0, locals := 0 } : Room) s m #[(.ref a0), (.int p1), (.int p2), (.int p3), (.ref a4), (.long q5)] below meth c s₁ [] 0 0 := Stand.of_body Bd
  have e0 : s₁.heap = h0 := by rw [← hh, Bd.state]; rfl
  have N0 := Fr.nil n0
  obtain ⟨S0, hS0⟩ : ∃ z, z = s₁.setTop (entryFrame m #[(.ref a0), (.int p1), (.int p2), (.int p3), (.ref a4), (.long q5)] 7) := ⟨_, rfl⟩
  have pre0 : Go p.tables e below S0 s₁ (mkF m 0 #[vR a0, vI p1, vI p2, vI p3, vR a4, vJ q5, .second] []) := fun t k => by rw [hS0]; exact castTop (ef_8 m a0 p1 p2 p3 a4 q5) k
  have pre1 : Go p.tables e below S0 s₁ (mkF m 2 #[vR a0, vI p1, vI p2, vI p3, vR a4, vJ q5, .second] [(.int p2), (.int p1)]) := fun t k => pre0 t (by
    refine XS.iloadN X0.here hx rfl (hb hby d8_0) rfl ?_
    refine XS.iloadN X0.here hx rfl (hb hby d8_1) rfl ?_
    exact k)
  by_cases c2_2 : p1 < p2
  · skip
    have pre3 : Go p.tables e below S0 s₁ (mkF m 33 #[vR a0, vI p1, vI p2, vI p3, vR a4, vJ q5, .second] [(.int p1), (.ref a0)]) := fun t k => pre1 t (by
      refine XS.icmpYes X0.here hx rfl (pc0 := 2) (pc' := 31) rfl (hb hby d8_2) rfl (tlt c2_2).1 (by decide) (by decide) ?_
      refine XS.aloadN X0.here hx rfl (hb hby d8_31) rfl rfl ?_
      refine XS.iloadN X0.here hx rfl (hb hby d8_32) rfl ?_
      show Steps p.tables e below (s₁.setTop (mkF m 33 #[vR a0, vI p1, vI p2, vI p3, vR a4, vJ q5, .second] [(.int p1), (.ref a0)])) _
      exact k)
    obtain ⟨cl4, Ar4, q4, S4, M4, H4, G4⟩ := id V0
    have in4 : ¬ (p1 < 0 ∨ cl4.slots.size ≤ (p1).toNatClampNeg) := inb_of S4 hj
    have at4 : cl4.slots[(p1).toNatClampNeg]? = some (.long ([x0, x1, x2, x3, x4, x5].getD (p1).toNatClampNeg 0)) := H4.at in4 (own_getJ [x0, x1, x2, x3, x4, x5] _)
    have pre5 : Go p.tables e below S0 s₁ (mkF m 37 #[vR a0, vI p1, vI p2, vI p3, vR a4, vJ q5, .second] [(.int (lcmpW ([x0, x1, x2, x3, x4, x5].getD (p1).toNatClampNeg 0) q5))]) := fun t k => pre3 t (by
      refine X0.laload hx (j := p1) (v := (.long ([x0, x1, x2, x3, x4, x5].getD (p1).toNatClampNeg 0))) (by rw [e0]; exact Ar4.1) (State.isArrayOf_alike hZ.alike Ar4.2.1) Ar4.2.2 in4 at4 (g := (mkF m 33 #[vR a0, vI p1, vI p2, vI p3, vR a4, vJ q5, .second] [(.int p1), (.ref a0)])) rfl rfl (hb hby d8_33) _ ?_
      refine XS.lload X0.here hx rfl (hb hby d8_34) rfl ?_
      refine XS.lcmp X0.here hx rfl (hb hby d8_36) rfl ?_
      show Steps p.tables e below (s₁.setTop (mkF m 37 #[vR a0, vI p1, vI p2, vI p3, vR a4, vJ q5, .second] [(.int (lcmpW ([x0, x1, x2, x3, x4, x5].getD (p1).toNatClampNeg 0) q5))])) _
      exact k)
    have cc6 : ([x0, x1, x2, x3, x4, x5].getD (p1).toNatClampNeg 0) = q5 := hB (Or.inl c2_2)
    have pre7 : Go p.tables e below S0 s₁ (mkF m 45 #[vR a0, vI p1, vI p2, vI p3, vR a4, vJ q5, .second] [(.int (1 : Int32))]) := fun t k => pre5 t (by
      refine XS.ifNo X0.here hx rfl (hb hby d8_37) rfl ((if0 _ _).trans (teq ((lw_eq _ _).mpr cc6)).2) ?_
      refine XS.iconst X0.here hx rfl (hb hby d8_40) ?_
      refine XS.goto X0.here hx rfl (pc0 := 41) (pc' := 45) rfl (hb hby d8_41) (by decide) (by decide) ?_
      show Steps p.tables e below (s₁.setTop (mkF m 45 #[vR a0, vI p1, vI p2, vI p3, vR a4, vJ q5, .second] [(.int (1 : Int32))])) _
      exact k)
    obtain ⟨fs, hr, hrun, hended, hW, hsame⟩ := X0.leave (v := some (.int (1 : Int32))) (fun h => by rw [Bd.returns] at h; cases h)
    exact ⟨_, _, pre7.fin hS0 (retN X0 hx (t := .boolean) Bd.returns (by simp) (hb hby d8_45) hr), hrun, hended, _, _, rfl, (by
      show Q8 Z a0 p1 p2 p3 a4 q5 k0 k4 x0 x1 x2 x3 x4 x5 e0_ e1_ e2_ h0 n0 _ s₁.heap _
      rw [e0]
      exact ⟨rfl, N0, rfl⟩), ⟨_, rfl⟩, hW, hsame.mono (by decide) (by decide)⟩
  · skip
    have pre8 : Go p.tables e below S0 s₁ (mkF m 9 #[vR a0, vI p1, vI p2, vI p3, vR a4, vJ q5, .second] [(.int (p2 + p3)), (.int p1)]) := fun t k => pre1 t (by
      refine XS.icmpNo X0.here hx rfl (hb hby d8_2) rfl (flt c2_2).1 ?_
      refine XS.iloadN X0.here hx rfl (hb hby d8_5) rfl ?_
      refine XS.iloadN X0.here hx rfl (hb hby d8_6) rfl ?_
      show Steps p.tables e below (s₁.setTop (mkF m 7 #[vR a0, vI p1, vI p2, vI p3, vR a4, vJ q5, .second] [(.int p2), (.int p1)])) _
      refine XS.iloadN X0.here hx rfl (hb hby d8_7) rfl ?_
      refine XS.iadd X0.here hx rfl (hb hby d8_8) rfl ?_
      exact k)
    by_cases c9_9 : p1 < (p2 + p3)
    · skip
      have pre10 : Go p.tables e below S0 s₁ (mkF m 14 #[vR a0, vI p1, vI p2, vI p3, vR a4, vJ q5, .second] [(.int p1), (.ref a0)]) := fun t k => pre8 t (by
        refine XS.icmpNo X0.here hx rfl (hb hby d8_9) rfl (tlt c9_9).2.1 ?_
        refine XS.aloadN X0.here hx rfl (hb hby d8_12) rfl rfl ?_
        refine XS.iloadN X0.here hx rfl (hb hby d8_13) rfl ?_
        show Steps p.tables e below (s₁.setTop (mkF m 14 #[vR a0, vI p1, vI p2, vI p3, vR a4, vJ q5, .second] [(.int p1), (.ref a0)])) _
        exact k)
      obtain ⟨cl11, Ar11, q11, S11, M11, H11, G11⟩ := id V0
      have in11 : ¬ (p1 < 0 ∨ cl11.slots.size ≤ (p1).toNatClampNeg) := inb_of S11 hj
      have at11 : cl11.slots[(p1).toNatClampNeg]? = some (.long ([x0, x1, x2, x3, x4, x5].getD (p1).toNatClampNeg 0)) := H11.at in11 (own_getJ [x0, x1, x2, x3, x4, x5] _)
      have pre12 : Go p.tables e below S0 s₁ (mkF m 20 #[vR a0, vI p1, vI p2, vI p3, vR a4, vJ q5, .second] [(.int (p1 - p2)), (.ref a4), (.long ([x0, x1, x2, x3, x4, x5].getD (p1).toNatClampNeg 0))]) := fun t k => pre10 t (by
        refine X0.laload hx (j := p1) (v := (.long ([x0, x1, x2, x3, x4, x5].getD (p1).toNatClampNeg 0))) (by rw [e0]; exact Ar11.1) (State.isArrayOf_alike hZ.alike Ar11.2.1) Ar11.2.2 in11 at11 (g := (mkF m 14 #[vR a0, vI p1, vI p2, vI p3, vR a4, vJ q5, .second] [(.int p1), (.ref a0)])) rfl rfl (hb hby d8_14) _ ?_
        refine XS.aload X0.here hx rfl (hb hby d8_15) rfl rfl ?_
        refine XS.iloadN X0.here hx rfl (hb hby d8_17) rfl ?_
        show Steps p.tables e below (s₁.setTop (mkF m 18 #[vR a0, vI p1, vI p2, vI p3, vR a4, vJ q5, .second] [(.int p1), (.ref a4), (.long ([x0, x1, x2, x3, x4, x5].getD (p1).toNatClampNeg 0))])) _
        refine XS.iloadN X0.here hx rfl (hb hby d8_18) rfl ?_
        refine XS.isub X0.here hx rfl (hb hby d8_19) rfl ?_
        exact k)
      obtain ⟨cl13, Ar13, q13, S13, M13, H13, G13⟩ := id V4
      have in13 : ¬ ((p1 - p2) < 0 ∨ cl13.slots.size ≤ ((p1 - p2)).toNatClampNeg) := inb_of S13 (hE c2_2 c9_9)
      have at13 : cl13.slots[((p1 - p2)).toNatClampNeg]? = some (.long ([e0_, e1_, e2_].getD ((p1 - p2)).toNatClampNeg 0)) := H13.at in13 (own_getJ [e0_, e1_, e2_] _)
      have pre14 : Go p.tables e below S0 s₁ (mkF m 22 #[vR a0, vI p1, vI p2, vI p3, vR a4, vJ q5, .second] [(.int (lcmpW ([x0, x1, x2, x3, x4, x5].getD (p1).toNatClampNeg 0) ([e0_, e1_, e2_].getD ((p1 - p2)).toNatClampNeg 0)))]) := fun t k => pre12 t (by
        refine X0.laload hx (j := (p1 - p2)) (v := (.long ([e0_, e1_, e2_].getD ((p1 - p2)).toNatClampNeg 0))) (by rw [e0]; exact Ar13.1) (State.isArrayOf_alike hZ.alike Ar13.2.1) Ar13.2.2 in13 at13 (g := (mkF m 20 #[vR a0, vI p1, vI p2, vI p3, vR a4, vJ q5, .second] [(.int (p1 - p2)), (.ref a4), (.long ([x0, x1, x2, x3, x4, x5].getD (p1).toNatClampNeg 0))])) rfl rfl (hb hby d8_20) _ ?_
        refine XS.lcmp X0.here hx rfl (hb hby d8_21) rfl ?_
        exact k)
      have cc15 : ([x0, x1, x2, x3, x4, x5].getD (p1).toNatClampNeg 0) = ([e0_, e1_, e2_].getD ((p1 - p2)).toNatClampNeg 0) := hA c2_2 c9_9
      have pre16 : Go p.tables e below S0 s₁ (mkF m 30 #[vR a0, vI p1, vI p2, vI p3, vR a4, vJ q5, .second] [(.int (1 : Int32))]) := fun t k => pre14 t (by
        refine XS.ifNo X0.here hx rfl (hb hby d8_22) rfl ((if0 _ _).trans (teq ((lw_eq _ _).mpr cc15)).2) ?_
        refine XS.iconst X0.here hx rfl (hb hby d8_25) ?_
        refine XS.goto X0.here hx rfl (pc0 := 26) (pc' := 30) rfl (hb hby d8_26) (by decide) (by decide) ?_
        show Steps p.tables e below (s₁.setTop (mkF m 30 #[vR a0, vI p1, vI p2, vI p3, vR a4, vJ q5, .second] [(.int (1 : Int32))])) _
        exact k)
      obtain ⟨fs, hr, hrun, hended, hW, hsame⟩ := X0.leave (v := some (.int (1 : Int32))) (fun h => by rw [Bd.returns] at h; cases h)
      exact ⟨_, _, pre16.fin hS0 (retN X0 hx (t := .boolean) Bd.returns (by simp) (hb hby d8_30) hr), hrun, hended, _, _, rfl, (by
        show Q8 Z a0 p1 p2 p3 a4 q5 k0 k4 x0 x1 x2 x3 x4 x5 e0_ e1_ e2_ h0 n0 _ s₁.heap _
        rw [e0]
        exact ⟨rfl, N0, rfl⟩), ⟨_, rfl⟩, hW, hsame.mono (by decide) (by decide)⟩
    · skip
      have pre17 : Go p.tables e below S0 s₁ (mkF m 33 #[vR a0, vI p1, vI p2, vI p3, vR a4, vJ q5, .second] [(.int p1), (.ref a0)]) := fun t k => pre8 t (by
        refine XS.icmpYes X0.here hx rfl (pc0 := 9) (pc' := 31) rfl (hb hby d8_9) rfl (flt c9_9).2.1 (by decide) (by decide) ?_
        refine XS.aloadN X0.here hx rfl (hb hby d8_31) rfl rfl ?_
        refine XS.iloadN X0.here hx rfl (hb hby d8_32) rfl ?_
        show Steps p.tables e below (s₁.setTop (mkF m 33 #[vR a0, vI p1, vI p2, vI p3, vR a4, vJ q5, .second] [(.int p1), (.ref a0)])) _
        exact k)
      obtain ⟨cl18, Ar18, q18, S18, M18, H18, G18⟩ := id V0
      have in18 : ¬ (p1 < 0 ∨ cl18.slots.size ≤ (p1).toNatClampNeg) := inb_of S18 hj
      have at18 : cl18.slots[(p1).toNatClampNeg]? = some (.long ([x0, x1, x2, x3, x4, x5].getD (p1).toNatClampNeg 0)) := H18.at in18 (own_getJ [x0, x1, x2, x3, x4, x5] _)
      have pre19 : Go p.tables e below S0 s₁ (mkF m 37 #[vR a0, vI p1, vI p2, vI p3, vR a4, vJ q5, .second] [(.int (lcmpW ([x0, x1, x2, x3, x4, x5].getD (p1).toNatClampNeg 0) q5))]) := fun t k => pre17 t (by
        refine X0.laload hx (j := p1) (v := (.long ([x0, x1, x2, x3, x4, x5].getD (p1).toNatClampNeg 0))) (by rw [e0]; exact Ar18.1) (State.isArrayOf_alike hZ.alike Ar18.2.1) Ar18.2.2 in18 at18 (g := (mkF m 33 #[vR a0, vI p1, vI p2, vI p3, vR a4, vJ q5, .second] [(.int p1), (.ref a0)])) rfl rfl (hb hby d8_33) _ ?_
        refine XS.lload X0.here hx rfl (hb hby d8_34) rfl ?_
        refine XS.lcmp X0.here hx rfl (hb hby d8_36) rfl ?_
        show Steps p.tables e below (s₁.setTop (mkF m 37 #[vR a0, vI p1, vI p2, vI p3, vR a4, vJ q5, .second] [(.int (lcmpW ([x0, x1, x2, x3, x4, x5].getD (p1).toNatClampNeg 0) q5))])) _
        exact k)
      have cc20 : ([x0, x1, x2, x3, x4, x5].getD (p1).toNatClampNeg 0) = q5 := hB (Or.inr c9_9)
      have pre21 : Go p.tables e below S0 s₁ (mkF m 45 #[vR a0, vI p1, vI p2, vI p3, vR a4, vJ q5, .second] [(.int (1 : Int32))]) := fun t k => pre19 t (by
        refine XS.ifNo X0.here hx rfl (hb hby d8_37) rfl ((if0 _ _).trans (teq ((lw_eq _ _).mpr cc20)).2) ?_
        refine XS.iconst X0.here hx rfl (hb hby d8_40) ?_
        refine XS.goto X0.here hx rfl (pc0 := 41) (pc' := 45) rfl (hb hby d8_41) (by decide) (by decide) ?_
        show Steps p.tables e below (s₁.setTop (mkF m 45 #[vR a0, vI p1, vI p2, vI p3, vR a4, vJ q5, .second] [(.int (1 : Int32))])) _
        exact k)
      obtain ⟨fs, hr, hrun, hended, hW, hsame⟩ := X0.leave (v := some (.int (1 : Int32))) (fun h => by rw [Bd.returns] at h; cases h)
      exact ⟨_, _, pre21.fin hS0 (retN X0 hx (t := .boolean) Bd.returns (by simp) (hb hby d8_45) hr), hrun, hended, _, _, rfl, (by
        show Q8 Z a0 p1 p2 p3 a4 q5 k0 k4 x0 x1 x2 x3 x4 x5 e0_ e1_ e2_ h0 n0 _ s₁.heap _
        rw [e0]
        exact ⟨rfl, N0, rfl⟩), ⟨_, rfl⟩, hW, hsame.mono (by decide) (by decide)⟩
theorem own_w {p s w : Int32} (h : w = own_width p s) : 0 ≤ w.toInt ∧ w.toInt ≤ 31 := by
  have a := c_and ((p.toUInt32 >>> (s &&& 31).toUInt32).toInt32) (31 : Int32) (by decide)
  have b := (c_iremV (((p.toUInt32 >>> (s &&& 31).toUInt32).toInt32) &&& (31 : Int32)) (31 : Int32)).1 a.1 (by decide)
  have c := c_iadd ((((p.toUInt32 >>> (s &&& 31).toUInt32).toInt32) &&& (31 : Int32)) % (31 : Int32)) (1 : Int32)
  have d := rng32 w
  have e : w = ((((p.toUInt32 >>> (s &&& 31).toUInt32).toInt32) &&& (31 : Int32)) % (31 : Int32)) + (1 : Int32) := h
  rw [← e] at c
  have t : (31 : Int32).toInt = 31 := rfl
  have t1 : (1 : Int32).toInt = 1 := rfl
  omega
theorem own_cb {c u w : Int32} (h : c = (0 : Int32) ∨ c = (1 : Int32)) : ¬ own_cur c u w < 0 ∧ own_cur c u w < (3 : Int32) := by
  unfold own_cur
  rcases h with rfl | rfl <;> split <;> decide
theorem own_c2 {w0 w1 w2 c2 u2 : Int32} (h0 : 0 ≤ w0.toInt ∧ w0.toInt ≤ 31) (h1 : 0 ≤ w1.toInt ∧ w1.toInt ≤ 31) (h2 : 0 ≤ w2.toInt ∧ w2.toInt ≤ 31) (e2 : c2 = own_cur (0 : Int32) (((0 : Int32) + w0) + w1) w2 ∧ u2 = own_u0 (((0 : Int32) + w0) + w1) w2) : c2 = (0 : Int32) ∨ c2 = (1 : Int32) := by
  have t := own_two h0 h1
  rcases own_st h2 (by omega) e2 with ⟨a, rfl, rfl⟩ | ⟨a, rfl, rfl⟩
  · exact Or.inl rfl
  · exact Or.inr rfl
theorem own_c3 {w0 w1 w2 w3 c2 u2 c3 u3 : Int32} (h0 : 0 ≤ w0.toInt ∧ w0.toInt ≤ 31) (h1 : 0 ≤ w1.toInt ∧ w1.toInt ≤ 31) (h2 : 0 ≤ w2.toInt ∧ w2.toInt ≤ 31) (h3 : 0 ≤ w3.toInt ∧ w3.toInt ≤ 31)
    (e2 : c2 = own_cur (0 : Int32) (((0 : Int32) + w0) + w1) w2 ∧ u2 = own_u0 (((0 : Int32) + w0) + w1) w2) (e3 : c3 = own_cur c2 (u2 + w2) w3 ∧ u3 = own_u0 (u2 + w2) w3) : c3 = (0 : Int32) ∨ c3 = (1 : Int32) := by
  rcases own_pat4 h0 h1 h2 h3 e2 e3 with ⟨-, q, -⟩ | ⟨-, q, -⟩ | ⟨-, q, -⟩
  · exact Or.inl q
  · exact Or.inr q
  · exact Or.inr q
theorem own_f0 {w c u : Int32} (h : 0 ≤ w.toInt ∧ w.toInt ≤ 31) (e : c = own_cur (0 : Int32) (0 : Int32) w ∧ u = own_u0 (0 : Int32) w) : c = (0 : Int32) ∧ u = (0 : Int32) := by
  obtain ⟨rfl, rfl⟩ := e
  exact ⟨if_neg (own_no1 h), if_neg (own_no1 h)⟩
theorem own_f1 {w v c u : Int32} (h : 0 ≤ w.toInt ∧ w.toInt ≤ 31) (h2 : 0 ≤ v.toInt ∧ v.toInt ≤ 31) (e : c = own_cur (0 : Int32) ((0 : Int32) + w) v ∧ u = own_u0 ((0 : Int32) + w) v) : c = (0 : Int32) ∧ u = (0 : Int32) + w := by
  obtain ⟨rfl, rfl⟩ := e
  exact ⟨if_neg (own_no2 h h2), if_neg (own_no2 h h2)⟩
theorem own_off {p o : Int32} (h : o = ((p.toUInt32 >>> ((25 : Int32) &&& 31).toUInt32).toInt32) &&& (3 : Int32)) : o = (0 : Int32) ∨ o = (1 : Int32) ∨ o = (2 : Int32) ∨ o = (3 : Int32) := by
  have h0 := c_and ((p.toUInt32 >>> ((25 : Int32) &&& 31).toUInt32).toInt32) (3 : Int32) (by decide)
  rw [← h] at h0
  simp only [← Int32.toInt_inj, Int32.reduceToInt] at *
  omega
theorem own_ix {o : Int32} (h : o = (0 : Int32) ∨ o = (1 : Int32) ∨ o = (2 : Int32) ∨ o = (3 : Int32)) : (¬ o < 0 ∧ o < (6 : Int32)) ∧ (¬ (o + (0 : Int32)) < 0 ∧ (o + (0 : Int32)) < (6 : Int32)) ∧ (¬ (o + (1 : Int32)) < 0 ∧ (o + (1 : Int32)) < (6 : Int32)) ∧ (¬ (o + (2 : Int32)) < 0 ∧ (o + (2 : Int32)) < (6 : Int32)) := by
  rcases h with rfl | rfl | rfl | rfl <;> decide
theorem ef_0 (m : MethodId) (x0 : Int32) (x1 : Int32) (x2 : Int32) (x3 : Int32) (x4 : Int32) (x5 : Int32) : entryFrame m #[(.int x0), (.int x1), (.int x2), (.int x3), (.int x4), (.int x5)] maxLocals = mkF m 0 #[.val (.int x0), .val (.int x1), .val (.int x2), .val (.int x3), .val (.int x4), .val (.int x5), .unset, .unset, .unset, .unset, .unset, .unset, .unset, .unset, .unset, .unset, .unset, .unset, .unset, .unset, .unset, .unset, .unset, .unset, .unset] [] := by first | (simp [entryFrame, mkF, argsToLocals, Value.category, maxLocals]; done) | rfl
theorem pd_0 : parseMethodDescriptor "(II)I" = some ⟨[.int, .int], some .int⟩ := by decide +kernel
theorem pd_1 : parseMethodDescriptor "(I)I" = some ⟨[.int], some .int⟩ := by decide +kernel
theorem pd_2 : parseMethodDescriptor "([J[III)V" = some ⟨[(.array .long), (.array .int), .int, .int], none⟩ := by decide +kernel
theorem pd_3 : parseMethodDescriptor "([I)V" = some ⟨[(.array .int)], none⟩ := by decide +kernel
theorem pd_4 : parseMethodDescriptor "([I[JI)V" = some ⟨[(.array .int), (.array .long), .int], none⟩ := by decide +kernel
theorem pd_5 : parseMethodDescriptor "()I" = some ⟨[], some .int⟩ := by decide +kernel
theorem pd_6 : parseMethodDescriptor "([JIII[JJ)Z" = some ⟨[(.array .long), .int, .int, .int, (.array .long), .long], some .boolean⟩ := by decide +kernel
def Q0 (Z : State) (p0 p1 p2 p3 p4 p5 : Int32) (h0 : Heap) (n0 : Nat) (v : Option Value) (h : Heap) (L : List Loc) : Prop := v = some (.int 1) ∧ Fr n0 L
set_option maxRecDepth 65536 in
set_option maxHeartbeats 40000000 in
theorem rm0 (l : Launch) (Z : State) (A0 : Array Value) (hw : ∀ d ∈ tables_1, d.before A0 Z = true) (ws : List Jvm.Cond) (p0 : Int32) (p1 : Int32) (p2 : Int32) (p3 : Int32) (p4 : Int32) (p5 : Int32)  (h0 : Heap) (n0 : Nat) (Z0 : n0 ≤ h0.size)  :
    MetFree l x (head1 (Jvm.Cond.code x code maxLocals ret :: ws) room_1) (fun a U => a = #[(.int p0), (.int p1), (.int p2), (.int p3), (.int p4), (.int p5)] ∧ Z.Warmed39 U.vm ∧ U.heap = h0) (fun _ _ _ _ _ => True) (fun _ U o U' => ∃ v L, o = .returned v ∧ Q0 Z p0 p1 p2 p3 p4 p5 h0 n0 v U'.heap L ∧ FrameEnd U o U' L 10 47) := by
  refine MetFree.of_bodySF (plainFor_of_name pn_0) hisR ?_
  intro p e s m args below meth c s₁ Bd hml0 hP hK
  obtain ⟨rfl, hZ, hh⟩ := hP
  have hx := Bd.exec
  have hby := Bd.bytes
  have hml : c.maxLocals = 25 := hml0
  have hown : s.vm.findClass "com/example/garantia/garantia/engine/StateLayoutPackPinLaw" = some m.cls := findClass_of_methodNamed Bd.named
  have hnm := (name_of_methodNamed Bd.named Bd.method).1
  have X0 : Stand p l e room_1 s m #[(.int p0), (.int p1), (.int p2), (.int p3), (.int p4), (.int p5)] below meth c s₁ [] 0 0 := Stand.of_body Bd
  have e0 : s₁.heap = h0 := by rw [← hh, Bd.state]; rfl
  have N0 := Fr.nil n0
  obtain ⟨S0, hS0⟩ : ∃ z, z = s₁.setTop (entryFrame m #[(.int p0), (.int p1), (.int p2), (.int p3), (.int p4), (.int p5)] maxLocals) := ⟨_, rfl⟩
  have pre0 : Go p.tables e below S0 s₁ (mkF m 0 #[vI p0, vI p1, vI p2, vI p3, vI p4, vI p5, .unset, .unset, .unset, .unset, .unset, .unset, .unset, .unset, .unset, .unset, .unset, .unset, .unset, .unset, .unset, .unset, .unset, .unset, .unset] []) := fun t k => by rw [hS0]; exact castTop (ef_0 m p0 p1 p2 p3 p4 p5) k
  have pre1 : Go p.tables e below S0 s₁ (mkF m 2 #[vI p0, vI p1, vI p2, vI p3, vI p4, vI p5, .unset, .unset, .unset, .unset, .unset, .unset, .unset, .unset, .unset, .unset, .unset, .unset, .unset, .unset, .unset, .unset, .unset, .unset, .unset] [(.int (0 : Int32)), (.int p0)]) := fun t k => pre0 t (by
    refine XS.iloadN X0.here hx rfl (hb hby at_0) rfl ?_
    refine XS.iconst X0.here hx rfl (hb hby at_1) ?_
    exact k)
  obtain ⟨_, _, ⟨T2, qL2, qk2, qn2⟩, -, X2, ⟨Lc2, hQ2, ql2, qy2, qz2⟩, st2⟩ := Jvm.LawKit.callS X0 hx (y := (⟨"com/example/garantia/garantia/engine/StateLayoutPackPinLaw", "width", "(II)I"⟩ : MethodName)) hown (mvT hZ (hw _ (List.mem_of_getElem? (i := 0) rfl))) (mvT hZ (hw _ (List.mem_of_getElem? (i := 1) rfl))) (mvT hZ (hw _ (List.mem_of_getElem? (i := 2) rfl))) (mvT hZ (hw _ (List.mem_of_getElem? (i := 3) rfl))) (by decide) (backOf (W := 0) (rm1 l Z A0 hw [] p0 (0 : Int32) h0 n0 Z0) hZ (hw _ (List.mem_of_getElem? (i := 3) rfl)) (hw _ (List.mem_of_getElem? (i := 2) rfl)) (by decide) (by decide)) (g := (mkF m 2 #[vI p0, vI p1, vI p2, vI p3, vI p4, vI p5, .unset, .unset, .unset, .unset, .unset, .unset, .unset, .unset, .unset, .unset, .unset, .unset, .unset, .unset, .unset, .unset, .unset, .unset, .unset] [(.int (0 : Int32)), (.int p0)])) rfl (by rw [hml]; rfl) (argsL := [(.int p0), (.int (0 : Int32))]) (rest := []) (lenOf pd_0 rfl) rfl (by show 2 * 0 + _ ≤ _; exact Nat.le_of_eq rfl) (hb hby at_2) (fun _ _ => ⟨rfl, e0, (by decide : 0 + 0 ≤ _), (by decide : 0 + 0 ≤ _)⟩)
  dsimp only [Pt.U, Pt.locs, Pt.cells, Pt.slots] at X2 ql2 qy2 qz2 st2 hQ2
  replace X2 := X2.more (Nat.le_of_eq qy2) (Nat.le_of_eq qz2)
  obtain ⟨rfl, Nq2, eq2⟩ := hQ2
  have N2 : Fr n0 qL2 := by rw [ql2]; exact Fr.app N0 Nq2
  have pre2 : Go p.tables e below S0 T2 (mkF m 5 #[vI p0, vI p1, vI p2, vI p3, vI p4, vI p5, .unset, .unset, .unset, .unset, .unset, .unset, .unset, .unset, .unset, .unset, .unset, .unset, .unset, .unset, .unset, .unset, .unset, .unset, .unset] [(.int (own_width p0 (0 : Int32)))]) := fun t k => pre1 t (st2 t k)
  obtain ⟨v3, hv3, pre3⟩ : ∃ z : Int32, z = (own_width p0 (0 : Int32)) ∧ Go p.tables e below S0 T2 (mkF m 7 #[vI p0, vI p1, vI p2, vI p3, vI p4, vI p5, vI z, .unset, .unset, .unset, .unset, .unset, .unset, .unset, .unset, .unset, .unset, .unset, .unset, .unset, .unset, .unset, .unset, .unset, .unset] []) := ⟨_, rfl, fun t k => pre2 t (by
    refine XS.istore X2.here hx rfl (hb hby at_5) rfl (l' := #[vI p0, vI p1, vI p2, vI p3, vI p4, vI p5, vI (own_width p0 (0 : Int32)), .unset, .unset, .unset, .unset, .unset, .unset, .unset, .unset, .unset, .unset, .unset, .unset, .unset, .unset, .unset, .unset, .unset, .unset]) rfl ?_
    exact k)⟩
  have hw0 := own_w hv3
  have pre4 : Go p.tables e below S0 T2 (mkF m 9 #[vI p0, vI p1, vI p2, vI p3, vI p4, vI p5, vI v3, .unset, .unset, .unset, .unset, .unset, .unset, .unset, .unset, .unset, .unset, .unset, .unset, .unset, .unset, .unset, .unset, .unset, .unset] [(.int (5 : Int32)), (.int p0)]) := fun t k => pre3 t (by
    refine XS.iloadN X2.here hx rfl (hb hby at_7) rfl ?_
    refine XS.iconst X2.here hx rfl (hb hby at_8) ?_
    exact k)
  obtain ⟨_, _, ⟨T5, qL5, qk5, qn5⟩, -, X5, ⟨Lc5, hQ5, ql5, qy5, qz5⟩, st5⟩ := Jvm.LawKit.callS X2 hx (y := (⟨"com/example/garantia/garantia/engine/StateLayoutPackPinLaw", "width", "(II)I"⟩ : MethodName)) hown (mvT hZ (hw _ (List.mem_of_getElem? (i := 0) rfl))) (mvT hZ (hw _ (List.mem_of_getElem? (i := 1) rfl))) (mvT hZ (hw _ (List.mem_of_getElem? (i := 2) rfl))) (mvT hZ (hw _ (List.mem_of_getElem? (i := 3) rfl))) (by decide) (backOf (W := 0) (rm1 l Z A0 hw [] p0 (5 : Int32) h0 n0 Z0) hZ (hw _ (List.mem_of_getElem? (i := 3) rfl)) (hw _ (List.mem_of_getElem? (i := 2) rfl)) (by decide) (by decide)) (g := (mkF m 9 #[vI p0, vI p1, vI p2, vI p3, vI p4, vI p5, vI v3, .unset, .unset, .unset, .unset, .unset, .unset, .unset, .unset, .unset, .unset, .unset, .unset, .unset, .unset, .unset, .unset, .unset, .unset] [(.int (5 : Int32)), (.int p0)])) rfl (by rw [hml]; rfl) (argsL := [(.int p0), (.int (5 : Int32))]) (rest := []) (lenOf pd_0 rfl) rfl (by show 2 * 0 + _ ≤ _; exact Nat.le_of_eq rfl) (hb hby at_9) (fun _ _ => ⟨rfl, eq2, (by decide : 0 + 0 ≤ _), (by decide : 0 + 0 ≤ _)⟩)
  dsimp only [Pt.U, Pt.locs, Pt.cells, Pt.slots] at X5 ql5 qy5 qz5 st5 hQ5
  replace X5 := X5.more (Nat.le_of_eq qy5) (Nat.le_of_eq qz5)
  obtain ⟨rfl, Nq5, eq5⟩ := hQ5
  have N5 : Fr n0 qL5 := by rw [ql5]; exact Fr.app N2 Nq5
  have pre5 : Go p.tables e below S0 T5 (mkF m 12 #[vI p0, vI p1, vI p2, vI p3, vI p4, vI p5, vI v3, .unset, .unset, .unset, .unset, .unset, .unset, .unset, .unset, .unset, .unset, .unset, .unset, .unset, .unset, .unset, .unset, .unset, .unset] [(.int (own_width p0 (5 : Int32)))]) := fun t k => pre4 t (st5 t k)
  obtain ⟨v6, hv6, pre6⟩ : ∃ z : Int32, z = (own_width p0 (5 : Int32)) ∧ Go p.tables e below S0 T5 (mkF m 14 #[vI p0, vI p1, vI p2, vI p3, vI p4, vI p5, vI v3, vI z, .unset, .unset, .unset, .unset, .unset, .unset, .unset, .unset, .unset, .unset, .unset, .unset, .unset, .unset, .unset, .unset, .unset] []) := ⟨_, rfl, fun t k => pre5 t (by
    refine XS.istore X5.here hx rfl (hb hby at_12) rfl (l' := #[vI p0, vI p1, vI p2, vI p3, vI p4, vI p5, vI v3, vI (own_width p0 (5 : Int32)), .unset, .unset, .unset, .unset, .unset, .unset, .unset, .unset, .unset, .unset, .unset, .unset, .unset, .unset, .unset, .unset, .unset]) rfl ?_
    exact k)⟩
  have hw1 := own_w hv6
  have pre7 : Go p.tables e below S0 T5 (mkF m 17 #[vI p0, vI p1, vI p2, vI p3, vI p4, vI p5, vI v3, vI v6, .unset, .unset, .unset, .unset, .unset, .unset, .unset, .unset, .unset, .unset, .unset, .unset, .unset, .unset, .unset, .unset, .unset] [(.int (10 : Int32)), (.int p0)]) := fun t k => pre6 t (by
    refine XS.iloadN X5.here hx rfl (hb hby at_14) rfl ?_
    refine XS.bipush X5.here hx rfl (hb hby at_15) ?_
    exact k)
  obtain ⟨_, _, ⟨T8, qL8, qk8, qn8⟩, -, X8, ⟨Lc8, hQ8, ql8, qy8, qz8⟩, st8⟩ := Jvm.LawKit.callS X5 hx (y := (⟨"com/example/garantia/garantia/engine/StateLayoutPackPinLaw", "width", "(II)I"⟩ : MethodName)) hown (mvT hZ (hw _ (List.mem_of_getElem? (i := 0) rfl))) (mvT hZ (hw _ (List.mem_of_getElem? (i := 1) rfl))) (mvT hZ (hw _ (List.mem_of_getElem? (i := 2) rfl))) (mvT hZ (hw _ (List.mem_of_getElem? (i := 3) rfl))) (by decide) (backOf (W := 0) (rm1 l Z A0 hw [] p0 (10 : Int32) h0 n0 Z0) hZ (hw _ (List.mem_of_getElem? (i := 3) rfl)) (hw _ (List.mem_of_getElem? (i := 2) rfl)) (by decide) (by decide)) (g := (mkF m 17 #[vI p0, vI p1, vI p2, vI p3, vI p4, vI p5, vI v3, vI v6, .unset, .unset, .unset, .unset, .unset, .unset, .unset, .unset, .unset, .unset, .unset, .unset, .unset, .unset, .unset, .unset, .unset] [(.int (10 : Int32)), (.int p0)])) rfl (by rw [hml]; rfl) (argsL := [(.int p0), (.int (10 : Int32))]) (rest := []) (lenOf pd_0 rfl) rfl (by show 2 * 0 + _ ≤ _; exact Nat.le_of_eq rfl) (hb hby at_17) (fun _ _ => ⟨rfl, eq5, (by decide : 0 + 0 ≤ _), (by decide : 0 + 0 ≤ _)⟩)
  dsimp only [Pt.U, Pt.locs, Pt.cells, Pt.slots] at X8 ql8 qy8 qz8 st8 hQ8
  replace X8 := X8.more (Nat.le_of_eq qy8) (Nat.le_of_eq qz8)
  obtain ⟨rfl, Nq8, eq8⟩ := hQ8
  have N8 : Fr n0 qL8 := by rw [ql8]; exact Fr.app N5 Nq8
  have pre8 : Go p.tables e below S0 T8 (mkF m 20 #[vI p0, vI p1, vI p2, vI p3, vI p4, vI p5, vI v3, vI v6, .unset, .unset, .unset, .unset, .unset, .unset, .unset, .unset, .unset, .unset, .unset, .unset, .unset, .unset, .unset, .unset, .unset] [(.int (own_width p0 (10 : Int32)))]) := fun t k => pre7 t (st8 t k)
  obtain ⟨v9, hv9, pre9⟩ : ∃ z : Int32, z = (own_width p0 (10 : Int32)) ∧ Go p.tables e below S0 T8 (mkF m 22 #[vI p0, vI p1, vI p2, vI p3, vI p4, vI p5, vI v3, vI v6, vI z, .unset, .unset, .unset, .unset, .unset, .unset, .unset, .unset, .unset, .unset, .unset, .unset, .unset, .unset, .unset, .unset] []) := ⟨_, rfl, fun t k => pre8 t (by
    refine XS.istore X8.here hx rfl (hb hby at_20) rfl (l' := #[vI p0, vI p1, vI p2, vI p3, vI p4, vI p5, vI v3, vI v6, vI (own_width p0 (10 : Int32)), .unset, .unset, .unset, .unset, .unset, .unset, .unset, .unset, .unset, .unset, .unset, .unset, .unset, .unset, .unset, .unset]) rfl ?_
    exact k)⟩
  have hw2 := own_w hv9
  have pre10 : Go p.tables e below S0 T8 (mkF m 25 #[vI p0, vI p1, vI p2, vI p3, vI p4, vI p5, vI v3, vI v6, vI v9, .unset, .unset, .unset, .unset, .unset, .unset, .unset, .unset, .unset, .unset, .unset, .unset, .unset, .unset, .unset, .unset] [(.int (15 : Int32)), (.int p0)]) := fun t k => pre9 t (by
    refine XS.iloadN X8.here hx rfl (hb hby at_22) rfl ?_
    refine XS.bipush X8.here hx rfl (hb hby at_23) ?_
    exact k)
  obtain ⟨_, _, ⟨T11, qL11, qk11, qn11⟩, -, X11, ⟨Lc11, hQ11, ql11, qy11, qz11⟩, st11⟩ := Jvm.LawKit.callS X8 hx (y := (⟨"com/example/garantia/garantia/engine/StateLayoutPackPinLaw", "width", "(II)I"⟩ : MethodName)) hown (mvT hZ (hw _ (List.mem_of_getElem? (i := 0) rfl))) (mvT hZ (hw _ (List.mem_of_getElem? (i := 1) rfl))) (mvT hZ (hw _ (List.mem_of_getElem? (i := 2) rfl))) (mvT hZ (hw _ (List.mem_of_getElem? (i := 3) rfl))) (by decide) (backOf (W := 0) (rm1 l Z A0 hw [] p0 (15 : Int32) h0 n0 Z0) hZ (hw _ (List.mem_of_getElem? (i := 3) rfl)) (hw _ (List.mem_of_getElem? (i := 2) rfl)) (by decide) (by decide)) (g := (mkF m 25 #[vI p0, vI p1, vI p2, vI p3, vI p4, vI p5, vI v3, vI v6, vI v9, .unset, .unset, .unset, .unset, .unset, .unset, .unset, .unset, .unset, .unset, .unset, .unset, .unset, .unset, .unset, .unset] [(.int (15 : Int32)), (.int p0)])) rfl (by rw [hml]; rfl) (argsL := [(.int p0), (.int (15 : Int32))]) (rest := []) (lenOf pd_0 rfl) rfl (by show 2 * 0 + _ ≤ _; exact Nat.le_of_eq rfl) (hb hby at_25) (fun _ _ => ⟨rfl, eq8, (by decide : 0 + 0 ≤ _), (by decide : 0 + 0 ≤ _)⟩)
  dsimp only [Pt.U, Pt.locs, Pt.cells, Pt.slots] at X11 ql11 qy11 qz11 st11 hQ11
  replace X11 := X11.more (Nat.le_of_eq qy11) (Nat.le_of_eq qz11)
  obtain ⟨rfl, Nq11, eq11⟩ := hQ11
  have N11 : Fr n0 qL11 := by rw [ql11]; exact Fr.app N8 Nq11
  have pre11 : Go p.tables e below S0 T11 (mkF m 28 #[vI p0, vI p1, vI p2, vI p3, vI p4, vI p5, vI v3, vI v6, vI v9, .unset, .unset, .unset, .unset, .unset, .unset, .unset, .unset, .unset, .unset, .unset, .unset, .unset, .unset, .unset, .unset] [(.int (own_width p0 (15 : Int32)))]) := fun t k => pre10 t (st11 t k)
  obtain ⟨v12, hv12, pre12⟩ : ∃ z : Int32, z = (own_width p0 (15 : Int32)) ∧ Go p.tables e below S0 T11 (mkF m 30 #[vI p0, vI p1, vI p2, vI p3, vI p4, vI p5, vI v3, vI v6, vI v9, vI z, .unset, .unset, .unset, .unset, .unset, .unset, .unset, .unset, .unset, .unset, .unset, .unset, .unset, .unset, .unset] []) := ⟨_, rfl, fun t k => pre11 t (by
    refine XS.istore X11.here hx rfl (hb hby at_28) rfl (l' := #[vI p0, vI p1, vI p2, vI p3, vI p4, vI p5, vI v3, vI v6, vI v9, vI (own_width p0 (15 : Int32)), .unset, .unset, .unset, .unset, .unset, .unset, .unset, .unset, .unset, .unset, .unset, .unset, .unset, .unset, .unset]) rfl ?_
    exact k)⟩
  have hw3 := own_w hv12
  have pre13 : Go p.tables e below S0 T11 (mkF m 33 #[vI p0, vI p1, vI p2, vI p3, vI p4, vI p5, vI v3, vI v6, vI v9, vI v12, .unset, .unset, .unset, .unset, .unset, .unset, .unset, .unset, .unset, .unset, .unset, .unset, .unset, .unset, .unset] [(.int (20 : Int32)), (.int p0)]) := fun t k => pre12 t (by
    refine XS.iloadN X11.here hx rfl (hb hby at_30) rfl ?_
    refine XS.bipush X11.here hx rfl (hb hby at_31) ?_
    exact k)
  obtain ⟨_, _, ⟨T14, qL14, qk14, qn14⟩, -, X14, ⟨Lc14, hQ14, ql14, qy14, qz14⟩, st14⟩ := Jvm.LawKit.callS X11 hx (y := (⟨"com/example/garantia/garantia/engine/StateLayoutPackPinLaw", "width", "(II)I"⟩ : MethodName)) hown (mvT hZ (hw _ (List.mem_of_getElem? (i := 0) rfl))) (mvT hZ (hw _ (List.mem_of_getElem? (i := 1) rfl))) (mvT hZ (hw _ (List.mem_of_getElem? (i := 2) rfl))) (mvT hZ (hw _ (List.mem_of_getElem? (i := 3) rfl))) (by decide) (backOf (W := 0) (rm1 l Z A0 hw [] p0 (20 : Int32) h0 n0 Z0) hZ (hw _ (List.mem_of_getElem? (i := 3) rfl)) (hw _ (List.mem_of_getElem? (i := 2) rfl)) (by decide) (by decide)) (g := (mkF m 33 #[vI p0, vI p1, vI p2, vI p3, vI p4, vI p5, vI v3, vI v6, vI v9, vI v12, .unset, .unset, .unset, .unset, .unset, .unset, .unset, .unset, .unset, .unset, .unset, .unset, .unset, .unset, .unset] [(.int (20 : Int32)), (.int p0)])) rfl (by rw [hml]; rfl) (argsL := [(.int p0), (.int (20 : Int32))]) (rest := []) (lenOf pd_0 rfl) rfl (by show 2 * 0 + _ ≤ _; exact Nat.le_of_eq rfl) (hb hby at_33) (fun _ _ => ⟨rfl, eq11, (by decide : 0 + 0 ≤ _), (by decide : 0 + 0 ≤ _)⟩)
  dsimp only [Pt.U, Pt.locs, Pt.cells, Pt.slots] at X14 ql14 qy14 qz14 st14 hQ14
  replace X14 := X14.more (Nat.le_of_eq qy14) (Nat.le_of_eq qz14)
  obtain ⟨rfl, Nq14, eq14⟩ := hQ14
  have N14 : Fr n0 qL14 := by rw [ql14]; exact Fr.app N11 Nq14
  have pre14 : Go p.tables e below S0 T14 (mkF m 36 #[vI p0, vI p1, vI p2, vI p3, vI p4, vI p5, vI v3, vI v6, vI v9, vI v12, .unset, .unset, .unset, .unset, .unset, .unset, .unset, .unset, .unset, .unset, .unset, .unset, .unset, .unset, .unset] [(.int (own_width p0 (20 : Int32)))]) := fun t k => pre13 t (st14 t k)
  obtain ⟨v15, hv15, pre15⟩ : ∃ z : Int32, z = (own_width p0 (20 : Int32)) ∧ Go p.tables e below S0 T14 (mkF m 38 #[vI p0, vI p1, vI p2, vI p3, vI p4, vI p5, vI v3, vI v6, vI v9, vI v12, vI z, .unset, .unset, .unset, .unset, .unset, .unset, .unset, .unset, .unset, .unset, .unset, .unset, .unset, .unset] []) := ⟨_, rfl, fun t k => pre14 t (by
    refine XS.istore X14.here hx rfl (hb hby at_36) rfl (l' := #[vI p0, vI p1, vI p2, vI p3, vI p4, vI p5, vI v3, vI v6, vI v9, vI v12, vI (own_width p0 (20 : Int32)), .unset, .unset, .unset, .unset, .unset, .unset, .unset, .unset, .unset, .unset, .unset, .unset, .unset, .unset]) rfl ?_
    exact k)⟩
  have hw4 := own_w hv15
  have pre16 : Go p.tables e below S0 T14 (mkF m 41 #[vI p0, vI p1, vI p2, vI p3, vI p4, vI p5, vI v3, vI v6, vI v9, vI v12, vI v15, .unset, .unset, .unset, .unset, .unset, .unset, .unset, .unset, .unset, .unset, .unset, .unset, .unset, .unset] [(.int v3), (.int p1)]) := fun t k => pre15 t (by
    refine XS.iloadN X14.here hx rfl (hb hby at_38) rfl ?_
    refine XS.iload X14.here hx rfl (hb hby at_39) rfl ?_
    exact k)
  obtain ⟨_, _, ⟨T17, qL17, qk17, qn17⟩, -, X17, ⟨Lc17, hQ17, ql17, qy17, qz17⟩, st17⟩ := Jvm.LawKit.callS X14 hx (y := (⟨"com/example/garantia/garantia/engine/StateLayoutPackPinLaw", "low", "(I)I"⟩ : MethodName)) hown (mvT hZ (hw _ (List.mem_of_getElem? (i := 4) rfl))) (mvT hZ (hw _ (List.mem_of_getElem? (i := 5) rfl))) (mvT hZ (hw _ (List.mem_of_getElem? (i := 2) rfl))) (mvT hZ (hw _ (List.mem_of_getElem? (i := 6) rfl))) (by decide) (backOf (W := 1) (rm2 l Z A0 hw [] v3 h0 n0 Z0) hZ (hw _ (List.mem_of_getElem? (i := 6) rfl)) (hw _ (List.mem_of_getElem? (i := 2) rfl)) (by decide) (by decide)) (g := (mkF m 41 #[vI p0, vI p1, vI p2, vI p3, vI p4, vI p5, vI v3, vI v6, vI v9, vI v12, vI v15, .unset, .unset, .unset, .unset, .unset, .unset, .unset, .unset, .unset, .unset, .unset, .unset, .unset, .unset] [(.int v3), (.int p1)])) rfl (by rw [hml]; rfl) (argsL := [(.int v3)]) (rest := [(.int p1)]) (lenOf pd_1 rfl) rfl (by show 2 * 0 + _ ≤ _; exact Nat.le_of_eq rfl) (hb hby at_41) (fun _ _ => ⟨rfl, eq14, (by decide : 0 + 0 ≤ _), (by decide : 0 + 0 ≤ _)⟩)
  dsimp only [Pt.U, Pt.locs, Pt.cells, Pt.slots] at X17 ql17 qy17 qz17 st17 hQ17
  replace X17 := X17.more (Nat.le_of_eq qy17) (Nat.le_of_eq qz17)
  obtain ⟨rfl, Nq17, eq17⟩ := hQ17
  have N17 : Fr n0 qL17 := by rw [ql17]; exact Fr.app N14 Nq17
  have pre17 : Go p.tables e below S0 T17 (mkF m 44 #[vI p0, vI p1, vI p2, vI p3, vI p4, vI p5, vI v3, vI v6, vI v9, vI v12, vI v15, .unset, .unset, .unset, .unset, .unset, .unset, .unset, .unset, .unset, .unset, .unset, .unset, .unset, .unset] [(.int (own_low v3)), (.int p1)]) := fun t k => pre16 t (st17 t k)
  obtain ⟨v18, hv18, pre18⟩ : ∃ z : Int32, z = (p1 &&& (own_low v3)) ∧ Go p.tables e below S0 T17 (mkF m 47 #[vI p0, vI p1, vI p2, vI p3, vI p4, vI p5, vI v3, vI v6, vI v9, vI v12, vI v15, vI z, .unset, .unset, .unset, .unset, .unset, .unset, .unset, .unset, .unset, .unset, .unset, .unset, .unset] []) := ⟨_, rfl, fun t k => pre17 t (by
    refine XS.iand X17.here hx rfl (hb hby at_44) rfl ?_
    refine XS.istore X17.here hx rfl (hb hby at_45) rfl (l' := #[vI p0, vI p1, vI p2, vI p3, vI p4, vI p5, vI v3, vI v6, vI v9, vI v12, vI v15, vI (p1 &&& (own_low v3)), .unset, .unset, .unset, .unset, .unset, .unset, .unset, .unset, .unset, .unset, .unset, .unset, .unset]) rfl ?_
    exact k)⟩
  have pre19 : Go p.tables e below S0 T17 (mkF m 50 #[vI p0, vI p1, vI p2, vI p3, vI p4, vI p5, vI v3, vI v6, vI v9, vI v12, vI v15, vI v18, .unset, .unset, .unset, .unset, .unset, .unset, .unset, .unset, .unset, .unset, .unset, .unset, .unset] [(.int v6), (.int p2)]) := fun t k => pre18 t (by
    refine XS.iloadN X17.here hx rfl (hb hby at_47) rfl ?_
    refine XS.iload X17.here hx rfl (hb hby at_48) rfl ?_
    exact k)
  obtain ⟨_, _, ⟨T20, qL20, qk20, qn20⟩, -, X20, ⟨Lc20, hQ20, ql20, qy20, qz20⟩, st20⟩ := Jvm.LawKit.callS X17 hx (y := (⟨"com/example/garantia/garantia/engine/StateLayoutPackPinLaw", "low", "(I)I"⟩ : MethodName)) hown (mvT hZ (hw _ (List.mem_of_getElem? (i := 4) rfl))) (mvT hZ (hw _ (List.mem_of_getElem? (i := 5) rfl))) (mvT hZ (hw _ (List.mem_of_getElem? (i := 2) rfl))) (mvT hZ (hw _ (List.mem_of_getElem? (i := 6) rfl))) (by decide) (backOf (W := 1) (rm2 l Z A0 hw [] v6 h0 n0 Z0) hZ (hw _ (List.mem_of_getElem? (i := 6) rfl)) (hw _ (List.mem_of_getElem? (i := 2) rfl)) (by decide) (by decide)) (g := (mkF m 50 #[vI p0, vI p1, vI p2, vI p3, vI p4, vI p5, vI v3, vI v6, vI v9, vI v12, vI v15, vI v18, .unset, .unset, .unset, .unset, .unset, .unset, .unset, .unset, .unset, .unset, .unset, .unset, .unset] [(.int v6), (.int p2)])) rfl (by rw [hml]; rfl) (argsL := [(.int v6)]) (rest := [(.int p2)]) (lenOf pd_1 rfl) rfl (by show 2 * 0 + _ ≤ _; exact Nat.le_of_eq rfl) (hb hby at_50) (fun _ _ => ⟨rfl, eq17, (by decide : 0 + 0 ≤ _), (by decide : 0 + 0 ≤ _)⟩)
  dsimp only [Pt.U, Pt.locs, Pt.cells, Pt.slots] at X20 ql20 qy20 qz20 st20 hQ20
  replace X20 := X20.more (Nat.le_of_eq qy20) (Nat.le_of_eq qz20)
  obtain ⟨rfl, Nq20, eq20⟩ := hQ20
  have N20 : Fr n0 qL20 := by rw [ql20]; exact Fr.app N17 Nq20
  have pre20 : Go p.tables e below S0 T20 (mkF m 53 #[vI p0, vI p1, vI p2, vI p3, vI p4, vI p5, vI v3, vI v6, vI v9, vI v12, vI v15, vI v18, .unset, .unset, .unset, .unset, .unset, .unset, .unset, .unset, .unset, .unset, .unset, .unset, .unset] [(.int (own_low v6)), (.int p2)]) := fun t k => pre19 t (st20 t k)
  obtain ⟨v21, hv21, pre21⟩ : ∃ z : Int32, z = (p2 &&& (own_low v6)) ∧ Go p.tables e below S0 T20 (mkF m 56 #[vI p0, vI p1, vI p2, vI p3, vI p4, vI p5, vI v3, vI v6, vI v9, vI v12, vI v15, vI v18, vI z, .unset, .unset, .unset, .unset, .unset, .unset, .unset, .unset, .unset, .unset, .unset, .unset] []) := ⟨_, rfl, fun t k => pre20 t (by
    refine XS.iand X20.here hx rfl (hb hby at_53) rfl ?_
    refine XS.istore X20.here hx rfl (hb hby at_54) rfl (l' := #[vI p0, vI p1, vI p2, vI p3, vI p4, vI p5, vI v3, vI v6, vI v9, vI v12, vI v15, vI v18, vI (p2 &&& (own_low v6)), .unset, .unset, .unset, .unset, .unset, .unset, .unset, .unset, .unset, .unset, .unset, .unset]) rfl ?_
    exact k)⟩
  have pre22 : Go p.tables e below S0 T20 (mkF m 59 #[vI p0, vI p1, vI p2, vI p3, vI p4, vI p5, vI v3, vI v6, vI v9, vI v12, vI v15, vI v18, vI v21, .unset, .unset, .unset, .unset, .unset, .unset, .unset, .unset, .unset, .unset, .unset, .unset] [(.int v9), (.int p3)]) := fun t k => pre21 t (by
    refine XS.iloadN X20.here hx rfl (hb hby at_56) rfl ?_
    refine XS.iload X20.here hx rfl (hb hby at_57) rfl ?_
    exact k)
  obtain ⟨_, _, ⟨T23, qL23, qk23, qn23⟩, -, X23, ⟨Lc23, hQ23, ql23, qy23, qz23⟩, st23⟩ := Jvm.LawKit.callS X20 hx (y := (⟨"com/example/garantia/garantia/engine/StateLayoutPackPinLaw", "low", "(I)I"⟩ : MethodName)) hown (mvT hZ (hw _ (List.mem_of_getElem? (i := 4) rfl))) (mvT hZ (hw _ (List.mem_of_getElem? (i := 5) rfl))) (mvT hZ (hw _ (List.mem_of_getElem? (i := 2) rfl))) (mvT hZ (hw _ (List.mem_of_getElem? (i := 6) rfl))) (by decide) (backOf (W := 1) (rm2 l Z A0 hw [] v9 h0 n0 Z0) hZ (hw _ (List.mem_of_getElem? (i := 6) rfl)) (hw _ (List.mem_of_getElem? (i := 2) rfl)) (by decide) (by decide)) (g := (mkF m 59 #[vI p0, vI p1, vI p2, vI p3, vI p4, vI p5, vI v3, vI v6, vI v9, vI v12, vI v15, vI v18, vI v21, .unset, .unset, .unset, .unset, .unset, .unset, .unset, .unset, .unset, .unset, .unset, .unset] [(.int v9), (.int p3)])) rfl (by rw [hml]; rfl) (argsL := [(.int v9)]) (rest := [(.int p3)]) (lenOf pd_1 rfl) rfl (by show 2 * 0 + _ ≤ _; exact Nat.le_of_eq rfl) (hb hby at_59) (fun _ _ => ⟨rfl, eq20, (by decide : 0 + 0 ≤ _), (by decide : 0 + 0 ≤ _)⟩)
  dsimp only [Pt.U, Pt.locs, Pt.cells, Pt.slots] at X23 ql23 qy23 qz23 st23 hQ23
  replace X23 := X23.more (Nat.le_of_eq qy23) (Nat.le_of_eq qz23)
  obtain ⟨rfl, Nq23, eq23⟩ := hQ23
  have N23 : Fr n0 qL23 := by rw [ql23]; exact Fr.app N20 Nq23
  have pre23 : Go p.tables e below S0 T23 (mkF m 62 #[vI p0, vI p1, vI p2, vI p3, vI p4, vI p5, vI v3, vI v6, vI v9, vI v12, vI v15, vI v18, vI v21, .unset, .unset, .unset, .unset, .unset, .unset, .unset, .unset, .unset, .unset, .unset, .unset] [(.int (own_low v9)), (.int p3)]) := fun t k => pre22 t (st23 t k)
  obtain ⟨v24, hv24, pre24⟩ : ∃ z : Int32, z = (p3 &&& (own_low v9)) ∧ Go p.tables e below S0 T23 (mkF m 65 #[vI p0, vI p1, vI p2, vI p3, vI p4, vI p5, vI v3, vI v6, vI v9, vI v12, vI v15, vI v18, vI v21, vI z, .unset, .unset, .unset, .unset, .unset, .unset, .unset, .unset, .unset, .unset, .unset] []) := ⟨_, rfl, fun t k => pre23 t (by
    refine XS.iand X23.here hx rfl (hb hby at_62) rfl ?_
    refine XS.istore X23.here hx rfl (hb hby at_63) rfl (l' := #[vI p0, vI p1, vI p2, vI p3, vI p4, vI p5, vI v3, vI v6, vI v9, vI v12, vI v15, vI v18, vI v21, vI (p3 &&& (own_low v9)), .unset, .unset, .unset, .unset, .unset, .unset, .unset, .unset, .unset, .unset, .unset]) rfl ?_
    exact k)⟩
  have pre25 : Go p.tables e below S0 T23 (mkF m 69 #[vI p0, vI p1, vI p2, vI p3, vI p4, vI p5, vI v3, vI v6, vI v9, vI v12, vI v15, vI v18, vI v21, vI v24, .unset, .unset, .unset, .unset, .unset, .unset, .unset, .unset, .unset, .unset, .unset] [(.int v12), (.int p4)]) := fun t k => pre24 t (by
    refine XS.iload X23.here hx rfl (hb hby at_65) rfl ?_
    refine XS.iload X23.here hx rfl (hb hby at_67) rfl ?_
    exact k)
  obtain ⟨_, _, ⟨T26, qL26, qk26, qn26⟩, -, X26, ⟨Lc26, hQ26, ql26, qy26, qz26⟩, st26⟩ := Jvm.LawKit.callS X23 hx (y := (⟨"com/example/garantia/garantia/engine/StateLayoutPackPinLaw", "low", "(I)I"⟩ : MethodName)) hown (mvT hZ (hw _ (List.mem_of_getElem? (i := 4) rfl))) (mvT hZ (hw _ (List.mem_of_getElem? (i := 5) rfl))) (mvT hZ (hw _ (List.mem_of_getElem? (i := 2) rfl))) (mvT hZ (hw _ (List.mem_of_getElem? (i := 6) rfl))) (by decide) (backOf (W := 1) (rm2 l Z A0 hw [] v12 h0 n0 Z0) hZ (hw _ (List.mem_of_getElem? (i := 6) rfl)) (hw _ (List.mem_of_getElem? (i := 2) rfl)) (by decide) (by decide)) (g := (mkF m 69 #[vI p0, vI p1, vI p2, vI p3, vI p4, vI p5, vI v3, vI v6, vI v9, vI v12, vI v15, vI v18, vI v21, vI v24, .unset, .unset, .unset, .unset, .unset, .unset, .unset, .unset, .unset, .unset, .unset] [(.int v12), (.int p4)])) rfl (by rw [hml]; rfl) (argsL := [(.int v12)]) (rest := [(.int p4)]) (lenOf pd_1 rfl) rfl (by show 2 * 0 + _ ≤ _; exact Nat.le_of_eq rfl) (hb hby at_69) (fun _ _ => ⟨rfl, eq23, (by decide : 0 + 0 ≤ _), (by decide : 0 + 0 ≤ _)⟩)
  dsimp only [Pt.U, Pt.locs, Pt.cells, Pt.slots] at X26 ql26 qy26 qz26 st26 hQ26
  replace X26 := X26.more (Nat.le_of_eq qy26) (Nat.le_of_eq qz26)
  obtain ⟨rfl, Nq26, eq26⟩ := hQ26
  have N26 : Fr n0 qL26 := by rw [ql26]; exact Fr.app N23 Nq26
  have pre26 : Go p.tables e below S0 T26 (mkF m 72 #[vI p0, vI p1, vI p2, vI p3, vI p4, vI p5, vI v3, vI v6, vI v9, vI v12, vI v15, vI v18, vI v21, vI v24, .unset, .unset, .unset, .unset, .unset, .unset, .unset, .unset, .unset, .unset, .unset] [(.int (own_low v12)), (.int p4)]) := fun t k => pre25 t (st26 t k)
  obtain ⟨v27, hv27, pre27⟩ : ∃ z : Int32, z = (p4 &&& (own_low v12)) ∧ Go p.tables e below S0 T26 (mkF m 75 #[vI p0, vI p1, vI p2, vI p3, vI p4, vI p5, vI v3, vI v6, vI v9, vI v12, vI v15, vI v18, vI v21, vI v24, vI z, .unset, .unset, .unset, .unset, .unset, .unset, .unset, .unset, .unset, .unset] []) := ⟨_, rfl, fun t k => pre26 t (by
    refine XS.iand X26.here hx rfl (hb hby at_72) rfl ?_
    refine XS.istore X26.here hx rfl (hb hby at_73) rfl (l' := #[vI p0, vI p1, vI p2, vI p3, vI p4, vI p5, vI v3, vI v6, vI v9, vI v12, vI v15, vI v18, vI v21, vI v24, vI (p4 &&& (own_low v12)), .unset, .unset, .unset, .unset, .unset, .unset, .unset, .unset, .unset, .unset]) rfl ?_
    exact k)⟩
  have pre28 : Go p.tables e below S0 T26 (mkF m 79 #[vI p0, vI p1, vI p2, vI p3, vI p4, vI p5, vI v3, vI v6, vI v9, vI v12, vI v15, vI v18, vI v21, vI v24, vI v27, .unset, .unset, .unset, .unset, .unset, .unset, .unset, .unset, .unset, .unset] [(.int v15), (.int p5)]) := fun t k => pre27 t (by
    refine XS.iload X26.here hx rfl (hb hby at_75) rfl ?_
    refine XS.iload X26.here hx rfl (hb hby at_77) rfl ?_
    exact k)
  obtain ⟨_, _, ⟨T29, qL29, qk29, qn29⟩, -, X29, ⟨Lc29, hQ29, ql29, qy29, qz29⟩, st29⟩ := Jvm.LawKit.callS X26 hx (y := (⟨"com/example/garantia/garantia/engine/StateLayoutPackPinLaw", "low", "(I)I"⟩ : MethodName)) hown (mvT hZ (hw _ (List.mem_of_getElem? (i := 4) rfl))) (mvT hZ (hw _ (List.mem_of_getElem? (i := 5) rfl))) (mvT hZ (hw _ (List.mem_of_getElem? (i := 2) rfl))) (mvT hZ (hw _ (List.mem_of_getElem? (i := 6) rfl))) (by decide) (backOf (W := 1) (rm2 l Z A0 hw [] v15 h0 n0 Z0) hZ (hw _ (List.mem_of_getElem? (i := 6) rfl)) (hw _ (List.mem_of_getElem? (i := 2) rfl)) (by decide) (by decide)) (g := (mkF m 79 #[vI p0, vI p1, vI p2, vI p3, vI p4, vI p5, vI v3, vI v6, vI v9, vI v12, vI v15, vI v18, vI v21, vI v24, vI v27, .unset, .unset, .unset, .unset, .unset, .unset, .unset, .unset, .unset, .unset] [(.int v15), (.int p5)])) rfl (by rw [hml]; rfl) (argsL := [(.int v15)]) (rest := [(.int p5)]) (lenOf pd_1 rfl) rfl (by show 2 * 0 + _ ≤ _; exact Nat.le_of_eq rfl) (hb hby at_79) (fun _ _ => ⟨rfl, eq26, (by decide : 0 + 0 ≤ _), (by decide : 0 + 0 ≤ _)⟩)
  dsimp only [Pt.U, Pt.locs, Pt.cells, Pt.slots] at X29 ql29 qy29 qz29 st29 hQ29
  replace X29 := X29.more (Nat.le_of_eq qy29) (Nat.le_of_eq qz29)
  obtain ⟨rfl, Nq29, eq29⟩ := hQ29
  have N29 : Fr n0 qL29 := by rw [ql29]; exact Fr.app N26 Nq29
  have pre29 : Go p.tables e below S0 T29 (mkF m 82 #[vI p0, vI p1, vI p2, vI p3, vI p4, vI p5, vI v3, vI v6, vI v9, vI v12, vI v15, vI v18, vI v21, vI v24, vI v27, .unset, .unset, .unset, .unset, .unset, .unset, .unset, .unset, .unset, .unset] [(.int (own_low v15)), (.int p5)]) := fun t k => pre28 t (st29 t k)
  obtain ⟨v30, hv30, pre30⟩ : ∃ z : Int32, z = (p5 &&& (own_low v15)) ∧ Go p.tables e below S0 T29 (mkF m 85 #[vI p0, vI p1, vI p2, vI p3, vI p4, vI p5, vI v3, vI v6, vI v9, vI v12, vI v15, vI v18, vI v21, vI v24, vI v27, vI z, .unset, .unset, .unset, .unset, .unset, .unset, .unset, .unset, .unset] []) := ⟨_, rfl, fun t k => pre29 t (by
    refine XS.iand X29.here hx rfl (hb hby at_82) rfl ?_
    refine XS.istore X29.here hx rfl (hb hby at_83) rfl (l' := #[vI p0, vI p1, vI p2, vI p3, vI p4, vI p5, vI v3, vI v6, vI v9, vI v12, vI v15, vI v18, vI v21, vI v24, vI v27, vI (p5 &&& (own_low v15)), .unset, .unset, .unset, .unset, .unset, .unset, .unset, .unset, .unset]) rfl ?_
    exact k)⟩
  have pre31 : Go p.tables e below S0 T29 (mkF m 86 #[vI p0, vI p1, vI p2, vI p3, vI p4, vI p5, vI v3, vI v6, vI v9, vI v12, vI v15, vI v18, vI v21, vI v24, vI v27, vI v30, .unset, .unset, .unset, .unset, .unset, .unset, .unset, .unset, .unset] [(.int (3 : Int32))]) := fun t k => pre30 t (by
    refine XS.iconst X29.here hx rfl (hb hby at_85) ?_
    exact k)
  obtain ⟨T32, h32, kA32, X32, e32, E32, A32, st32⟩ := newP X29 hx hZ (hw _ (List.mem_of_getElem? (i := 7) rfl)) eq29 (g := (mkF m 86 #[vI p0, vI p1, vI p2, vI p3, vI p4, vI p5, vI v3, vI v6, vI v9, vI v12, vI v15, vI v18, vI v21, vI v24, vI v27, vI v30, .unset, .unset, .unset, .unset, .unset, .unset, .unset, .unset, .unset] [(.int (3 : Int32))])) rfl (hb hby at_86) rfl (by decide) (cap := 3) (by decide) (by decide) (by decide) (by decide)
  obtain ⟨b32, g32⟩ : ∃ z, z = h0.size := ⟨_, rfl⟩
  rw [← g32] at A32 st32
  have pre32 : Go p.tables e below S0 T32 (mkF m 88 #[vI p0, vI p1, vI p2, vI p3, vI p4, vI p5, vI v3, vI v6, vI v9, vI v12, vI v15, vI v18, vI v21, vI v24, vI v27, vI v30, .unset, .unset, .unset, .unset, .unset, .unset, .unset, .unset, .unset] [(.ref b32)]) := fun t k => pre31 t (st32 t k)
  have bo32 : n0 ≤ b32 := Nat.le_trans Z0 (Nat.le_of_eq g32.symm)
  have zz34 : n0 ≤ h32.size := Nat.le_trans Z0 E32.1
  have av32 : Arv Z h32 b32 kA32 .long (3 : Int32) [(.long (0 : Int64)), (.long (0 : Int64)), (.long (0 : Int64))] (.long (0 : Int64)) := (Arv.new A32 (by decide)).pad (pad_rep [] (.long (0 : Int64)) 3)
  have pre35 : Go p.tables e below S0 T32 (mkF m 91 #[vI p0, vI p1, vI p2, vI p3, vI p4, vI p5, vI v3, vI v6, vI v9, vI v12, vI v15, vI v18, vI v21, vI v24, vI v27, vI v30, vR b32, .unset, .unset, .unset, .unset, .unset, .unset, .unset, .unset] [(.int (2 : Int32))]) := fun t k => pre32 t (by
    refine XS.astore X32.here hx rfl (hb hby at_88) rfl rfl (l' := #[vI p0, vI p1, vI p2, vI p3, vI p4, vI p5, vI v3, vI v6, vI v9, vI v12, vI v15, vI v18, vI v21, vI v24, vI v27, vI v30, vR b32, .unset, .unset, .unset, .unset, .unset, .unset, .unset, .unset]) rfl ?_
    refine XS.iconst X32.here hx rfl (hb hby at_90) ?_
    exact k)
  obtain ⟨T36, h36, kA36, X36, e36, E36, A36, st36⟩ := newP X32 hx hZ (hw _ (List.mem_of_getElem? (i := 8) rfl)) e32 (g := (mkF m 91 #[vI p0, vI p1, vI p2, vI p3, vI p4, vI p5, vI v3, vI v6, vI v9, vI v12, vI v15, vI v18, vI v21, vI v24, vI v27, vI v30, vR b32, .unset, .unset, .unset, .unset, .unset, .unset, .unset, .unset] [(.int (2 : Int32))])) rfl (hb hby at_91) rfl (by decide) (cap := 2) (by decide) (by decide) (by decide) (by decide)
  obtain ⟨b36, g36⟩ : ∃ z, z = h32.size := ⟨_, rfl⟩
  rw [← g36] at A36 st36
  have pre36 : Go p.tables e below S0 T36 (mkF m 93 #[vI p0, vI p1, vI p2, vI p3, vI p4, vI p5, vI v3, vI v6, vI v9, vI v12, vI v15, vI v18, vI v21, vI v24, vI v27, vI v30, vR b32, .unset, .unset, .unset, .unset, .unset, .unset, .unset, .unset] [(.ref b36)]) := fun t k => pre35 t (st36 t k)
  have ne37 : b32 ≠ b36 := Nat.ne_of_lt (Nat.lt_of_lt_of_le av32.lt (Nat.le_of_eq g36.symm))
  have bo36 : n0 ≤ b36 := Nat.le_trans zz34 (Nat.le_of_eq g36.symm)
  have f38_1 := av32.ext E36
  have zz39 : n0 ≤ h36.size := Nat.le_trans zz34 E36.1
  have av36 : Arv Z h36 b36 kA36 .int (2 : Int32) [(.int (0 : Int32)), (.int (0 : Int32))] (.int (0 : Int32)) := (Arv.new A36 (by decide)).pad (pad_rep [] (.int (0 : Int32)) 2)
  have pre40 : Go p.tables e below S0 T36 (mkF m 103 #[vI p0, vI p1, vI p2, vI p3, vI p4, vI p5, vI v3, vI v6, vI v9, vI v12, vI v15, vI v18, vI v21, vI v24, vI v27, vI v30, vR b32, vR b36, .unset, .unset, .unset, .unset, .unset, .unset, .unset] [(.int v18), (.int v3), (.ref b36), (.ref b32)]) := fun t k => pre36 t (by
    refine XS.astore X36.here hx rfl (hb hby at_93) rfl rfl (l' := #[vI p0, vI p1, vI p2, vI p3, vI p4, vI p5, vI v3, vI v6, vI v9, vI v12, vI v15, vI v18, vI v21, vI v24, vI v27, vI v30, vR b32, vR b36, .unset, .unset, .unset, .unset, .unset, .unset, .unset]) rfl ?_
    refine XS.aload X36.here hx rfl (hb hby at_95) rfl rfl ?_
    refine XS.aload X36.here hx rfl (hb hby at_97) rfl rfl ?_
    show Steps p.tables e below (T36.setTop (mkF m 99 #[vI p0, vI p1, vI p2, vI p3, vI p4, vI p5, vI v3, vI v6, vI v9, vI v12, vI v15, vI v18, vI v21, vI v24, vI v27, vI v30, vR b32, vR b36, .unset, .unset, .unset, .unset, .unset, .unset, .unset] [(.ref b36), (.ref b32)])) _
    refine XS.iload X36.here hx rfl (hb hby at_99) rfl ?_
    refine XS.iload X36.here hx rfl (hb hby at_101) rfl ?_
    exact k)
  obtain ⟨_, _, ⟨T41, qL41, qk41, qn41⟩, -, X41, ⟨Lc41, hQ41, ql41, qy41, qz41⟩, st41⟩ := Jvm.LawKit.callS X36 hx (y := (⟨"com/example/garantia/garantia/engine/StateLayoutPackPinLaw", "place", "([J[III)V"⟩ : MethodName)) hown (mvT hZ (hw _ (List.mem_of_getElem? (i := 9) rfl))) (mvT hZ (hw _ (List.mem_of_getElem? (i := 10) rfl))) (mvT hZ (hw _ (List.mem_of_getElem? (i := 2) rfl))) (mvT hZ (hw _ (List.mem_of_getElem? (i := 11) rfl))) (by decide) (backOf (W := 0) (rm3 l Z A0 hw [] b32 b36 v3 v18 kA32 kA36 (0 : Int64) (0 : Int64) (0 : Int64) (0 : Int32) (0 : Int32) h36 n0 zz39 f38_1 av36 ne37 bo32 bo36 (own_cb (Or.inl rfl))) hZ (hw _ (List.mem_of_getElem? (i := 11) rfl)) (hw _ (List.mem_of_getElem? (i := 2) rfl)) (by decide) (by decide)) (g := (mkF m 103 #[vI p0, vI p1, vI p2, vI p3, vI p4, vI p5, vI v3, vI v6, vI v9, vI v12, vI v15, vI v18, vI v21, vI v24, vI v27, vI v30, vR b32, vR b36, .unset, .unset, .unset, .unset, .unset, .unset, .unset] [(.int v18), (.int v3), (.ref b36), (.ref b32)])) rfl (by rw [hml]; rfl) (argsL := [(.ref b32), (.ref b36), (.int v3), (.int v18)]) (rest := []) (lenOf pd_2 rfl) rfl (by show 2 * 0 + _ ≤ _; exact Nat.le_of_eq rfl) (hb hby at_103) (fun _ _ => ⟨rfl, e36, (by decide : 2 + 0 ≤ _), (by decide : 5 + 0 ≤ _)⟩)
  dsimp only [Pt.U, Pt.locs, Pt.cells, Pt.slots] at X41 ql41 qy41 qz41 st41 hQ41
  replace X41 := X41.more (Nat.le_of_eq qy41) (Nat.le_of_eq qz41)
  obtain ⟨rfl, Nq41, cP0, uP0, t0_0, t0_1, t0_2, hP0, hT0, Kq41, nf41_0, nf41_1⟩ := hQ41
  have N41 : Fr n0 qL41 := by rw [ql41]; exact Fr.app N29 Nq41
  have pre41 : Go p.tables e below S0 T41 (mkF m 106 #[vI p0, vI p1, vI p2, vI p3, vI p4, vI p5, vI v3, vI v6, vI v9, vI v12, vI v15, vI v18, vI v21, vI v24, vI v27, vI v30, vR b32, vR b36, .unset, .unset, .unset, .unset, .unset, .unset, .unset] []) := fun t k => pre40 t (st41 t k)
  have zz43 : n0 ≤ T41.heap.size := Nat.le_trans zz39 Kq41.1
  obtain ⟨rfl, rfl⟩ := own_f0 hw0 hP0
  have pre44 : Go p.tables e below S0 T41 (mkF m 114 #[vI p0, vI p1, vI p2, vI p3, vI p4, vI p5, vI v3, vI v6, vI v9, vI v12, vI v15, vI v18, vI v21, vI v24, vI v27, vI v30, vR b32, vR b36, .unset, .unset, .unset, .unset, .unset, .unset, .unset] [(.int v21), (.int v6), (.ref b36), (.ref b32)]) := fun t k => pre41 t (by
    refine XS.aload X41.here hx rfl (hb hby at_106) rfl rfl ?_
    refine XS.aload X41.here hx rfl (hb hby at_108) rfl rfl ?_
    refine XS.iload X41.here hx rfl (hb hby at_110) rfl ?_
    show Steps p.tables e below (T41.setTop (mkF m 112 #[vI p0, vI p1, vI p2, vI p3, vI p4, vI p5, vI v3, vI v6, vI v9, vI v12, vI v15, vI v18, vI v21, vI v24, vI v27, vI v30, vR b32, vR b36, .unset, .unset, .unset, .unset, .unset, .unset, .unset] [(.int v6), (.ref b36), (.ref b32)])) _
    refine XS.iload X41.here hx rfl (hb hby at_112) rfl ?_
    exact k)
  obtain ⟨_, _, ⟨T45, qL45, qk45, qn45⟩, -, X45, ⟨Lc45, hQ45, ql45, qy45, qz45⟩, st45⟩ := Jvm.LawKit.callS X41 hx (y := (⟨"com/example/garantia/garantia/engine/StateLayoutPackPinLaw", "place", "([J[III)V"⟩ : MethodName)) hown (mvT hZ (hw _ (List.mem_of_getElem? (i := 9) rfl))) (mvT hZ (hw _ (List.mem_of_getElem? (i := 10) rfl))) (mvT hZ (hw _ (List.mem_of_getElem? (i := 2) rfl))) (mvT hZ (hw _ (List.mem_of_getElem? (i := 11) rfl))) (by decide) (backOf (W := 0) (rm3 l Z A0 hw [] b32 b36 v6 v21 kA32 kA36 t0_0 t0_1 t0_2 (0 : Int32) ((0 : Int32) + v3) T41.heap n0 zz43 nf41_0 nf41_1 ne37 bo32 bo36 (own_cb (Or.inl rfl))) hZ (hw _ (List.mem_of_getElem? (i := 11) rfl)) (hw _ (List.mem_of_getElem? (i := 2) rfl)) (by decide) (by decide)) (g := (mkF m 114 #[vI p0, vI p1, vI p2, vI p3, vI p4, vI p5, vI v3, vI v6, vI v9, vI v12, vI v15, vI v18, vI v21, vI v24, vI v27, vI v30, vR b32, vR b36, .unset, .unset, .unset, .unset, .unset, .unset, .unset] [(.int v21), (.int v6), (.ref b36), (.ref b32)])) rfl (by rw [hml]; rfl) (argsL := [(.ref b32), (.ref b36), (.int v6), (.int v21)]) (rest := []) (lenOf pd_2 rfl) rfl (by show 2 * 0 + _ ≤ _; exact Nat.le_of_eq rfl) (hb hby at_114) (fun _ _ => ⟨rfl, rfl, (by decide : 2 + 0 ≤ _), (by decide : 5 + 0 ≤ _)⟩)
  dsimp only [Pt.U, Pt.locs, Pt.cells, Pt.slots] at X45 ql45 qy45 qz45 st45 hQ45
  replace X45 := X45.more (Nat.le_of_eq qy45) (Nat.le_of_eq qz45)
  obtain ⟨rfl, Nq45, cP1, uP1, t1_0, t1_1, t1_2, hP1, hT1, Kq45, nf45_0, nf45_1⟩ := hQ45
  have N45 : Fr n0 qL45 := by rw [ql45]; exact Fr.app N41 Nq45
  have pre45 : Go p.tables e below S0 T45 (mkF m 117 #[vI p0, vI p1, vI p2, vI p3, vI p4, vI p5, vI v3, vI v6, vI v9, vI v12, vI v15, vI v18, vI v21, vI v24, vI v27, vI v30, vR b32, vR b36, .unset, .unset, .unset, .unset, .unset, .unset, .unset] []) := fun t k => pre44 t (st45 t k)
  have zz47 : n0 ≤ T45.heap.size := Nat.le_trans zz43 Kq45.1
  obtain ⟨rfl, rfl⟩ := own_f1 hw0 hw1 hP1
  have pre48 : Go p.tables e below S0 T45 (mkF m 125 #[vI p0, vI p1, vI p2, vI p3, vI p4, vI p5, vI v3, vI v6, vI v9, vI v12, vI v15, vI v18, vI v21, vI v24, vI v27, vI v30, vR b32, vR b36, .unset, .unset, .unset, .unset, .unset, .unset, .unset] [(.int v24), (.int v9), (.ref b36), (.ref b32)]) := fun t k => pre45 t (by
    refine XS.aload X45.here hx rfl (hb hby at_117) rfl rfl ?_
    refine XS.aload X45.here hx rfl (hb hby at_119) rfl rfl ?_
    refine XS.iload X45.here hx rfl (hb hby at_121) rfl ?_
    show Steps p.tables e below (T45.setTop (mkF m 123 #[vI p0, vI p1, vI p2, vI p3, vI p4, vI p5, vI v3, vI v6, vI v9, vI v12, vI v15, vI v18, vI v21, vI v24, vI v27, vI v30, vR b32, vR b36, .unset, .unset, .unset, .unset, .unset, .unset, .unset] [(.int v9), (.ref b36), (.ref b32)])) _
    refine XS.iload X45.here hx rfl (hb hby at_123) rfl ?_
    exact k)
  obtain ⟨_, _, ⟨T49, qL49, qk49, qn49⟩, -, X49, ⟨Lc49, hQ49, ql49, qy49, qz49⟩, st49⟩ := Jvm.LawKit.callS X45 hx (y := (⟨"com/example/garantia/garantia/engine/StateLayoutPackPinLaw", "place", "([J[III)V"⟩ : MethodName)) hown (mvT hZ (hw _ (List.mem_of_getElem? (i := 9) rfl))) (mvT hZ (hw _ (List.mem_of_getElem? (i := 10) rfl))) (mvT hZ (hw _ (List.mem_of_getElem? (i := 2) rfl))) (mvT hZ (hw _ (List.mem_of_getElem? (i := 11) rfl))) (by decide) (backOf (W := 0) (rm3 l Z A0 hw [] b32 b36 v9 v24 kA32 kA36 t1_0 t1_1 t1_2 (0 : Int32) (((0 : Int32) + v3) + v6) T45.heap n0 zz47 nf45_0 nf45_1 ne37 bo32 bo36 (own_cb (Or.inl rfl))) hZ (hw _ (List.mem_of_getElem? (i := 11) rfl)) (hw _ (List.mem_of_getElem? (i := 2) rfl)) (by decide) (by decide)) (g := (mkF m 125 #[vI p0, vI p1, vI p2, vI p3, vI p4, vI p5, vI v3, vI v6, vI v9, vI v12, vI v15, vI v18, vI v21, vI v24, vI v27, vI v30, vR b32, vR b36, .unset, .unset, .unset, .unset, .unset, .unset, .unset] [(.int v24), (.int v9), (.ref b36), (.ref b32)])) rfl (by rw [hml]; rfl) (argsL := [(.ref b32), (.ref b36), (.int v9), (.int v24)]) (rest := []) (lenOf pd_2 rfl) rfl (by show 2 * 0 + _ ≤ _; exact Nat.le_of_eq rfl) (hb hby at_125) (fun _ _ => ⟨rfl, rfl, (by decide : 2 + 0 ≤ _), (by decide : 5 + 0 ≤ _)⟩)
  dsimp only [Pt.U, Pt.locs, Pt.cells, Pt.slots] at X49 ql49 qy49 qz49 st49 hQ49
  replace X49 := X49.more (Nat.le_of_eq qy49) (Nat.le_of_eq qz49)
  obtain ⟨rfl, Nq49, cP2, uP2, t2_0, t2_1, t2_2, hP2, hT2, Kq49, nf49_0, nf49_1⟩ := hQ49
  have N49 : Fr n0 qL49 := by rw [ql49]; exact Fr.app N45 Nq49
  have pre49 : Go p.tables e below S0 T49 (mkF m 128 #[vI p0, vI p1, vI p2, vI p3, vI p4, vI p5, vI v3, vI v6, vI v9, vI v12, vI v15, vI v18, vI v21, vI v24, vI v27, vI v30, vR b32, vR b36, .unset, .unset, .unset, .unset, .unset, .unset, .unset] []) := fun t k => pre48 t (st49 t k)
  have zz51 : n0 ≤ T49.heap.size := Nat.le_trans zz47 Kq49.1
  have pre52 : Go p.tables e below S0 T49 (mkF m 136 #[vI p0, vI p1, vI p2, vI p3, vI p4, vI p5, vI v3, vI v6, vI v9, vI v12, vI v15, vI v18, vI v21, vI v24, vI v27, vI v30, vR b32, vR b36, .unset, .unset, .unset, .unset, .unset, .unset, .unset] [(.int v27), (.int v12), (.ref b36), (.ref b32)]) := fun t k => pre49 t (by
    refine XS.aload X49.here hx rfl (hb hby at_128) rfl rfl ?_
    refine XS.aload X49.here hx rfl (hb hby at_130) rfl rfl ?_
    refine XS.iload X49.here hx rfl (hb hby at_132) rfl ?_
    show Steps p.tables e below (T49.setTop (mkF m 134 #[vI p0, vI p1, vI p2, vI p3, vI p4, vI p5, vI v3, vI v6, vI v9, vI v12, vI v15, vI v18, vI v21, vI v24, vI v27, vI v30, vR b32, vR b36, .unset, .unset, .unset, .unset, .unset, .unset, .unset] [(.int v12), (.ref b36), (.ref b32)])) _
    refine XS.iload X49.here hx rfl (hb hby at_134) rfl ?_
    exact k)
  obtain ⟨_, _, ⟨T53, qL53, qk53, qn53⟩, -, X53, ⟨Lc53, hQ53, ql53, qy53, qz53⟩, st53⟩ := Jvm.LawKit.callS X49 hx (y := (⟨"com/example/garantia/garantia/engine/StateLayoutPackPinLaw", "place", "([J[III)V"⟩ : MethodName)) hown (mvT hZ (hw _ (List.mem_of_getElem? (i := 9) rfl))) (mvT hZ (hw _ (List.mem_of_getElem? (i := 10) rfl))) (mvT hZ (hw _ (List.mem_of_getElem? (i := 2) rfl))) (mvT hZ (hw _ (List.mem_of_getElem? (i := 11) rfl))) (by decide) (backOf (W := 0) (rm3 l Z A0 hw [] b32 b36 v12 v27 kA32 kA36 t2_0 t2_1 t2_2 cP2 (uP2 + v9) T49.heap n0 zz51 nf49_0 nf49_1 ne37 bo32 bo36 (own_cb (own_c2 hw0 hw1 hw2 hP2))) hZ (hw _ (List.mem_of_getElem? (i := 11) rfl)) (hw _ (List.mem_of_getElem? (i := 2) rfl)) (by decide) (by decide)) (g := (mkF m 136 #[vI p0, vI p1, vI p2, vI p3, vI p4, vI p5, vI v3, vI v6, vI v9, vI v12, vI v15, vI v18, vI v21, vI v24, vI v27, vI v30, vR b32, vR b36, .unset, .unset, .unset, .unset, .unset, .unset, .unset] [(.int v27), (.int v12), (.ref b36), (.ref b32)])) rfl (by rw [hml]; rfl) (argsL := [(.ref b32), (.ref b36), (.int v12), (.int v27)]) (rest := []) (lenOf pd_2 rfl) rfl (by show 2 * 0 + _ ≤ _; exact Nat.le_of_eq rfl) (hb hby at_136) (fun _ _ => ⟨rfl, rfl, (by decide : 2 + 0 ≤ _), (by decide : 5 + 0 ≤ _)⟩)
  dsimp only [Pt.U, Pt.locs, Pt.cells, Pt.slots] at X53 ql53 qy53 qz53 st53 hQ53
  replace X53 := X53.more (Nat.le_of_eq qy53) (Nat.le_of_eq qz53)
  obtain ⟨rfl, Nq53, cP3, uP3, t3_0, t3_1, t3_2, hP3, hT3, Kq53, nf53_0, nf53_1⟩ := hQ53
  have N53 : Fr n0 qL53 := by rw [ql53]; exact Fr.app N49 Nq53
  have pre53 : Go p.tables e below S0 T53 (mkF m 139 #[vI p0, vI p1, vI p2, vI p3, vI p4, vI p5, vI v3, vI v6, vI v9, vI v12, vI v15, vI v18, vI v21, vI v24, vI v27, vI v30, vR b32, vR b36, .unset, .unset, .unset, .unset, .unset, .unset, .unset] []) := fun t k => pre52 t (st53 t k)
  have zz55 : n0 ≤ T53.heap.size := Nat.le_trans zz51 Kq53.1
  have pre56 : Go p.tables e below S0 T53 (mkF m 147 #[vI p0, vI p1, vI p2, vI p3, vI p4, vI p5, vI v3, vI v6, vI v9, vI v12, vI v15, vI v18, vI v21, vI v24, vI v27, vI v30, vR b32, vR b36, .unset, .unset, .unset, .unset, .unset, .unset, .unset] [(.int v30), (.int v15), (.ref b36), (.ref b32)]) := fun t k => pre53 t (by
    refine XS.aload X53.here hx rfl (hb hby at_139) rfl rfl ?_
    refine XS.aload X53.here hx rfl (hb hby at_141) rfl rfl ?_
    refine XS.iload X53.here hx rfl (hb hby at_143) rfl ?_
    show Steps p.tables e below (T53.setTop (mkF m 145 #[vI p0, vI p1, vI p2, vI p3, vI p4, vI p5, vI v3, vI v6, vI v9, vI v12, vI v15, vI v18, vI v21, vI v24, vI v27, vI v30, vR b32, vR b36, .unset, .unset, .unset, .unset, .unset, .unset, .unset] [(.int v15), (.ref b36), (.ref b32)])) _
    refine XS.iload X53.here hx rfl (hb hby at_145) rfl ?_
    exact k)
  obtain ⟨_, _, ⟨T57, qL57, qk57, qn57⟩, -, X57, ⟨Lc57, hQ57, ql57, qy57, qz57⟩, st57⟩ := Jvm.LawKit.callS X53 hx (y := (⟨"com/example/garantia/garantia/engine/StateLayoutPackPinLaw", "place", "([J[III)V"⟩ : MethodName)) hown (mvT hZ (hw _ (List.mem_of_getElem? (i := 9) rfl))) (mvT hZ (hw _ (List.mem_of_getElem? (i := 10) rfl))) (mvT hZ (hw _ (List.mem_of_getElem? (i := 2) rfl))) (mvT hZ (hw _ (List.mem_of_getElem? (i := 11) rfl))) (by decide) (backOf (W := 0) (rm3 l Z A0 hw [] b32 b36 v15 v30 kA32 kA36 t3_0 t3_1 t3_2 cP3 (uP3 + v12) T53.heap n0 zz55 nf53_0 nf53_1 ne37 bo32 bo36 (own_cb (own_c3 hw0 hw1 hw2 hw3 hP2 hP3))) hZ (hw _ (List.mem_of_getElem? (i := 11) rfl)) (hw _ (List.mem_of_getElem? (i := 2) rfl)) (by decide) (by decide)) (g := (mkF m 147 #[vI p0, vI p1, vI p2, vI p3, vI p4, vI p5, vI v3, vI v6, vI v9, vI v12, vI v15, vI v18, vI v21, vI v24, vI v27, vI v30, vR b32, vR b36, .unset, .unset, .unset, .unset, .unset, .unset, .unset] [(.int v30), (.int v15), (.ref b36), (.ref b32)])) rfl (by rw [hml]; rfl) (argsL := [(.ref b32), (.ref b36), (.int v15), (.int v30)]) (rest := []) (lenOf pd_2 rfl) rfl (by show 2 * 0 + _ ≤ _; exact Nat.le_of_eq rfl) (hb hby at_147) (fun _ _ => ⟨rfl, rfl, (by decide : 2 + 0 ≤ _), (by decide : 5 + 0 ≤ _)⟩)
  dsimp only [Pt.U, Pt.locs, Pt.cells, Pt.slots] at X57 ql57 qy57 qz57 st57 hQ57
  replace X57 := X57.more (Nat.le_of_eq qy57) (Nat.le_of_eq qz57)
  obtain ⟨rfl, Nq57, cP4, uP4, t4_0, t4_1, t4_2, hP4, hT4, Kq57, nf57_0, nf57_1⟩ := hQ57
  have N57 : Fr n0 qL57 := by rw [ql57]; exact Fr.app N53 Nq57
  have pre57 : Go p.tables e below S0 T57 (mkF m 150 #[vI p0, vI p1, vI p2, vI p3, vI p4, vI p5, vI v3, vI v6, vI v9, vI v12, vI v15, vI v18, vI v21, vI v24, vI v27, vI v30, vR b32, vR b36, .unset, .unset, .unset, .unset, .unset, .unset, .unset] []) := fun t k => pre56 t (st57 t k)
  have zz59 : n0 ≤ T57.heap.size := Nat.le_trans zz55 Kq57.1
  have pre60 : Go p.tables e below S0 T57 (mkF m 153 #[vI p0, vI p1, vI p2, vI p3, vI p4, vI p5, vI v3, vI v6, vI v9, vI v12, vI v15, vI v18, vI v21, vI v24, vI v27, vI v30, vR b32, vR b36, .unset, .unset, .unset, .unset, .unset, .unset, .unset] [(.int (0 : Int32)), (.ref b36)]) := fun t k => pre57 t (by
    refine XS.aload X57.here hx rfl (hb hby at_150) rfl rfl ?_
    refine XS.iconst X57.here hx rfl (hb hby at_152) ?_
    exact k)
  obtain ⟨cl61, Ar61, q61, S61, M61, H61, G61⟩ := id nf57_1
  have in61 : ¬ ((0 : Int32) < 0 ∨ cl61.slots.size ≤ ((0 : Int32)).toNatClampNeg) := inb_of S61 ⟨by decide, by decide⟩
  have at61 : cl61.slots[((0 : Int32)).toNatClampNeg]? = some (.int cP4) := H61.at in61 rfl
  obtain ⟨v62, hv62, pre62⟩ : ∃ z : Int32, z = (((p0.toUInt32 >>> ((25 : Int32) &&& 31).toUInt32).toInt32) &&& (3 : Int32)) ∧ Go p.tables e below S0 T57 (mkF m 166 #[vI p0, vI p1, vI p2, vI p3, vI p4, vI p5, vI v3, vI v6, vI v9, vI v12, vI v15, vI v18, vI v21, vI v24, vI v27, vI v30, vR b32, vR b36, vI (cP4 + (1 : Int32)), vI z, .unset, .unset, .unset, .unset, .unset] []) := ⟨_, rfl, fun t k => pre60 t (by
    refine X57.iaload hx (j := (0 : Int32)) (v := (.int cP4)) Ar61.1 (State.isArrayOf_alike hZ.alike Ar61.2.1) Ar61.2.2 in61 at61 (g := (mkF m 153 #[vI p0, vI p1, vI p2, vI p3, vI p4, vI p5, vI v3, vI v6, vI v9, vI v12, vI v15, vI v18, vI v21, vI v24, vI v27, vI v30, vR b32, vR b36, .unset, .unset, .unset, .unset, .unset, .unset, .unset] [(.int (0 : Int32)), (.ref b36)])) rfl rfl (hb hby at_153) _ ?_
    refine XS.iconst X57.here hx rfl (hb hby at_154) ?_
    refine XS.iadd X57.here hx rfl (hb hby at_155) rfl ?_
    show Steps p.tables e below (T57.setTop (mkF m 156 #[vI p0, vI p1, vI p2, vI p3, vI p4, vI p5, vI v3, vI v6, vI v9, vI v12, vI v15, vI v18, vI v21, vI v24, vI v27, vI v30, vR b32, vR b36, .unset, .unset, .unset, .unset, .unset, .unset, .unset] [(.int (cP4 + (1 : Int32)))])) _
    refine XS.istore X57.here hx rfl (hb hby at_156) rfl (l' := #[vI p0, vI p1, vI p2, vI p3, vI p4, vI p5, vI v3, vI v6, vI v9, vI v12, vI v15, vI v18, vI v21, vI v24, vI v27, vI v30, vR b32, vR b36, vI (cP4 + (1 : Int32)), .unset, .unset, .unset, .unset, .unset, .unset]) rfl ?_
    refine XS.iloadN X57.here hx rfl (hb hby at_158) rfl ?_
    refine XS.bipush X57.here hx rfl (hb hby at_159) ?_
    show Steps p.tables e below (T57.setTop (mkF m 161 #[vI p0, vI p1, vI p2, vI p3, vI p4, vI p5, vI v3, vI v6, vI v9, vI v12, vI v15, vI v18, vI v21, vI v24, vI v27, vI v30, vR b32, vR b36, vI (cP4 + (1 : Int32)), .unset, .unset, .unset, .unset, .unset, .unset] [(.int (25 : Int32)), (.int p0)])) _
    refine XS.iushr X57.here hx rfl (hb hby at_161) rfl ?_
    refine XS.iconst X57.here hx rfl (hb hby at_162) ?_
    refine XS.iand X57.here hx rfl (hb hby at_163) rfl ?_
    show Steps p.tables e below (T57.setTop (mkF m 164 #[vI p0, vI p1, vI p2, vI p3, vI p4, vI p5, vI v3, vI v6, vI v9, vI v12, vI v15, vI v18, vI v21, vI v24, vI v27, vI v30, vR b32, vR b36, vI (cP4 + (1 : Int32)), .unset, .unset, .unset, .unset, .unset, .unset] [(.int (((p0.toUInt32 >>> ((25 : Int32) &&& 31).toUInt32).toInt32) &&& (3 : Int32)))])) _
    refine XS.istore X57.here hx rfl (hb hby at_164) rfl (l' := #[vI p0, vI p1, vI p2, vI p3, vI p4, vI p5, vI v3, vI v6, vI v9, vI v12, vI v15, vI v18, vI v21, vI v24, vI v27, vI v30, vR b32, vR b36, vI (cP4 + (1 : Int32)), vI (((p0.toUInt32 >>> ((25 : Int32) &&& 31).toUInt32).toInt32) &&& (3 : Int32)), .unset, .unset, .unset, .unset, .unset]) rfl ?_
    exact k)⟩
  have hoff := own_off hv62
  have pre63 : Go p.tables e below S0 T57 (mkF m 173 #[vI p0, vI p1, vI p2, vI p3, vI p4, vI p5, vI v3, vI v6, vI v9, vI v12, vI v15, vI v18, vI v21, vI v24, vI v27, vI v30, vR b32, vR b36, vI (cP4 + (1 : Int32)), vI v62, vJ (-6510615555426900571 : Int64), .second, .unset, .unset, .unset] [(.int (6 : Int32))]) := fun t k => pre62 t (by
    refine X57.ldc2Long hx hown (mvT hZ (hw _ (List.mem_of_getElem? (i := 12) rfl))) (g := (mkF m 166 #[vI p0, vI p1, vI p2, vI p3, vI p4, vI p5, vI v3, vI v6, vI v9, vI v12, vI v15, vI v18, vI v21, vI v24, vI v27, vI v30, vR b32, vR b36, vI (cP4 + (1 : Int32)), vI v62, .unset, .unset, .unset, .unset, .unset] [])) rfl (hb hby at_166) _ ?_
    refine XS.lstore X57.here hx rfl (hb hby at_169) rfl (l' := #[vI p0, vI p1, vI p2, vI p3, vI p4, vI p5, vI v3, vI v6, vI v9, vI v12, vI v15, vI v18, vI v21, vI v24, vI v27, vI v30, vR b32, vR b36, vI (cP4 + (1 : Int32)), vI v62, vJ (-6510615555426900571 : Int64), .second, .unset, .unset, .unset]) rfl ?_
    refine XS.bipush X57.here hx rfl (hb hby at_171) ?_
    show Steps p.tables e below (T57.setTop (mkF m 173 #[vI p0, vI p1, vI p2, vI p3, vI p4, vI p5, vI v3, vI v6, vI v9, vI v12, vI v15, vI v18, vI v21, vI v24, vI v27, vI v30, vR b32, vR b36, vI (cP4 + (1 : Int32)), vI v62, vJ (-6510615555426900571 : Int64), .second, .unset, .unset, .unset] [(.int (6 : Int32))])) _
    exact k)
  obtain ⟨T64, h64, kA64, X64, e64, E64, A64, st64⟩ := newP X57 hx hZ (hw _ (List.mem_of_getElem? (i := 7) rfl)) rfl (g := (mkF m 173 #[vI p0, vI p1, vI p2, vI p3, vI p4, vI p5, vI v3, vI v6, vI v9, vI v12, vI v15, vI v18, vI v21, vI v24, vI v27, vI v30, vR b32, vR b36, vI (cP4 + (1 : Int32)), vI v62, vJ (-6510615555426900571 : Int64), .second, .unset, .unset, .unset] [(.int (6 : Int32))])) rfl (hb hby at_173) rfl (by decide) (cap := 6) (by decide) (by decide) (by decide) (by decide)
  obtain ⟨b64, g64⟩ : ∃ z, z = T57.heap.size := ⟨_, rfl⟩
  rw [← g64] at A64 st64
  have pre64 : Go p.tables e below S0 T64 (mkF m 175 #[vI p0, vI p1, vI p2, vI p3, vI p4, vI p5, vI v3, vI v6, vI v9, vI v12, vI v15, vI v18, vI v21, vI v24, vI v27, vI v30, vR b32, vR b36, vI (cP4 + (1 : Int32)), vI v62, vJ (-6510615555426900571 : Int64), .second, .unset, .unset, .unset] [(.ref b64)]) := fun t k => pre63 t (st64 t k)
  have ne65 : b32 ≠ b64 := Nat.ne_of_lt (Nat.lt_of_lt_of_le nf57_0.lt (Nat.le_of_eq g64.symm))
  have ne66 : b36 ≠ b64 := Nat.ne_of_lt (Nat.lt_of_lt_of_le nf57_1.lt (Nat.le_of_eq g64.symm))
  have bo64 : n0 ≤ b64 := Nat.le_trans zz59 (Nat.le_of_eq g64.symm)
  have f67_1 := nf57_0.ext E64
  have f67_2 := nf57_1.ext E64
  have zz68 : n0 ≤ h64.size := Nat.le_trans zz59 E64.1
  have av64 : Arv Z h64 b64 kA64 .long (6 : Int32) [(.long (0 : Int64)), (.long (0 : Int64)), (.long (0 : Int64)), (.long (0 : Int64)), (.long (0 : Int64)), (.long (0 : Int64))] (.long (0 : Int64)) := (Arv.new A64 (by decide)).pad (pad_rep [] (.long (0 : Int64)) 6)
  have pre69 : Go p.tables e below S0 T64 (mkF m 182 #[vI p0, vI p1, vI p2, vI p3, vI p4, vI p5, vI v3, vI v6, vI v9, vI v12, vI v15, vI v18, vI v21, vI v24, vI v27, vI v30, vR b32, vR b36, vI (cP4 + (1 : Int32)), vI v62, vJ (-6510615555426900571 : Int64), .second, vR b64, .unset, .unset] [(.long (-6510615555426900571 : Int64)), (.int (0 : Int32)), (.ref b64)]) := fun t k => pre64 t (by
    refine XS.astore X64.here hx rfl (hb hby at_175) rfl rfl (l' := #[vI p0, vI p1, vI p2, vI p3, vI p4, vI p5, vI v3, vI v6, vI v9, vI v12, vI v15, vI v18, vI v21, vI v24, vI v27, vI v30, vR b32, vR b36, vI (cP4 + (1 : Int32)), vI v62, vJ (-6510615555426900571 : Int64), .second, vR b64, .unset, .unset]) rfl ?_
    refine XS.aload X64.here hx rfl (hb hby at_177) rfl rfl ?_
    refine XS.iconst X64.here hx rfl (hb hby at_179) ?_
    show Steps p.tables e below (T64.setTop (mkF m 180 #[vI p0, vI p1, vI p2, vI p3, vI p4, vI p5, vI v3, vI v6, vI v9, vI v12, vI v15, vI v18, vI v21, vI v24, vI v27, vI v30, vR b32, vR b36, vI (cP4 + (1 : Int32)), vI v62, vJ (-6510615555426900571 : Int64), .second, vR b64, .unset, .unset] [(.int (0 : Int32)), (.ref b64)])) _
    refine XS.lload X64.here hx rfl (hb hby at_180) rfl ?_
    exact k)
  obtain ⟨cl70, Ar70, q70, S70, M70, H70, G70⟩ := id av64
  have in70 : ¬ ((0 : Int32) < 0 ∨ cl70.slots.size ≤ ((0 : Int32)).toNatClampNeg) := inb_of S70 ⟨by decide, by decide⟩
  obtain ⟨T70, h70, X70, e70, W70, st70⟩ := stJ X64 hx hZ e64 Ar70 (j := (0 : Int32)) in70 (g := (mkF m 182 #[vI p0, vI p1, vI p2, vI p3, vI p4, vI p5, vI v3, vI v6, vI v9, vI v12, vI v15, vI v18, vI v21, vI v24, vI v27, vI v30, vR b32, vR b36, vI (cP4 + (1 : Int32)), vI v62, vJ (-6510615555426900571 : Int64), .second, vR b64, .unset, .unset] [(.long (-6510615555426900571 : Int64)), (.int (0 : Int32)), (.ref b64)])) rfl rfl (hb hby at_182)
  have pre70 : Go p.tables e below S0 T70 (mkF m 183 #[vI p0, vI p1, vI p2, vI p3, vI p4, vI p5, vI v3, vI v6, vI v9, vI v12, vI v15, vI v18, vI v21, vI v24, vI v27, vI v30, vR b32, vR b36, vI (cP4 + (1 : Int32)), vI v62, vJ (-6510615555426900571 : Int64), .second, vR b64, .unset, .unset] []) := fun t k => pre69 t (st70 t k)
  obtain ⟨lo70, N70, X70⟩ : ∃ lo, Fr n0 lo ∧ Stand p l e room_1 s m #[(.int p0), (.int p1), (.int p2), (.int p3), (.int p4), (.int p5)] below meth c T70 lo 3 11 := ⟨_, Fr.snoc X70 N57 bo64, X70⟩
  have av70 : Arv Z h70 b64 kA64 .long (6 : Int32) [(.long (-6510615555426900571 : Int64)), (.long (0 : Int64)), (.long (0 : Int64)), (.long (0 : Int64)), (.long (0 : Int64)), (.long (0 : Int64))] (.long (0 : Int64)) := Arv.set Ar70 q70 S70 M70 H70 G70 rfl W70 0 rfl (Nat.le_of_ble_eq_true rfl)
  have f71_1 := f67_1.other W70 ne65
  have f71_2 := f67_2.other W70 ne66
  have zz72 : n0 ≤ h70.size := Nat.le_trans zz68 (Keep.of_wr W70).1
  have pre73 : Go p.tables e below S0 T70 (mkF m 188 #[vI p0, vI p1, vI p2, vI p3, vI p4, vI p5, vI v3, vI v6, vI v9, vI v12, vI v15, vI v18, vI v21, vI v24, vI v27, vI v30, vR b32, vR b36, vI (cP4 + (1 : Int32)), vI v62, vJ (-6510615555426900571 : Int64), .second, vR b64, .unset, .unset] [(.long (-6510615555426900571 : Int64)), (.int (1 : Int32)), (.ref b64)]) := fun t k => pre70 t (by
    refine XS.aload X70.here hx rfl (hb hby at_183) rfl rfl ?_
    refine XS.iconst X70.here hx rfl (hb hby at_185) ?_
    refine XS.lload X70.here hx rfl (hb hby at_186) rfl ?_
    show Steps p.tables e below (T70.setTop (mkF m 188 #[vI p0, vI p1, vI p2, vI p3, vI p4, vI p5, vI v3, vI v6, vI v9, vI v12, vI v15, vI v18, vI v21, vI v24, vI v27, vI v30, vR b32, vR b36, vI (cP4 + (1 : Int32)), vI v62, vJ (-6510615555426900571 : Int64), .second, vR b64, .unset, .unset] [(.long (-6510615555426900571 : Int64)), (.int (1 : Int32)), (.ref b64)])) _
    exact k)
  obtain ⟨cl74, Ar74, q74, S74, M74, H74, G74⟩ := id av70
  have in74 : ¬ ((1 : Int32) < 0 ∨ cl74.slots.size ≤ ((1 : Int32)).toNatClampNeg) := inb_of S74 ⟨by decide, by decide⟩
  obtain ⟨T74, h74, X74, e74, W74, st74⟩ := stJ X70 hx hZ e70 Ar74 (j := (1 : Int32)) in74 (g := (mkF m 188 #[vI p0, vI p1, vI p2, vI p3, vI p4, vI p5, vI v3, vI v6, vI v9, vI v12, vI v15, vI v18, vI v21, vI v24, vI v27, vI v30, vR b32, vR b36, vI (cP4 + (1 : Int32)), vI v62, vJ (-6510615555426900571 : Int64), .second, vR b64, .unset, .unset] [(.long (-6510615555426900571 : Int64)), (.int (1 : Int32)), (.ref b64)])) rfl rfl (hb hby at_188)
  have pre74 : Go p.tables e below S0 T74 (mkF m 189 #[vI p0, vI p1, vI p2, vI p3, vI p4, vI p5, vI v3, vI v6, vI v9, vI v12, vI v15, vI v18, vI v21, vI v24, vI v27, vI v30, vR b32, vR b36, vI (cP4 + (1 : Int32)), vI v62, vJ (-6510615555426900571 : Int64), .second, vR b64, .unset, .unset] []) := fun t k => pre73 t (st74 t k)
  obtain ⟨lo74, N74, X74⟩ : ∃ lo, Fr n0 lo ∧ Stand p l e room_1 s m #[(.int p0), (.int p1), (.int p2), (.int p3), (.int p4), (.int p5)] below meth c T74 lo 3 11 := ⟨_, Fr.snoc X74 N70 bo64, X74⟩
  have av74 : Arv Z h74 b64 kA64 .long (6 : Int32) [(.long (-6510615555426900571 : Int64)), (.long (-6510615555426900571 : Int64)), (.long (0 : Int64)), (.long (0 : Int64)), (.long (0 : Int64)), (.long (0 : Int64))] (.long (0 : Int64)) := Arv.set Ar74 q74 S74 M74 H74 G74 rfl W74 1 rfl (Nat.le_of_ble_eq_true rfl)
  have f75_1 := f71_1.other W74 ne65
  have f75_2 := f71_2.other W74 ne66
  have zz76 : n0 ≤ h74.size := Nat.le_trans zz72 (Keep.of_wr W74).1
  have pre77 : Go p.tables e below S0 T74 (mkF m 194 #[vI p0, vI p1, vI p2, vI p3, vI p4, vI p5, vI v3, vI v6, vI v9, vI v12, vI v15, vI v18, vI v21, vI v24, vI v27, vI v30, vR b32, vR b36, vI (cP4 + (1 : Int32)), vI v62, vJ (-6510615555426900571 : Int64), .second, vR b64, .unset, .unset] [(.long (-6510615555426900571 : Int64)), (.int (2 : Int32)), (.ref b64)]) := fun t k => pre74 t (by
    refine XS.aload X74.here hx rfl (hb hby at_189) rfl rfl ?_
    refine XS.iconst X74.here hx rfl (hb hby at_191) ?_
    refine XS.lload X74.here hx rfl (hb hby at_192) rfl ?_
    show Steps p.tables e below (T74.setTop (mkF m 194 #[vI p0, vI p1, vI p2, vI p3, vI p4, vI p5, vI v3, vI v6, vI v9, vI v12, vI v15, vI v18, vI v21, vI v24, vI v27, vI v30, vR b32, vR b36, vI (cP4 + (1 : Int32)), vI v62, vJ (-6510615555426900571 : Int64), .second, vR b64, .unset, .unset] [(.long (-6510615555426900571 : Int64)), (.int (2 : Int32)), (.ref b64)])) _
    exact k)
  obtain ⟨cl78, Ar78, q78, S78, M78, H78, G78⟩ := id av74
  have in78 : ¬ ((2 : Int32) < 0 ∨ cl78.slots.size ≤ ((2 : Int32)).toNatClampNeg) := inb_of S78 ⟨by decide, by decide⟩
  obtain ⟨T78, h78, X78, e78, W78, st78⟩ := stJ X74 hx hZ e74 Ar78 (j := (2 : Int32)) in78 (g := (mkF m 194 #[vI p0, vI p1, vI p2, vI p3, vI p4, vI p5, vI v3, vI v6, vI v9, vI v12, vI v15, vI v18, vI v21, vI v24, vI v27, vI v30, vR b32, vR b36, vI (cP4 + (1 : Int32)), vI v62, vJ (-6510615555426900571 : Int64), .second, vR b64, .unset, .unset] [(.long (-6510615555426900571 : Int64)), (.int (2 : Int32)), (.ref b64)])) rfl rfl (hb hby at_194)
  have pre78 : Go p.tables e below S0 T78 (mkF m 195 #[vI p0, vI p1, vI p2, vI p3, vI p4, vI p5, vI v3, vI v6, vI v9, vI v12, vI v15, vI v18, vI v21, vI v24, vI v27, vI v30, vR b32, vR b36, vI (cP4 + (1 : Int32)), vI v62, vJ (-6510615555426900571 : Int64), .second, vR b64, .unset, .unset] []) := fun t k => pre77 t (st78 t k)
  obtain ⟨lo78, N78, X78⟩ : ∃ lo, Fr n0 lo ∧ Stand p l e room_1 s m #[(.int p0), (.int p1), (.int p2), (.int p3), (.int p4), (.int p5)] below meth c T78 lo 3 11 := ⟨_, Fr.snoc X78 N74 bo64, X78⟩
  have av78 : Arv Z h78 b64 kA64 .long (6 : Int32) [(.long (-6510615555426900571 : Int64)), (.long (-6510615555426900571 : Int64)), (.long (-6510615555426900571 : Int64)), (.long (0 : Int64)), (.long (0 : Int64)), (.long (0 : Int64))] (.long (0 : Int64)) := Arv.set Ar78 q78 S78 M78 H78 G78 rfl W78 2 rfl (Nat.le_of_ble_eq_true rfl)
  have f79_1 := f75_1.other W78 ne65
  have f79_2 := f75_2.other W78 ne66
  have zz80 : n0 ≤ h78.size := Nat.le_trans zz76 (Keep.of_wr W78).1
  have pre81 : Go p.tables e below S0 T78 (mkF m 200 #[vI p0, vI p1, vI p2, vI p3, vI p4, vI p5, vI v3, vI v6, vI v9, vI v12, vI v15, vI v18, vI v21, vI v24, vI v27, vI v30, vR b32, vR b36, vI (cP4 + (1 : Int32)), vI v62, vJ (-6510615555426900571 : Int64), .second, vR b64, .unset, .unset] [(.long (-6510615555426900571 : Int64)), (.int (3 : Int32)), (.ref b64)]) := fun t k => pre78 t (by
    refine XS.aload X78.here hx rfl (hb hby at_195) rfl rfl ?_
    refine XS.iconst X78.here hx rfl (hb hby at_197) ?_
    refine XS.lload X78.here hx rfl (hb hby at_198) rfl ?_
    show Steps p.tables e below (T78.setTop (mkF m 200 #[vI p0, vI p1, vI p2, vI p3, vI p4, vI p5, vI v3, vI v6, vI v9, vI v12, vI v15, vI v18, vI v21, vI v24, vI v27, vI v30, vR b32, vR b36, vI (cP4 + (1 : Int32)), vI v62, vJ (-6510615555426900571 : Int64), .second, vR b64, .unset, .unset] [(.long (-6510615555426900571 : Int64)), (.int (3 : Int32)), (.ref b64)])) _
    exact k)
  obtain ⟨cl82, Ar82, q82, S82, M82, H82, G82⟩ := id av78
  have in82 : ¬ ((3 : Int32) < 0 ∨ cl82.slots.size ≤ ((3 : Int32)).toNatClampNeg) := inb_of S82 ⟨by decide, by decide⟩
  obtain ⟨T82, h82, X82, e82, W82, st82⟩ := stJ X78 hx hZ e78 Ar82 (j := (3 : Int32)) in82 (g := (mkF m 200 #[vI p0, vI p1, vI p2, vI p3, vI p4, vI p5, vI v3, vI v6, vI v9, vI v12, vI v15, vI v18, vI v21, vI v24, vI v27, vI v30, vR b32, vR b36, vI (cP4 + (1 : Int32)), vI v62, vJ (-6510615555426900571 : Int64), .second, vR b64, .unset, .unset] [(.long (-6510615555426900571 : Int64)), (.int (3 : Int32)), (.ref b64)])) rfl rfl (hb hby at_200)
  have pre82 : Go p.tables e below S0 T82 (mkF m 201 #[vI p0, vI p1, vI p2, vI p3, vI p4, vI p5, vI v3, vI v6, vI v9, vI v12, vI v15, vI v18, vI v21, vI v24, vI v27, vI v30, vR b32, vR b36, vI (cP4 + (1 : Int32)), vI v62, vJ (-6510615555426900571 : Int64), .second, vR b64, .unset, .unset] []) := fun t k => pre81 t (st82 t k)
  obtain ⟨lo82, N82, X82⟩ : ∃ lo, Fr n0 lo ∧ Stand p l e room_1 s m #[(.int p0), (.int p1), (.int p2), (.int p3), (.int p4), (.int p5)] below meth c T82 lo 3 11 := ⟨_, Fr.snoc X82 N78 bo64, X82⟩
  have av82 : Arv Z h82 b64 kA64 .long (6 : Int32) [(.long (-6510615555426900571 : Int64)), (.long (-6510615555426900571 : Int64)), (.long (-6510615555426900571 : Int64)), (.long (-6510615555426900571 : Int64)), (.long (0 : Int64)), (.long (0 : Int64))] (.long (0 : Int64)) := Arv.set Ar82 q82 S82 M82 H82 G82 rfl W82 3 rfl (Nat.le_of_ble_eq_true rfl)
  have f83_1 := f79_1.other W82 ne65
  have f83_2 := f79_2.other W82 ne66
  have zz84 : n0 ≤ h82.size := Nat.le_trans zz80 (Keep.of_wr W82).1
  have pre85 : Go p.tables e below S0 T82 (mkF m 206 #[vI p0, vI p1, vI p2, vI p3, vI p4, vI p5, vI v3, vI v6, vI v9, vI v12, vI v15, vI v18, vI v21, vI v24, vI v27, vI v30, vR b32, vR b36, vI (cP4 + (1 : Int32)), vI v62, vJ (-6510615555426900571 : Int64), .second, vR b64, .unset, .unset] [(.long (-6510615555426900571 : Int64)), (.int (4 : Int32)), (.ref b64)]) := fun t k => pre82 t (by
    refine XS.aload X82.here hx rfl (hb hby at_201) rfl rfl ?_
    refine XS.iconst X82.here hx rfl (hb hby at_203) ?_
    refine XS.lload X82.here hx rfl (hb hby at_204) rfl ?_
    show Steps p.tables e below (T82.setTop (mkF m 206 #[vI p0, vI p1, vI p2, vI p3, vI p4, vI p5, vI v3, vI v6, vI v9, vI v12, vI v15, vI v18, vI v21, vI v24, vI v27, vI v30, vR b32, vR b36, vI (cP4 + (1 : Int32)), vI v62, vJ (-6510615555426900571 : Int64), .second, vR b64, .unset, .unset] [(.long (-6510615555426900571 : Int64)), (.int (4 : Int32)), (.ref b64)])) _
    exact k)
  obtain ⟨cl86, Ar86, q86, S86, M86, H86, G86⟩ := id av82
  have in86 : ¬ ((4 : Int32) < 0 ∨ cl86.slots.size ≤ ((4 : Int32)).toNatClampNeg) := inb_of S86 ⟨by decide, by decide⟩
  obtain ⟨T86, h86, X86, e86, W86, st86⟩ := stJ X82 hx hZ e82 Ar86 (j := (4 : Int32)) in86 (g := (mkF m 206 #[vI p0, vI p1, vI p2, vI p3, vI p4, vI p5, vI v3, vI v6, vI v9, vI v12, vI v15, vI v18, vI v21, vI v24, vI v27, vI v30, vR b32, vR b36, vI (cP4 + (1 : Int32)), vI v62, vJ (-6510615555426900571 : Int64), .second, vR b64, .unset, .unset] [(.long (-6510615555426900571 : Int64)), (.int (4 : Int32)), (.ref b64)])) rfl rfl (hb hby at_206)
  have pre86 : Go p.tables e below S0 T86 (mkF m 207 #[vI p0, vI p1, vI p2, vI p3, vI p4, vI p5, vI v3, vI v6, vI v9, vI v12, vI v15, vI v18, vI v21, vI v24, vI v27, vI v30, vR b32, vR b36, vI (cP4 + (1 : Int32)), vI v62, vJ (-6510615555426900571 : Int64), .second, vR b64, .unset, .unset] []) := fun t k => pre85 t (st86 t k)
  obtain ⟨lo86, N86, X86⟩ : ∃ lo, Fr n0 lo ∧ Stand p l e room_1 s m #[(.int p0), (.int p1), (.int p2), (.int p3), (.int p4), (.int p5)] below meth c T86 lo 3 11 := ⟨_, Fr.snoc X86 N82 bo64, X86⟩
  have av86 : Arv Z h86 b64 kA64 .long (6 : Int32) [(.long (-6510615555426900571 : Int64)), (.long (-6510615555426900571 : Int64)), (.long (-6510615555426900571 : Int64)), (.long (-6510615555426900571 : Int64)), (.long (-6510615555426900571 : Int64)), (.long (0 : Int64))] (.long (0 : Int64)) := Arv.set Ar86 q86 S86 M86 H86 G86 rfl W86 4 rfl (Nat.le_of_ble_eq_true rfl)
  have f87_1 := f83_1.other W86 ne65
  have f87_2 := f83_2.other W86 ne66
  have zz88 : n0 ≤ h86.size := Nat.le_trans zz84 (Keep.of_wr W86).1
  have pre89 : Go p.tables e below S0 T86 (mkF m 212 #[vI p0, vI p1, vI p2, vI p3, vI p4, vI p5, vI v3, vI v6, vI v9, vI v12, vI v15, vI v18, vI v21, vI v24, vI v27, vI v30, vR b32, vR b36, vI (cP4 + (1 : Int32)), vI v62, vJ (-6510615555426900571 : Int64), .second, vR b64, .unset, .unset] [(.long (-6510615555426900571 : Int64)), (.int (5 : Int32)), (.ref b64)]) := fun t k => pre86 t (by
    refine XS.aload X86.here hx rfl (hb hby at_207) rfl rfl ?_
    refine XS.iconst X86.here hx rfl (hb hby at_209) ?_
    refine XS.lload X86.here hx rfl (hb hby at_210) rfl ?_
    show Steps p.tables e below (T86.setTop (mkF m 212 #[vI p0, vI p1, vI p2, vI p3, vI p4, vI p5, vI v3, vI v6, vI v9, vI v12, vI v15, vI v18, vI v21, vI v24, vI v27, vI v30, vR b32, vR b36, vI (cP4 + (1 : Int32)), vI v62, vJ (-6510615555426900571 : Int64), .second, vR b64, .unset, .unset] [(.long (-6510615555426900571 : Int64)), (.int (5 : Int32)), (.ref b64)])) _
    exact k)
  obtain ⟨cl90, Ar90, q90, S90, M90, H90, G90⟩ := id av86
  have in90 : ¬ ((5 : Int32) < 0 ∨ cl90.slots.size ≤ ((5 : Int32)).toNatClampNeg) := inb_of S90 ⟨by decide, by decide⟩
  obtain ⟨T90, h90, X90, e90, W90, st90⟩ := stJ X86 hx hZ e86 Ar90 (j := (5 : Int32)) in90 (g := (mkF m 212 #[vI p0, vI p1, vI p2, vI p3, vI p4, vI p5, vI v3, vI v6, vI v9, vI v12, vI v15, vI v18, vI v21, vI v24, vI v27, vI v30, vR b32, vR b36, vI (cP4 + (1 : Int32)), vI v62, vJ (-6510615555426900571 : Int64), .second, vR b64, .unset, .unset] [(.long (-6510615555426900571 : Int64)), (.int (5 : Int32)), (.ref b64)])) rfl rfl (hb hby at_212)
  have pre90 : Go p.tables e below S0 T90 (mkF m 213 #[vI p0, vI p1, vI p2, vI p3, vI p4, vI p5, vI v3, vI v6, vI v9, vI v12, vI v15, vI v18, vI v21, vI v24, vI v27, vI v30, vR b32, vR b36, vI (cP4 + (1 : Int32)), vI v62, vJ (-6510615555426900571 : Int64), .second, vR b64, .unset, .unset] []) := fun t k => pre89 t (st90 t k)
  obtain ⟨lo90, N90, X90⟩ : ∃ lo, Fr n0 lo ∧ Stand p l e room_1 s m #[(.int p0), (.int p1), (.int p2), (.int p3), (.int p4), (.int p5)] below meth c T90 lo 3 11 := ⟨_, Fr.snoc X90 N86 bo64, X90⟩
  have av90 : Arv Z h90 b64 kA64 .long (6 : Int32) [(.long (-6510615555426900571 : Int64)), (.long (-6510615555426900571 : Int64)), (.long (-6510615555426900571 : Int64)), (.long (-6510615555426900571 : Int64)), (.long (-6510615555426900571 : Int64)), (.long (-6510615555426900571 : Int64))] (.long (0 : Int64)) := Arv.set Ar90 q90 S90 M90 H90 G90 rfl W90 5 rfl (Nat.le_of_ble_eq_true rfl)
  have f91_1 := f87_1.other W90 ne65
  have f91_2 := f87_2.other W90 ne66
  have zz92 : n0 ≤ h90.size := Nat.le_trans zz88 (Keep.of_wr W90).1
  obtain ⟨T93, h93, X93, e93, E93, A93, D93, -, st93⟩ := newO X90 hx hZ hown (hw _ (List.mem_of_getElem? (i := 13) rfl)) (hw _ (List.mem_of_getElem? (i := 14) rfl)) (hw _ (List.mem_of_getElem? (i := 15) rfl)) e90 (g := (mkF m 213 #[vI p0, vI p1, vI p2, vI p3, vI p4, vI p5, vI v3, vI v6, vI v9, vI v12, vI v15, vI v18, vI v21, vI v24, vI v27, vI v30, vR b32, vR b36, vI (cP4 + (1 : Int32)), vI v62, vJ (-6510615555426900571 : Int64), .second, vR b64, .unset, .unset] [])) rfl (hb hby at_213) (by decide) (by decide)
  obtain ⟨b93, g93⟩ : ∃ z, z = h90.size := ⟨_, rfl⟩
  rw [← g93] at A93 D93 st93
  have pre93 : Go p.tables e below S0 T93 (mkF m 216 #[vI p0, vI p1, vI p2, vI p3, vI p4, vI p5, vI v3, vI v6, vI v9, vI v12, vI v15, vI v18, vI v21, vI v24, vI v27, vI v30, vR b32, vR b36, vI (cP4 + (1 : Int32)), vI v62, vJ (-6510615555426900571 : Int64), .second, vR b64, .unset, .unset] [(.ref b93)]) := fun t k => pre90 t (st93 t k)
  have ne94 : b32 ≠ b93 := Nat.ne_of_lt (Nat.lt_of_lt_of_le f91_1.lt (Nat.le_of_eq g93.symm))
  have ne95 : b36 ≠ b93 := Nat.ne_of_lt (Nat.lt_of_lt_of_le f91_2.lt (Nat.le_of_eq g93.symm))
  have ne96 : b64 ≠ b93 := Nat.ne_of_lt (Nat.lt_of_lt_of_le av90.lt (Nat.le_of_eq g93.symm))
  have bo93 : n0 ≤ b93 := Nat.le_trans zz92 (Nat.le_of_eq g93.symm)
  have f97_1 := f91_1.ext E93
  have f97_2 := f91_2.ext E93
  have f97_3 := av90.ext E93
  have zz98 : n0 ≤ h93.size := Nat.le_trans zz92 E93.1
  have fn93_word : Fld Z h93 b93 "com/example/garantia/garantia/engine/StateLayout" "word" "[I" .null := D93 (Or.inr (hw _ (List.mem_of_getElem? (i := 23) rfl))) (ty := (.array .int)) (by decide)
  have fn93_shift : Fld Z h93 b93 "com/example/garantia/garantia/engine/StateLayout" "shift" "[I" .null := D93 (Or.inr (hw _ (List.mem_of_getElem? (i := 25) rfl))) (ty := (.array .int)) (by decide)
  have fn93_mask : Fld Z h93 b93 "com/example/garantia/garantia/engine/StateLayout" "mask" "[J" .null := D93 (Or.inr (hw _ (List.mem_of_getElem? (i := 27) rfl))) (ty := (.array .long)) (by decide)
  have fn93_others : Fld Z h93 b93 "com/example/garantia/garantia/engine/StateLayout" "others" "[J" .null := D93 (Or.inr (hw _ (List.mem_of_getElem? (i := 29) rfl))) (ty := (.array .long)) (by decide)
  have fn93_words : Fld Z h93 b93 "com/example/garantia/garantia/engine/StateLayout" "words" "I" (.int (0 : Int32)) := D93 (Or.inr (hw _ (List.mem_of_getElem? (i := 32) rfl))) (ty := .int) (by decide)
  have fn93_narrow : Fld Z h93 b93 "com/example/garantia/garantia/engine/StateLayout" "narrow" "Z" (.int (0 : Int32)) := D93 (Or.inr (hw _ (List.mem_of_getElem? (i := 34) rfl))) (ty := .boolean) (by decide)
  have pre99 : Go p.tables e below S0 T93 (mkF m 218 #[vI p0, vI p1, vI p2, vI p3, vI p4, vI p5, vI v3, vI v6, vI v9, vI v12, vI v15, vI v18, vI v21, vI v24, vI v27, vI v30, vR b32, vR b36, vI (cP4 + (1 : Int32)), vI v62, vJ (-6510615555426900571 : Int64), .second, vR b64, .unset, .unset] [(.int (5 : Int32)), (.ref b93), (.ref b93)]) := fun t k => pre93 t (by
    refine XS.dup X93.here hx rfl (hb hby at_216) rfl rfl ?_
    refine XS.iconst X93.here hx rfl (hb hby at_217) ?_
    exact k)
  obtain ⟨T100, h100, kA100, X100, e100, E100, A100, st100⟩ := newP X93 hx hZ (hw _ (List.mem_of_getElem? (i := 8) rfl)) e93 (g := (mkF m 218 #[vI p0, vI p1, vI p2, vI p3, vI p4, vI p5, vI v3, vI v6, vI v9, vI v12, vI v15, vI v18, vI v21, vI v24, vI v27, vI v30, vR b32, vR b36, vI (cP4 + (1 : Int32)), vI v62, vJ (-6510615555426900571 : Int64), .second, vR b64, .unset, .unset] [(.int (5 : Int32)), (.ref b93), (.ref b93)])) rfl (hb hby at_218) rfl (by decide) (cap := 5) (by decide) (by decide) (by decide) (by decide)
  obtain ⟨b100, g100⟩ : ∃ z, z = h93.size := ⟨_, rfl⟩
  rw [← g100] at A100 st100
  have pre100 : Go p.tables e below S0 T100 (mkF m 220 #[vI p0, vI p1, vI p2, vI p3, vI p4, vI p5, vI v3, vI v6, vI v9, vI v12, vI v15, vI v18, vI v21, vI v24, vI v27, vI v30, vR b32, vR b36, vI (cP4 + (1 : Int32)), vI v62, vJ (-6510615555426900571 : Int64), .second, vR b64, .unset, .unset] [(.ref b100), (.ref b93), (.ref b93)]) := fun t k => pre99 t (st100 t k)
  have ne101 : b32 ≠ b100 := Nat.ne_of_lt (Nat.lt_of_lt_of_le f97_1.lt (Nat.le_of_eq g100.symm))
  have ne102 : b36 ≠ b100 := Nat.ne_of_lt (Nat.lt_of_lt_of_le f97_2.lt (Nat.le_of_eq g100.symm))
  have ne103 : b64 ≠ b100 := Nat.ne_of_lt (Nat.lt_of_lt_of_le f97_3.lt (Nat.le_of_eq g100.symm))
  have ne104 : b93 ≠ b100 := Nat.ne_of_lt (Nat.lt_of_lt_of_le A93.lt (Nat.le_of_eq g100.symm))
  have bo100 : n0 ≤ b100 := Nat.le_trans zz98 (Nat.le_of_eq g100.symm)
  have f105_1 := f97_1.ext E100
  have f105_2 := f97_2.ext E100
  have f105_3 := f97_3.ext E100
  have f105_4 := Exa.ext E100 A93
  have f105_5 := Fld.ext E100 fn93_word
  have f105_6 := Fld.ext E100 fn93_shift
  have f105_7 := Fld.ext E100 fn93_mask
  have f105_8 := Fld.ext E100 fn93_others
  have f105_9 := Fld.ext E100 fn93_words
  have f105_10 := Fld.ext E100 fn93_narrow
  have zz106 : n0 ≤ h100.size := Nat.le_trans zz98 E100.1
  have av100 : Arv Z h100 b100 kA100 .int (5 : Int32) [(.int (0 : Int32)), (.int (0 : Int32)), (.int (0 : Int32)), (.int (0 : Int32)), (.int (0 : Int32))] (.int (0 : Int32)) := (Arv.new A100 (by decide)).pad (pad_rep [] (.int (0 : Int32)) 5)
  have pre107 : Go p.tables e below S0 T100 (mkF m 224 #[vI p0, vI p1, vI p2, vI p3, vI p4, vI p5, vI v3, vI v6, vI v9, vI v12, vI v15, vI v18, vI v21, vI v24, vI v27, vI v30, vR b32, vR b36, vI (cP4 + (1 : Int32)), vI v62, vJ (-6510615555426900571 : Int64), .second, vR b64, .unset, .unset] [(.int v3), (.int (0 : Int32)), (.ref b100), (.ref b100), (.ref b93), (.ref b93)]) := fun t k => pre100 t (by
    refine XS.dup X100.here hx rfl (hb hby at_220) rfl rfl ?_
    refine XS.iconst X100.here hx rfl (hb hby at_221) ?_
    refine XS.iload X100.here hx rfl (hb hby at_222) rfl ?_
    show Steps p.tables e below (T100.setTop (mkF m 224 #[vI p0, vI p1, vI p2, vI p3, vI p4, vI p5, vI v3, vI v6, vI v9, vI v12, vI v15, vI v18, vI v21, vI v24, vI v27, vI v30, vR b32, vR b36, vI (cP4 + (1 : Int32)), vI v62, vJ (-6510615555426900571 : Int64), .second, vR b64, .unset, .unset] [(.int v3), (.int (0 : Int32)), (.ref b100), (.ref b100), (.ref b93), (.ref b93)])) _
    exact k)
  obtain ⟨cl108, Ar108, q108, S108, M108, H108, G108⟩ := id av100
  have in108 : ¬ ((0 : Int32) < 0 ∨ cl108.slots.size ≤ ((0 : Int32)).toNatClampNeg) := inb_of S108 ⟨by decide, by decide⟩
  obtain ⟨T108, h108, X108, e108, W108, st108⟩ := stI X100 hx hZ e100 Ar108 (j := (0 : Int32)) in108 (g := (mkF m 224 #[vI p0, vI p1, vI p2, vI p3, vI p4, vI p5, vI v3, vI v6, vI v9, vI v12, vI v15, vI v18, vI v21, vI v24, vI v27, vI v30, vR b32, vR b36, vI (cP4 + (1 : Int32)), vI v62, vJ (-6510615555426900571 : Int64), .second, vR b64, .unset, .unset] [(.int v3), (.int (0 : Int32)), (.ref b100), (.ref b100), (.ref b93), (.ref b93)])) rfl rfl (hb hby at_224)
  have pre108 : Go p.tables e below S0 T108 (mkF m 225 #[vI p0, vI p1, vI p2, vI p3, vI p4, vI p5, vI v3, vI v6, vI v9, vI v12, vI v15, vI v18, vI v21, vI v24, vI v27, vI v30, vR b32, vR b36, vI (cP4 + (1 : Int32)), vI v62, vJ (-6510615555426900571 : Int64), .second, vR b64, .unset, .unset] [(.ref b100), (.ref b93), (.ref b93)]) := fun t k => pre107 t (st108 t k)
  obtain ⟨lo108, N108, X108⟩ : ∃ lo, Fr n0 lo ∧ Stand p l e room_1 s m #[(.int p0), (.int p1), (.int p2), (.int p3), (.int p4), (.int p5)] below meth c T108 lo 5 22 := ⟨_, Fr.snoc X108 N90 bo100, X108⟩
  have av108 : Arv Z h108 b100 kA100 .int (5 : Int32) [(.int v3), (.int (0 : Int32)), (.int (0 : Int32)), (.int (0 : Int32)), (.int (0 : Int32))] (.int (0 : Int32)) := Arv.set Ar108 q108 S108 M108 H108 G108 rfl W108 0 rfl (Nat.le_of_ble_eq_true rfl)
  have f109_1 := f105_1.other W108 ne101
  have f109_2 := f105_2.other W108 ne102
  have f109_3 := f105_3.other W108 ne103
  have f109_4 := Exa.wr W108 f105_4
  have f109_5 := Fld.other W108 f105_5 (Or.inl ne104)
  have f109_6 := Fld.other W108 f105_6 (Or.inl ne104)
  have f109_7 := Fld.other W108 f105_7 (Or.inl ne104)
  have f109_8 := Fld.other W108 f105_8 (Or.inl ne104)
  have f109_9 := Fld.other W108 f105_9 (Or.inl ne104)
  have f109_10 := Fld.other W108 f105_10 (Or.inl ne104)
  have zz110 : n0 ≤ h108.size := Nat.le_trans zz106 (Keep.of_wr W108).1
  have pre111 : Go p.tables e below S0 T108 (mkF m 229 #[vI p0, vI p1, vI p2, vI p3, vI p4, vI p5, vI v3, vI v6, vI v9, vI v12, vI v15, vI v18, vI v21, vI v24, vI v27, vI v30, vR b32, vR b36, vI (cP4 + (1 : Int32)), vI v62, vJ (-6510615555426900571 : Int64), .second, vR b64, .unset, .unset] [(.int v6), (.int (1 : Int32)), (.ref b100), (.ref b100), (.ref b93), (.ref b93)]) := fun t k => pre108 t (by
    refine XS.dup X108.here hx rfl (hb hby at_225) rfl rfl ?_
    refine XS.iconst X108.here hx rfl (hb hby at_226) ?_
    refine XS.iload X108.here hx rfl (hb hby at_227) rfl ?_
    show Steps p.tables e below (T108.setTop (mkF m 229 #[vI p0, vI p1, vI p2, vI p3, vI p4, vI p5, vI v3, vI v6, vI v9, vI v12, vI v15, vI v18, vI v21, vI v24, vI v27, vI v30, vR b32, vR b36, vI (cP4 + (1 : Int32)), vI v62, vJ (-6510615555426900571 : Int64), .second, vR b64, .unset, .unset] [(.int v6), (.int (1 : Int32)), (.ref b100), (.ref b100), (.ref b93), (.ref b93)])) _
    exact k)
  obtain ⟨cl112, Ar112, q112, S112, M112, H112, G112⟩ := id av108
  have in112 : ¬ ((1 : Int32) < 0 ∨ cl112.slots.size ≤ ((1 : Int32)).toNatClampNeg) := inb_of S112 ⟨by decide, by decide⟩
  obtain ⟨T112, h112, X112, e112, W112, st112⟩ := stI X108 hx hZ e108 Ar112 (j := (1 : Int32)) in112 (g := (mkF m 229 #[vI p0, vI p1, vI p2, vI p3, vI p4, vI p5, vI v3, vI v6, vI v9, vI v12, vI v15, vI v18, vI v21, vI v24, vI v27, vI v30, vR b32, vR b36, vI (cP4 + (1 : Int32)), vI v62, vJ (-6510615555426900571 : Int64), .second, vR b64, .unset, .unset] [(.int v6), (.int (1 : Int32)), (.ref b100), (.ref b100), (.ref b93), (.ref b93)])) rfl rfl (hb hby at_229)
  have pre112 : Go p.tables e below S0 T112 (mkF m 230 #[vI p0, vI p1, vI p2, vI p3, vI p4, vI p5, vI v3, vI v6, vI v9, vI v12, vI v15, vI v18, vI v21, vI v24, vI v27, vI v30, vR b32, vR b36, vI (cP4 + (1 : Int32)), vI v62, vJ (-6510615555426900571 : Int64), .second, vR b64, .unset, .unset] [(.ref b100), (.ref b93), (.ref b93)]) := fun t k => pre111 t (st112 t k)
  obtain ⟨lo112, N112, X112⟩ : ∃ lo, Fr n0 lo ∧ Stand p l e room_1 s m #[(.int p0), (.int p1), (.int p2), (.int p3), (.int p4), (.int p5)] below meth c T112 lo 5 22 := ⟨_, Fr.snoc X112 N108 bo100, X112⟩
  have av112 : Arv Z h112 b100 kA100 .int (5 : Int32) [(.int v3), (.int v6), (.int (0 : Int32)), (.int (0 : Int32)), (.int (0 : Int32))] (.int (0 : Int32)) := Arv.set Ar112 q112 S112 M112 H112 G112 rfl W112 1 rfl (Nat.le_of_ble_eq_true rfl)
  have f113_1 := f109_1.other W112 ne101
  have f113_2 := f109_2.other W112 ne102
  have f113_3 := f109_3.other W112 ne103
  have f113_4 := Exa.wr W112 f109_4
  have f113_5 := Fld.other W112 f109_5 (Or.inl ne104)
  have f113_6 := Fld.other W112 f109_6 (Or.inl ne104)
  have f113_7 := Fld.other W112 f109_7 (Or.inl ne104)
  have f113_8 := Fld.other W112 f109_8 (Or.inl ne104)
  have f113_9 := Fld.other W112 f109_9 (Or.inl ne104)
  have f113_10 := Fld.other W112 f109_10 (Or.inl ne104)
  have zz114 : n0 ≤ h112.size := Nat.le_trans zz110 (Keep.of_wr W112).1
  have pre115 : Go p.tables e below S0 T112 (mkF m 234 #[vI p0, vI p1, vI p2, vI p3, vI p4, vI p5, vI v3, vI v6, vI v9, vI v12, vI v15, vI v18, vI v21, vI v24, vI v27, vI v30, vR b32, vR b36, vI (cP4 + (1 : Int32)), vI v62, vJ (-6510615555426900571 : Int64), .second, vR b64, .unset, .unset] [(.int v9), (.int (2 : Int32)), (.ref b100), (.ref b100), (.ref b93), (.ref b93)]) := fun t k => pre112 t (by
    refine XS.dup X112.here hx rfl (hb hby at_230) rfl rfl ?_
    refine XS.iconst X112.here hx rfl (hb hby at_231) ?_
    refine XS.iload X112.here hx rfl (hb hby at_232) rfl ?_
    show Steps p.tables e below (T112.setTop (mkF m 234 #[vI p0, vI p1, vI p2, vI p3, vI p4, vI p5, vI v3, vI v6, vI v9, vI v12, vI v15, vI v18, vI v21, vI v24, vI v27, vI v30, vR b32, vR b36, vI (cP4 + (1 : Int32)), vI v62, vJ (-6510615555426900571 : Int64), .second, vR b64, .unset, .unset] [(.int v9), (.int (2 : Int32)), (.ref b100), (.ref b100), (.ref b93), (.ref b93)])) _
    exact k)
  obtain ⟨cl116, Ar116, q116, S116, M116, H116, G116⟩ := id av112
  have in116 : ¬ ((2 : Int32) < 0 ∨ cl116.slots.size ≤ ((2 : Int32)).toNatClampNeg) := inb_of S116 ⟨by decide, by decide⟩
  obtain ⟨T116, h116, X116, e116, W116, st116⟩ := stI X112 hx hZ e112 Ar116 (j := (2 : Int32)) in116 (g := (mkF m 234 #[vI p0, vI p1, vI p2, vI p3, vI p4, vI p5, vI v3, vI v6, vI v9, vI v12, vI v15, vI v18, vI v21, vI v24, vI v27, vI v30, vR b32, vR b36, vI (cP4 + (1 : Int32)), vI v62, vJ (-6510615555426900571 : Int64), .second, vR b64, .unset, .unset] [(.int v9), (.int (2 : Int32)), (.ref b100), (.ref b100), (.ref b93), (.ref b93)])) rfl rfl (hb hby at_234)
  have pre116 : Go p.tables e below S0 T116 (mkF m 235 #[vI p0, vI p1, vI p2, vI p3, vI p4, vI p5, vI v3, vI v6, vI v9, vI v12, vI v15, vI v18, vI v21, vI v24, vI v27, vI v30, vR b32, vR b36, vI (cP4 + (1 : Int32)), vI v62, vJ (-6510615555426900571 : Int64), .second, vR b64, .unset, .unset] [(.ref b100), (.ref b93), (.ref b93)]) := fun t k => pre115 t (st116 t k)
  obtain ⟨lo116, N116, X116⟩ : ∃ lo, Fr n0 lo ∧ Stand p l e room_1 s m #[(.int p0), (.int p1), (.int p2), (.int p3), (.int p4), (.int p5)] below meth c T116 lo 5 22 := ⟨_, Fr.snoc X116 N112 bo100, X116⟩
  have av116 : Arv Z h116 b100 kA100 .int (5 : Int32) [(.int v3), (.int v6), (.int v9), (.int (0 : Int32)), (.int (0 : Int32))] (.int (0 : Int32)) := Arv.set Ar116 q116 S116 M116 H116 G116 rfl W116 2 rfl (Nat.le_of_ble_eq_true rfl)
  have f117_1 := f113_1.other W116 ne101
  have f117_2 := f113_2.other W116 ne102
  have f117_3 := f113_3.other W116 ne103
  have f117_4 := Exa.wr W116 f113_4
  have f117_5 := Fld.other W116 f113_5 (Or.inl ne104)
  have f117_6 := Fld.other W116 f113_6 (Or.inl ne104)
  have f117_7 := Fld.other W116 f113_7 (Or.inl ne104)
  have f117_8 := Fld.other W116 f113_8 (Or.inl ne104)
  have f117_9 := Fld.other W116 f113_9 (Or.inl ne104)
  have f117_10 := Fld.other W116 f113_10 (Or.inl ne104)
  have zz118 : n0 ≤ h116.size := Nat.le_trans zz114 (Keep.of_wr W116).1
  have pre119 : Go p.tables e below S0 T116 (mkF m 239 #[vI p0, vI p1, vI p2, vI p3, vI p4, vI p5, vI v3, vI v6, vI v9, vI v12, vI v15, vI v18, vI v21, vI v24, vI v27, vI v30, vR b32, vR b36, vI (cP4 + (1 : Int32)), vI v62, vJ (-6510615555426900571 : Int64), .second, vR b64, .unset, .unset] [(.int v12), (.int (3 : Int32)), (.ref b100), (.ref b100), (.ref b93), (.ref b93)]) := fun t k => pre116 t (by
    refine XS.dup X116.here hx rfl (hb hby at_235) rfl rfl ?_
    refine XS.iconst X116.here hx rfl (hb hby at_236) ?_
    refine XS.iload X116.here hx rfl (hb hby at_237) rfl ?_
    show Steps p.tables e below (T116.setTop (mkF m 239 #[vI p0, vI p1, vI p2, vI p3, vI p4, vI p5, vI v3, vI v6, vI v9, vI v12, vI v15, vI v18, vI v21, vI v24, vI v27, vI v30, vR b32, vR b36, vI (cP4 + (1 : Int32)), vI v62, vJ (-6510615555426900571 : Int64), .second, vR b64, .unset, .unset] [(.int v12), (.int (3 : Int32)), (.ref b100), (.ref b100), (.ref b93), (.ref b93)])) _
    exact k)
  obtain ⟨cl120, Ar120, q120, S120, M120, H120, G120⟩ := id av116
  have in120 : ¬ ((3 : Int32) < 0 ∨ cl120.slots.size ≤ ((3 : Int32)).toNatClampNeg) := inb_of S120 ⟨by decide, by decide⟩
  obtain ⟨T120, h120, X120, e120, W120, st120⟩ := stI X116 hx hZ e116 Ar120 (j := (3 : Int32)) in120 (g := (mkF m 239 #[vI p0, vI p1, vI p2, vI p3, vI p4, vI p5, vI v3, vI v6, vI v9, vI v12, vI v15, vI v18, vI v21, vI v24, vI v27, vI v30, vR b32, vR b36, vI (cP4 + (1 : Int32)), vI v62, vJ (-6510615555426900571 : Int64), .second, vR b64, .unset, .unset] [(.int v12), (.int (3 : Int32)), (.ref b100), (.ref b100), (.ref b93), (.ref b93)])) rfl rfl (hb hby at_239)
  have pre120 : Go p.tables e below S0 T120 (mkF m 240 #[vI p0, vI p1, vI p2, vI p3, vI p4, vI p5, vI v3, vI v6, vI v9, vI v12, vI v15, vI v18, vI v21, vI v24, vI v27, vI v30, vR b32, vR b36, vI (cP4 + (1 : Int32)), vI v62, vJ (-6510615555426900571 : Int64), .second, vR b64, .unset, .unset] [(.ref b100), (.ref b93), (.ref b93)]) := fun t k => pre119 t (st120 t k)
  obtain ⟨lo120, N120, X120⟩ : ∃ lo, Fr n0 lo ∧ Stand p l e room_1 s m #[(.int p0), (.int p1), (.int p2), (.int p3), (.int p4), (.int p5)] below meth c T120 lo 5 22 := ⟨_, Fr.snoc X120 N116 bo100, X120⟩
  have av120 : Arv Z h120 b100 kA100 .int (5 : Int32) [(.int v3), (.int v6), (.int v9), (.int v12), (.int (0 : Int32))] (.int (0 : Int32)) := Arv.set Ar120 q120 S120 M120 H120 G120 rfl W120 3 rfl (Nat.le_of_ble_eq_true rfl)
  have f121_1 := f117_1.other W120 ne101
  have f121_2 := f117_2.other W120 ne102
  have f121_3 := f117_3.other W120 ne103
  have f121_4 := Exa.wr W120 f117_4
  have f121_5 := Fld.other W120 f117_5 (Or.inl ne104)
  have f121_6 := Fld.other W120 f117_6 (Or.inl ne104)
  have f121_7 := Fld.other W120 f117_7 (Or.inl ne104)
  have f121_8 := Fld.other W120 f117_8 (Or.inl ne104)
  have f121_9 := Fld.other W120 f117_9 (Or.inl ne104)
  have f121_10 := Fld.other W120 f117_10 (Or.inl ne104)
  have zz122 : n0 ≤ h120.size := Nat.le_trans zz118 (Keep.of_wr W120).1
  have pre123 : Go p.tables e below S0 T120 (mkF m 244 #[vI p0, vI p1, vI p2, vI p3, vI p4, vI p5, vI v3, vI v6, vI v9, vI v12, vI v15, vI v18, vI v21, vI v24, vI v27, vI v30, vR b32, vR b36, vI (cP4 + (1 : Int32)), vI v62, vJ (-6510615555426900571 : Int64), .second, vR b64, .unset, .unset] [(.int v15), (.int (4 : Int32)), (.ref b100), (.ref b100), (.ref b93), (.ref b93)]) := fun t k => pre120 t (by
    refine XS.dup X120.here hx rfl (hb hby at_240) rfl rfl ?_
    refine XS.iconst X120.here hx rfl (hb hby at_241) ?_
    refine XS.iload X120.here hx rfl (hb hby at_242) rfl ?_
    show Steps p.tables e below (T120.setTop (mkF m 244 #[vI p0, vI p1, vI p2, vI p3, vI p4, vI p5, vI v3, vI v6, vI v9, vI v12, vI v15, vI v18, vI v21, vI v24, vI v27, vI v30, vR b32, vR b36, vI (cP4 + (1 : Int32)), vI v62, vJ (-6510615555426900571 : Int64), .second, vR b64, .unset, .unset] [(.int v15), (.int (4 : Int32)), (.ref b100), (.ref b100), (.ref b93), (.ref b93)])) _
    exact k)
  obtain ⟨cl124, Ar124, q124, S124, M124, H124, G124⟩ := id av120
  have in124 : ¬ ((4 : Int32) < 0 ∨ cl124.slots.size ≤ ((4 : Int32)).toNatClampNeg) := inb_of S124 ⟨by decide, by decide⟩
  obtain ⟨T124, h124, X124, e124, W124, st124⟩ := stI X120 hx hZ e120 Ar124 (j := (4 : Int32)) in124 (g := (mkF m 244 #[vI p0, vI p1, vI p2, vI p3, vI p4, vI p5, vI v3, vI v6, vI v9, vI v12, vI v15, vI v18, vI v21, vI v24, vI v27, vI v30, vR b32, vR b36, vI (cP4 + (1 : Int32)), vI v62, vJ (-6510615555426900571 : Int64), .second, vR b64, .unset, .unset] [(.int v15), (.int (4 : Int32)), (.ref b100), (.ref b100), (.ref b93), (.ref b93)])) rfl rfl (hb hby at_244)
  have pre124 : Go p.tables e below S0 T124 (mkF m 245 #[vI p0, vI p1, vI p2, vI p3, vI p4, vI p5, vI v3, vI v6, vI v9, vI v12, vI v15, vI v18, vI v21, vI v24, vI v27, vI v30, vR b32, vR b36, vI (cP4 + (1 : Int32)), vI v62, vJ (-6510615555426900571 : Int64), .second, vR b64, .unset, .unset] [(.ref b100), (.ref b93), (.ref b93)]) := fun t k => pre123 t (st124 t k)
  obtain ⟨lo124, N124, X124⟩ : ∃ lo, Fr n0 lo ∧ Stand p l e room_1 s m #[(.int p0), (.int p1), (.int p2), (.int p3), (.int p4), (.int p5)] below meth c T124 lo 5 22 := ⟨_, Fr.snoc X124 N120 bo100, X124⟩
  have av124 : Arv Z h124 b100 kA100 .int (5 : Int32) [(.int v3), (.int v6), (.int v9), (.int v12), (.int v15)] (.int (0 : Int32)) := Arv.set Ar124 q124 S124 M124 H124 G124 rfl W124 4 rfl (Nat.le_of_ble_eq_true rfl)
  have f125_1 := f121_1.other W124 ne101
  have f125_2 := f121_2.other W124 ne102
  have f125_3 := f121_3.other W124 ne103
  have f125_4 := Exa.wr W124 f121_4
  have f125_5 := Fld.other W124 f121_5 (Or.inl ne104)
  have f125_6 := Fld.other W124 f121_6 (Or.inl ne104)
  have f125_7 := Fld.other W124 f121_7 (Or.inl ne104)
  have f125_8 := Fld.other W124 f121_8 (Or.inl ne104)
  have f125_9 := Fld.other W124 f121_9 (Or.inl ne104)
  have f125_10 := Fld.other W124 f121_10 (Or.inl ne104)
  have zz126 : n0 ≤ h124.size := Nat.le_trans zz122 (Keep.of_wr W124).1
  obtain ⟨_, _, ⟨T127, qL127, qk127, qn127⟩, -, X127, ⟨Lc127, hQ127, ql127, qy127, qz127⟩, st127⟩ := X124.specialBack hx (y := (⟨"com/example/garantia/garantia/engine/StateLayout", "<init>", "([I)V"⟩ : MethodName)) rfl hown (mvT hZ (hw _ (List.mem_of_getElem? (i := 16) rfl))) (mvT hZ (hw _ (List.mem_of_getElem? (i := 17) rfl))) (mvT hZ (hw _ (List.mem_of_getElem? (i := 18) rfl))) (by decide) (backOf (W := 1) (rm4 l Z A0 hw [] b93 b100 kA100 v3 v6 v9 v12 v15 h124 n0 zz126 f125_4 f125_5 f125_6 f125_7 f125_8 f125_9 f125_10 av124 (Ne.symm ne104) bo93 hw0 hw1 hw2 hw3 hw4) hZ (hw _ (List.mem_of_getElem? (i := 18) rfl)) (hw _ (List.mem_of_getElem? (i := 15) rfl)) (by decide) (by decide)) (g := (mkF m 245 #[vI p0, vI p1, vI p2, vI p3, vI p4, vI p5, vI v3, vI v6, vI v9, vI v12, vI v15, vI v18, vI v21, vI v24, vI v27, vI v30, vR b32, vR b36, vI (cP4 + (1 : Int32)), vI v62, vJ (-6510615555426900571 : Int64), .second, vR b64, .unset, .unset] [(.ref b100), (.ref b93), (.ref b93)])) rfl (by rw [hml]; rfl) (Steps.refl _) (a := b93) (argsL := [(.ref b100)]) (rest := [(.ref b93)]) (lenOf pd_3 rfl) rfl (by show 2 * 0 + _ ≤ _; exact Nat.le_of_eq rfl) (hb hby at_245) (fun _ _ => ⟨rfl, e124, (by decide : 5 + 4 ≤ _), (by decide : 22 + 20 ≤ _)⟩)
  dsimp only [Pt.U, Pt.locs, Pt.cells, Pt.slots] at X127 ql127 qy127 qz127 st127 hQ127
  replace X127 := X127.more (Nat.le_of_eq qy127) (Nat.le_of_eq qz127)
  obtain ⟨rfl, Nq127, aw_127, as_127, am_127, ao_127, kw_127, ks_127, km_127, ko_127, c2_127, u2_127, c3_127, u3_127, c4_127, u4_127, hq127, ho127, hn127, Kq127, nf127_0, nf127_1, nf127_2, nf127_3, nf127_4, nf127_5, nf127_6, nf127_7, nf127_8, nf127_9⟩ := hQ127
  have N127 : Fr n0 qL127 := by rw [ql127]; exact Fr.app N124 Nq127
  have pre127 : Go p.tables e below S0 T127 (mkF m 248 #[vI p0, vI p1, vI p2, vI p3, vI p4, vI p5, vI v3, vI v6, vI v9, vI v12, vI v15, vI v18, vI v21, vI v24, vI v27, vI v30, vR b32, vR b36, vI (cP4 + (1 : Int32)), vI v62, vJ (-6510615555426900571 : Int64), .second, vR b64, .unset, .unset] [(.ref b93)]) := fun t k => pre124 t (st127.trans k)
  have f128_1 := f125_1.keep Kq127 (ninS ne94 nin0)
  have f128_2 := f125_2.keep Kq127 (ninS ne95 nin0)
  have f128_3 := f125_3.keep Kq127 (ninS ne96 nin0)
  have f128_4 := av124.keep Kq127 (ninS (Ne.symm ne104) nin0)
  have zz129 : n0 ≤ T127.heap.size := Nat.le_trans zz126 Kq127.1
  have bo127_0 : n0 ≤ aw_127 := Nat.le_trans zz126 ho127.1
  have nn127_0_0 : b32 ≠ aw_127 := Nat.ne_of_lt (Nat.lt_of_lt_of_le f125_1.lt ho127.1)
  have nn127_0_1 : b36 ≠ aw_127 := Nat.ne_of_lt (Nat.lt_of_lt_of_le f125_2.lt ho127.1)
  have nn127_0_2 : b64 ≠ aw_127 := Nat.ne_of_lt (Nat.lt_of_lt_of_le f125_3.lt ho127.1)
  have nn127_0_3 : b93 ≠ aw_127 := Nat.ne_of_lt (Nat.lt_of_lt_of_le f125_10.lt ho127.1)
  have nn127_0_4 : b100 ≠ aw_127 := Nat.ne_of_lt (Nat.lt_of_lt_of_le av124.lt ho127.1)
  have bo127_1 : n0 ≤ as_127 := Nat.le_trans zz126 ho127.2.1
  have nn127_1_0 : b32 ≠ as_127 := Nat.ne_of_lt (Nat.lt_of_lt_of_le f125_1.lt ho127.2.1)
  have nn127_1_1 : b36 ≠ as_127 := Nat.ne_of_lt (Nat.lt_of_lt_of_le f125_2.lt ho127.2.1)
  have nn127_1_2 : b64 ≠ as_127 := Nat.ne_of_lt (Nat.lt_of_lt_of_le f125_3.lt ho127.2.1)
  have nn127_1_3 : b93 ≠ as_127 := Nat.ne_of_lt (Nat.lt_of_lt_of_le f125_10.lt ho127.2.1)
  have nn127_1_4 : b100 ≠ as_127 := Nat.ne_of_lt (Nat.lt_of_lt_of_le av124.lt ho127.2.1)
  have bo127_2 : n0 ≤ am_127 := Nat.le_trans zz126 ho127.2.2.1
  have nn127_2_0 : b32 ≠ am_127 := Nat.ne_of_lt (Nat.lt_of_lt_of_le f125_1.lt ho127.2.2.1)
  have nn127_2_1 : b36 ≠ am_127 := Nat.ne_of_lt (Nat.lt_of_lt_of_le f125_2.lt ho127.2.2.1)
  have nn127_2_2 : b64 ≠ am_127 := Nat.ne_of_lt (Nat.lt_of_lt_of_le f125_3.lt ho127.2.2.1)
  have nn127_2_3 : b93 ≠ am_127 := Nat.ne_of_lt (Nat.lt_of_lt_of_le f125_10.lt ho127.2.2.1)
  have nn127_2_4 : b100 ≠ am_127 := Nat.ne_of_lt (Nat.lt_of_lt_of_le av124.lt ho127.2.2.1)
  have bo127_3 : n0 ≤ ao_127 := Nat.le_trans zz126 ho127.2.2.2
  have nn127_3_0 : b32 ≠ ao_127 := Nat.ne_of_lt (Nat.lt_of_lt_of_le f125_1.lt ho127.2.2.2)
  have nn127_3_1 : b36 ≠ ao_127 := Nat.ne_of_lt (Nat.lt_of_lt_of_le f125_2.lt ho127.2.2.2)
  have nn127_3_2 : b64 ≠ ao_127 := Nat.ne_of_lt (Nat.lt_of_lt_of_le f125_3.lt ho127.2.2.2)
  have nn127_3_3 : b93 ≠ ao_127 := Nat.ne_of_lt (Nat.lt_of_lt_of_le f125_10.lt ho127.2.2.2)
  have nn127_3_4 : b100 ≠ ao_127 := Nat.ne_of_lt (Nat.lt_of_lt_of_le av124.lt ho127.2.2.2)
  have pre130 : Go p.tables e below S0 T127 (mkF m 253 #[vI p0, vI p1, vI p2, vI p3, vI p4, vI p5, vI v3, vI v6, vI v9, vI v12, vI v15, vI v18, vI v21, vI v24, vI v27, vI v30, vR b32, vR b36, vI (cP4 + (1 : Int32)), vI v62, vJ (-6510615555426900571 : Int64), .second, vR b64, vR b93, .unset] [(.int (5 : Int32)), (.ref b93)]) := fun t k => pre127 t (by
    refine XS.astore X127.here hx rfl (hb hby at_248) rfl rfl (l' := #[vI p0, vI p1, vI p2, vI p3, vI p4, vI p5, vI v3, vI v6, vI v9, vI v12, vI v15, vI v18, vI v21, vI v24, vI v27, vI v30, vR b32, vR b36, vI (cP4 + (1 : Int32)), vI v62, vJ (-6510615555426900571 : Int64), .second, vR b64, vR b93, .unset]) rfl ?_
    refine XS.aload X127.here hx rfl (hb hby at_250) rfl rfl ?_
    refine XS.iconst X127.here hx rfl (hb hby at_252) ?_
    show Steps p.tables e below (T127.setTop (mkF m 253 #[vI p0, vI p1, vI p2, vI p3, vI p4, vI p5, vI v3, vI v6, vI v9, vI v12, vI v15, vI v18, vI v21, vI v24, vI v27, vI v30, vR b32, vR b36, vI (cP4 + (1 : Int32)), vI v62, vJ (-6510615555426900571 : Int64), .second, vR b64, vR b93, .unset] [(.int (5 : Int32)), (.ref b93)])) _
    exact k)
  obtain ⟨T131, h131, kA131, X131, e131, E131, A131, st131⟩ := newP X127 hx hZ (hw _ (List.mem_of_getElem? (i := 8) rfl)) rfl (g := (mkF m 253 #[vI p0, vI p1, vI p2, vI p3, vI p4, vI p5, vI v3, vI v6, vI v9, vI v12, vI v15, vI v18, vI v21, vI v24, vI v27, vI v30, vR b32, vR b36, vI (cP4 + (1 : Int32)), vI v62, vJ (-6510615555426900571 : Int64), .second, vR b64, vR b93, .unset] [(.int (5 : Int32)), (.ref b93)])) rfl (hb hby at_253) rfl (by decide) (cap := 5) (by decide) (by decide) (by decide) (by decide)
  obtain ⟨b131, g131⟩ : ∃ z, z = T127.heap.size := ⟨_, rfl⟩
  rw [← g131] at A131 st131
  have pre131 : Go p.tables e below S0 T131 (mkF m 255 #[vI p0, vI p1, vI p2, vI p3, vI p4, vI p5, vI v3, vI v6, vI v9, vI v12, vI v15, vI v18, vI v21, vI v24, vI v27, vI v30, vR b32, vR b36, vI (cP4 + (1 : Int32)), vI v62, vJ (-6510615555426900571 : Int64), .second, vR b64, vR b93, .unset] [(.ref b131), (.ref b93)]) := fun t k => pre130 t (st131 t k)
  have ne132 : b32 ≠ b131 := Nat.ne_of_lt (Nat.lt_of_lt_of_le f128_1.lt (Nat.le_of_eq g131.symm))
  have ne133 : b36 ≠ b131 := Nat.ne_of_lt (Nat.lt_of_lt_of_le f128_2.lt (Nat.le_of_eq g131.symm))
  have ne134 : b64 ≠ b131 := Nat.ne_of_lt (Nat.lt_of_lt_of_le f128_3.lt (Nat.le_of_eq g131.symm))
  have ne135 : b93 ≠ b131 := Nat.ne_of_lt (Nat.lt_of_lt_of_le nf127_0.lt (Nat.le_of_eq g131.symm))
  have ne136 : b100 ≠ b131 := Nat.ne_of_lt (Nat.lt_of_lt_of_le f128_4.lt (Nat.le_of_eq g131.symm))
  have ne137 : aw_127 ≠ b131 := Nat.ne_of_lt (Nat.lt_of_lt_of_le nf127_6.lt (Nat.le_of_eq g131.symm))
  have ne138 : as_127 ≠ b131 := Nat.ne_of_lt (Nat.lt_of_lt_of_le nf127_7.lt (Nat.le_of_eq g131.symm))
  have ne139 : am_127 ≠ b131 := Nat.ne_of_lt (Nat.lt_of_lt_of_le nf127_8.lt (Nat.le_of_eq g131.symm))
  have ne140 : ao_127 ≠ b131 := Nat.ne_of_lt (Nat.lt_of_lt_of_le nf127_9.lt (Nat.le_of_eq g131.symm))
  have bo131 : n0 ≤ b131 := Nat.le_trans zz129 (Nat.le_of_eq g131.symm)
  have f141_1 := f128_1.ext E131
  have f141_2 := f128_2.ext E131
  have f141_3 := f128_3.ext E131
  have f141_4 := Exa.ext E131 nf127_0
  have f141_5 := Fld.ext E131 nf127_1
  have f141_6 := Fld.ext E131 nf127_2
  have f141_7 := Fld.ext E131 nf127_3
  have f141_8 := Fld.ext E131 nf127_4
  have f141_9 := Fld.ext E131 nf127_5
  have f141_10 := f128_4.ext E131
  have f141_11 := nf127_6.ext E131
  have f141_12 := nf127_7.ext E131
  have f141_13 := nf127_8.ext E131
  have f141_14 := nf127_9.ext E131
  have zz142 : n0 ≤ h131.size := Nat.le_trans zz129 E131.1
  have av131 : Arv Z h131 b131 kA131 .int (5 : Int32) [(.int (0 : Int32)), (.int (0 : Int32)), (.int (0 : Int32)), (.int (0 : Int32)), (.int (0 : Int32))] (.int (0 : Int32)) := (Arv.new A131 (by decide)).pad (pad_rep [] (.int (0 : Int32)) 5)
  have pre143 : Go p.tables e below S0 T131 (mkF m 259 #[vI p0, vI p1, vI p2, vI p3, vI p4, vI p5, vI v3, vI v6, vI v9, vI v12, vI v15, vI v18, vI v21, vI v24, vI v27, vI v30, vR b32, vR b36, vI (cP4 + (1 : Int32)), vI v62, vJ (-6510615555426900571 : Int64), .second, vR b64, vR b93, .unset] [(.int v18), (.int (0 : Int32)), (.ref b131), (.ref b131), (.ref b93)]) := fun t k => pre131 t (by
    refine XS.dup X131.here hx rfl (hb hby at_255) rfl rfl ?_
    refine XS.iconst X131.here hx rfl (hb hby at_256) ?_
    refine XS.iload X131.here hx rfl (hb hby at_257) rfl ?_
    show Steps p.tables e below (T131.setTop (mkF m 259 #[vI p0, vI p1, vI p2, vI p3, vI p4, vI p5, vI v3, vI v6, vI v9, vI v12, vI v15, vI v18, vI v21, vI v24, vI v27, vI v30, vR b32, vR b36, vI (cP4 + (1 : Int32)), vI v62, vJ (-6510615555426900571 : Int64), .second, vR b64, vR b93, .unset] [(.int v18), (.int (0 : Int32)), (.ref b131), (.ref b131), (.ref b93)])) _
    exact k)
  obtain ⟨cl144, Ar144, q144, S144, M144, H144, G144⟩ := id av131
  have in144 : ¬ ((0 : Int32) < 0 ∨ cl144.slots.size ≤ ((0 : Int32)).toNatClampNeg) := inb_of S144 ⟨by decide, by decide⟩
  obtain ⟨T144, h144, X144, e144, W144, st144⟩ := stI X131 hx hZ e131 Ar144 (j := (0 : Int32)) in144 (g := (mkF m 259 #[vI p0, vI p1, vI p2, vI p3, vI p4, vI p5, vI v3, vI v6, vI v9, vI v12, vI v15, vI v18, vI v21, vI v24, vI v27, vI v30, vR b32, vR b36, vI (cP4 + (1 : Int32)), vI v62, vJ (-6510615555426900571 : Int64), .second, vR b64, vR b93, .unset] [(.int v18), (.int (0 : Int32)), (.ref b131), (.ref b131), (.ref b93)])) rfl rfl (hb hby at_259)
  have pre144 : Go p.tables e below S0 T144 (mkF m 260 #[vI p0, vI p1, vI p2, vI p3, vI p4, vI p5, vI v3, vI v6, vI v9, vI v12, vI v15, vI v18, vI v21, vI v24, vI v27, vI v30, vR b32, vR b36, vI (cP4 + (1 : Int32)), vI v62, vJ (-6510615555426900571 : Int64), .second, vR b64, vR b93, .unset] [(.ref b131), (.ref b93)]) := fun t k => pre143 t (st144 t k)
  obtain ⟨lo144, N144, X144⟩ : ∃ lo, Fr n0 lo ∧ Stand p l e room_1 s m #[(.int p0), (.int p1), (.int p2), (.int p3), (.int p4), (.int p5)] below meth c T144 lo 10 47 := ⟨_, Fr.snoc X144 N127 bo131, X144⟩
  have av144 : Arv Z h144 b131 kA131 .int (5 : Int32) [(.int v18), (.int (0 : Int32)), (.int (0 : Int32)), (.int (0 : Int32)), (.int (0 : Int32))] (.int (0 : Int32)) := Arv.set Ar144 q144 S144 M144 H144 G144 rfl W144 0 rfl (Nat.le_of_ble_eq_true rfl)
  have f145_1 := f141_1.other W144 ne132
  have f145_2 := f141_2.other W144 ne133
  have f145_3 := f141_3.other W144 ne134
  have f145_4 := Exa.wr W144 f141_4
  have f145_5 := Fld.other W144 f141_5 (Or.inl ne135)
  have f145_6 := Fld.other W144 f141_6 (Or.inl ne135)
  have f145_7 := Fld.other W144 f141_7 (Or.inl ne135)
  have f145_8 := Fld.other W144 f141_8 (Or.inl ne135)
  have f145_9 := Fld.other W144 f141_9 (Or.inl ne135)
  have f145_10 := f141_10.other W144 ne136
  have f145_11 := f141_11.other W144 ne137
  have f145_12 := f141_12.other W144 ne138
  have f145_13 := f141_13.other W144 ne139
  have f145_14 := f141_14.other W144 ne140
  have zz146 : n0 ≤ h144.size := Nat.le_trans zz142 (Keep.of_wr W144).1
  have pre147 : Go p.tables e below S0 T144 (mkF m 264 #[vI p0, vI p1, vI p2, vI p3, vI p4, vI p5, vI v3, vI v6, vI v9, vI v12, vI v15, vI v18, vI v21, vI v24, vI v27, vI v30, vR b32, vR b36, vI (cP4 + (1 : Int32)), vI v62, vJ (-6510615555426900571 : Int64), .second, vR b64, vR b93, .unset] [(.int v21), (.int (1 : Int32)), (.ref b131), (.ref b131), (.ref b93)]) := fun t k => pre144 t (by
    refine XS.dup X144.here hx rfl (hb hby at_260) rfl rfl ?_
    refine XS.iconst X144.here hx rfl (hb hby at_261) ?_
    refine XS.iload X144.here hx rfl (hb hby at_262) rfl ?_
    show Steps p.tables e below (T144.setTop (mkF m 264 #[vI p0, vI p1, vI p2, vI p3, vI p4, vI p5, vI v3, vI v6, vI v9, vI v12, vI v15, vI v18, vI v21, vI v24, vI v27, vI v30, vR b32, vR b36, vI (cP4 + (1 : Int32)), vI v62, vJ (-6510615555426900571 : Int64), .second, vR b64, vR b93, .unset] [(.int v21), (.int (1 : Int32)), (.ref b131), (.ref b131), (.ref b93)])) _
    exact k)
  obtain ⟨cl148, Ar148, q148, S148, M148, H148, G148⟩ := id av144
  have in148 : ¬ ((1 : Int32) < 0 ∨ cl148.slots.size ≤ ((1 : Int32)).toNatClampNeg) := inb_of S148 ⟨by decide, by decide⟩
  obtain ⟨T148, h148, X148, e148, W148, st148⟩ := stI X144 hx hZ e144 Ar148 (j := (1 : Int32)) in148 (g := (mkF m 264 #[vI p0, vI p1, vI p2, vI p3, vI p4, vI p5, vI v3, vI v6, vI v9, vI v12, vI v15, vI v18, vI v21, vI v24, vI v27, vI v30, vR b32, vR b36, vI (cP4 + (1 : Int32)), vI v62, vJ (-6510615555426900571 : Int64), .second, vR b64, vR b93, .unset] [(.int v21), (.int (1 : Int32)), (.ref b131), (.ref b131), (.ref b93)])) rfl rfl (hb hby at_264)
  have pre148 : Go p.tables e below S0 T148 (mkF m 265 #[vI p0, vI p1, vI p2, vI p3, vI p4, vI p5, vI v3, vI v6, vI v9, vI v12, vI v15, vI v18, vI v21, vI v24, vI v27, vI v30, vR b32, vR b36, vI (cP4 + (1 : Int32)), vI v62, vJ (-6510615555426900571 : Int64), .second, vR b64, vR b93, .unset] [(.ref b131), (.ref b93)]) := fun t k => pre147 t (st148 t k)
  obtain ⟨lo148, N148, X148⟩ : ∃ lo, Fr n0 lo ∧ Stand p l e room_1 s m #[(.int p0), (.int p1), (.int p2), (.int p3), (.int p4), (.int p5)] below meth c T148 lo 10 47 := ⟨_, Fr.snoc X148 N144 bo131, X148⟩
  have av148 : Arv Z h148 b131 kA131 .int (5 : Int32) [(.int v18), (.int v21), (.int (0 : Int32)), (.int (0 : Int32)), (.int (0 : Int32))] (.int (0 : Int32)) := Arv.set Ar148 q148 S148 M148 H148 G148 rfl W148 1 rfl (Nat.le_of_ble_eq_true rfl)
  have f149_1 := f145_1.other W148 ne132
  have f149_2 := f145_2.other W148 ne133
  have f149_3 := f145_3.other W148 ne134
  have f149_4 := Exa.wr W148 f145_4
  have f149_5 := Fld.other W148 f145_5 (Or.inl ne135)
  have f149_6 := Fld.other W148 f145_6 (Or.inl ne135)
  have f149_7 := Fld.other W148 f145_7 (Or.inl ne135)
  have f149_8 := Fld.other W148 f145_8 (Or.inl ne135)
  have f149_9 := Fld.other W148 f145_9 (Or.inl ne135)
  have f149_10 := f145_10.other W148 ne136
  have f149_11 := f145_11.other W148 ne137
  have f149_12 := f145_12.other W148 ne138
  have f149_13 := f145_13.other W148 ne139
  have f149_14 := f145_14.other W148 ne140
  have zz150 : n0 ≤ h148.size := Nat.le_trans zz146 (Keep.of_wr W148).1
  have pre151 : Go p.tables e below S0 T148 (mkF m 269 #[vI p0, vI p1, vI p2, vI p3, vI p4, vI p5, vI v3, vI v6, vI v9, vI v12, vI v15, vI v18, vI v21, vI v24, vI v27, vI v30, vR b32, vR b36, vI (cP4 + (1 : Int32)), vI v62, vJ (-6510615555426900571 : Int64), .second, vR b64, vR b93, .unset] [(.int v24), (.int (2 : Int32)), (.ref b131), (.ref b131), (.ref b93)]) := fun t k => pre148 t (by
    refine XS.dup X148.here hx rfl (hb hby at_265) rfl rfl ?_
    refine XS.iconst X148.here hx rfl (hb hby at_266) ?_
    refine XS.iload X148.here hx rfl (hb hby at_267) rfl ?_
    show Steps p.tables e below (T148.setTop (mkF m 269 #[vI p0, vI p1, vI p2, vI p3, vI p4, vI p5, vI v3, vI v6, vI v9, vI v12, vI v15, vI v18, vI v21, vI v24, vI v27, vI v30, vR b32, vR b36, vI (cP4 + (1 : Int32)), vI v62, vJ (-6510615555426900571 : Int64), .second, vR b64, vR b93, .unset] [(.int v24), (.int (2 : Int32)), (.ref b131), (.ref b131), (.ref b93)])) _
    exact k)
  obtain ⟨cl152, Ar152, q152, S152, M152, H152, G152⟩ := id av148
  have in152 : ¬ ((2 : Int32) < 0 ∨ cl152.slots.size ≤ ((2 : Int32)).toNatClampNeg) := inb_of S152 ⟨by decide, by decide⟩
  obtain ⟨T152, h152, X152, e152, W152, st152⟩ := stI X148 hx hZ e148 Ar152 (j := (2 : Int32)) in152 (g := (mkF m 269 #[vI p0, vI p1, vI p2, vI p3, vI p4, vI p5, vI v3, vI v6, vI v9, vI v12, vI v15, vI v18, vI v21, vI v24, vI v27, vI v30, vR b32, vR b36, vI (cP4 + (1 : Int32)), vI v62, vJ (-6510615555426900571 : Int64), .second, vR b64, vR b93, .unset] [(.int v24), (.int (2 : Int32)), (.ref b131), (.ref b131), (.ref b93)])) rfl rfl (hb hby at_269)
  have pre152 : Go p.tables e below S0 T152 (mkF m 270 #[vI p0, vI p1, vI p2, vI p3, vI p4, vI p5, vI v3, vI v6, vI v9, vI v12, vI v15, vI v18, vI v21, vI v24, vI v27, vI v30, vR b32, vR b36, vI (cP4 + (1 : Int32)), vI v62, vJ (-6510615555426900571 : Int64), .second, vR b64, vR b93, .unset] [(.ref b131), (.ref b93)]) := fun t k => pre151 t (st152 t k)
  obtain ⟨lo152, N152, X152⟩ : ∃ lo, Fr n0 lo ∧ Stand p l e room_1 s m #[(.int p0), (.int p1), (.int p2), (.int p3), (.int p4), (.int p5)] below meth c T152 lo 10 47 := ⟨_, Fr.snoc X152 N148 bo131, X152⟩
  have av152 : Arv Z h152 b131 kA131 .int (5 : Int32) [(.int v18), (.int v21), (.int v24), (.int (0 : Int32)), (.int (0 : Int32))] (.int (0 : Int32)) := Arv.set Ar152 q152 S152 M152 H152 G152 rfl W152 2 rfl (Nat.le_of_ble_eq_true rfl)
  have f153_1 := f149_1.other W152 ne132
  have f153_2 := f149_2.other W152 ne133
  have f153_3 := f149_3.other W152 ne134
  have f153_4 := Exa.wr W152 f149_4
  have f153_5 := Fld.other W152 f149_5 (Or.inl ne135)
  have f153_6 := Fld.other W152 f149_6 (Or.inl ne135)
  have f153_7 := Fld.other W152 f149_7 (Or.inl ne135)
  have f153_8 := Fld.other W152 f149_8 (Or.inl ne135)
  have f153_9 := Fld.other W152 f149_9 (Or.inl ne135)
  have f153_10 := f149_10.other W152 ne136
  have f153_11 := f149_11.other W152 ne137
  have f153_12 := f149_12.other W152 ne138
  have f153_13 := f149_13.other W152 ne139
  have f153_14 := f149_14.other W152 ne140
  have zz154 : n0 ≤ h152.size := Nat.le_trans zz150 (Keep.of_wr W152).1
  have pre155 : Go p.tables e below S0 T152 (mkF m 274 #[vI p0, vI p1, vI p2, vI p3, vI p4, vI p5, vI v3, vI v6, vI v9, vI v12, vI v15, vI v18, vI v21, vI v24, vI v27, vI v30, vR b32, vR b36, vI (cP4 + (1 : Int32)), vI v62, vJ (-6510615555426900571 : Int64), .second, vR b64, vR b93, .unset] [(.int v27), (.int (3 : Int32)), (.ref b131), (.ref b131), (.ref b93)]) := fun t k => pre152 t (by
    refine XS.dup X152.here hx rfl (hb hby at_270) rfl rfl ?_
    refine XS.iconst X152.here hx rfl (hb hby at_271) ?_
    refine XS.iload X152.here hx rfl (hb hby at_272) rfl ?_
    show Steps p.tables e below (T152.setTop (mkF m 274 #[vI p0, vI p1, vI p2, vI p3, vI p4, vI p5, vI v3, vI v6, vI v9, vI v12, vI v15, vI v18, vI v21, vI v24, vI v27, vI v30, vR b32, vR b36, vI (cP4 + (1 : Int32)), vI v62, vJ (-6510615555426900571 : Int64), .second, vR b64, vR b93, .unset] [(.int v27), (.int (3 : Int32)), (.ref b131), (.ref b131), (.ref b93)])) _
    exact k)
  obtain ⟨cl156, Ar156, q156, S156, M156, H156, G156⟩ := id av152
  have in156 : ¬ ((3 : Int32) < 0 ∨ cl156.slots.size ≤ ((3 : Int32)).toNatClampNeg) := inb_of S156 ⟨by decide, by decide⟩
  obtain ⟨T156, h156, X156, e156, W156, st156⟩ := stI X152 hx hZ e152 Ar156 (j := (3 : Int32)) in156 (g := (mkF m 274 #[vI p0, vI p1, vI p2, vI p3, vI p4, vI p5, vI v3, vI v6, vI v9, vI v12, vI v15, vI v18, vI v21, vI v24, vI v27, vI v30, vR b32, vR b36, vI (cP4 + (1 : Int32)), vI v62, vJ (-6510615555426900571 : Int64), .second, vR b64, vR b93, .unset] [(.int v27), (.int (3 : Int32)), (.ref b131), (.ref b131), (.ref b93)])) rfl rfl (hb hby at_274)
  have pre156 : Go p.tables e below S0 T156 (mkF m 275 #[vI p0, vI p1, vI p2, vI p3, vI p4, vI p5, vI v3, vI v6, vI v9, vI v12, vI v15, vI v18, vI v21, vI v24, vI v27, vI v30, vR b32, vR b36, vI (cP4 + (1 : Int32)), vI v62, vJ (-6510615555426900571 : Int64), .second, vR b64, vR b93, .unset] [(.ref b131), (.ref b93)]) := fun t k => pre155 t (st156 t k)
  obtain ⟨lo156, N156, X156⟩ : ∃ lo, Fr n0 lo ∧ Stand p l e room_1 s m #[(.int p0), (.int p1), (.int p2), (.int p3), (.int p4), (.int p5)] below meth c T156 lo 10 47 := ⟨_, Fr.snoc X156 N152 bo131, X156⟩
  have av156 : Arv Z h156 b131 kA131 .int (5 : Int32) [(.int v18), (.int v21), (.int v24), (.int v27), (.int (0 : Int32))] (.int (0 : Int32)) := Arv.set Ar156 q156 S156 M156 H156 G156 rfl W156 3 rfl (Nat.le_of_ble_eq_true rfl)
  have f157_1 := f153_1.other W156 ne132
  have f157_2 := f153_2.other W156 ne133
  have f157_3 := f153_3.other W156 ne134
  have f157_4 := Exa.wr W156 f153_4
  have f157_5 := Fld.other W156 f153_5 (Or.inl ne135)
  have f157_6 := Fld.other W156 f153_6 (Or.inl ne135)
  have f157_7 := Fld.other W156 f153_7 (Or.inl ne135)
  have f157_8 := Fld.other W156 f153_8 (Or.inl ne135)
  have f157_9 := Fld.other W156 f153_9 (Or.inl ne135)
  have f157_10 := f153_10.other W156 ne136
  have f157_11 := f153_11.other W156 ne137
  have f157_12 := f153_12.other W156 ne138
  have f157_13 := f153_13.other W156 ne139
  have f157_14 := f153_14.other W156 ne140
  have zz158 : n0 ≤ h156.size := Nat.le_trans zz154 (Keep.of_wr W156).1
  have pre159 : Go p.tables e below S0 T156 (mkF m 279 #[vI p0, vI p1, vI p2, vI p3, vI p4, vI p5, vI v3, vI v6, vI v9, vI v12, vI v15, vI v18, vI v21, vI v24, vI v27, vI v30, vR b32, vR b36, vI (cP4 + (1 : Int32)), vI v62, vJ (-6510615555426900571 : Int64), .second, vR b64, vR b93, .unset] [(.int v30), (.int (4 : Int32)), (.ref b131), (.ref b131), (.ref b93)]) := fun t k => pre156 t (by
    refine XS.dup X156.here hx rfl (hb hby at_275) rfl rfl ?_
    refine XS.iconst X156.here hx rfl (hb hby at_276) ?_
    refine XS.iload X156.here hx rfl (hb hby at_277) rfl ?_
    show Steps p.tables e below (T156.setTop (mkF m 279 #[vI p0, vI p1, vI p2, vI p3, vI p4, vI p5, vI v3, vI v6, vI v9, vI v12, vI v15, vI v18, vI v21, vI v24, vI v27, vI v30, vR b32, vR b36, vI (cP4 + (1 : Int32)), vI v62, vJ (-6510615555426900571 : Int64), .second, vR b64, vR b93, .unset] [(.int v30), (.int (4 : Int32)), (.ref b131), (.ref b131), (.ref b93)])) _
    exact k)
  obtain ⟨cl160, Ar160, q160, S160, M160, H160, G160⟩ := id av156
  have in160 : ¬ ((4 : Int32) < 0 ∨ cl160.slots.size ≤ ((4 : Int32)).toNatClampNeg) := inb_of S160 ⟨by decide, by decide⟩
  obtain ⟨T160, h160, X160, e160, W160, st160⟩ := stI X156 hx hZ e156 Ar160 (j := (4 : Int32)) in160 (g := (mkF m 279 #[vI p0, vI p1, vI p2, vI p3, vI p4, vI p5, vI v3, vI v6, vI v9, vI v12, vI v15, vI v18, vI v21, vI v24, vI v27, vI v30, vR b32, vR b36, vI (cP4 + (1 : Int32)), vI v62, vJ (-6510615555426900571 : Int64), .second, vR b64, vR b93, .unset] [(.int v30), (.int (4 : Int32)), (.ref b131), (.ref b131), (.ref b93)])) rfl rfl (hb hby at_279)
  have pre160 : Go p.tables e below S0 T160 (mkF m 280 #[vI p0, vI p1, vI p2, vI p3, vI p4, vI p5, vI v3, vI v6, vI v9, vI v12, vI v15, vI v18, vI v21, vI v24, vI v27, vI v30, vR b32, vR b36, vI (cP4 + (1 : Int32)), vI v62, vJ (-6510615555426900571 : Int64), .second, vR b64, vR b93, .unset] [(.ref b131), (.ref b93)]) := fun t k => pre159 t (st160 t k)
  obtain ⟨lo160, N160, X160⟩ : ∃ lo, Fr n0 lo ∧ Stand p l e room_1 s m #[(.int p0), (.int p1), (.int p2), (.int p3), (.int p4), (.int p5)] below meth c T160 lo 10 47 := ⟨_, Fr.snoc X160 N156 bo131, X160⟩
  have av160 : Arv Z h160 b131 kA131 .int (5 : Int32) [(.int v18), (.int v21), (.int v24), (.int v27), (.int v30)] (.int (0 : Int32)) := Arv.set Ar160 q160 S160 M160 H160 G160 rfl W160 4 rfl (Nat.le_of_ble_eq_true rfl)
  have f161_1 := f157_1.other W160 ne132
  have f161_2 := f157_2.other W160 ne133
  have f161_3 := f157_3.other W160 ne134
  have f161_4 := Exa.wr W160 f157_4
  have f161_5 := Fld.other W160 f157_5 (Or.inl ne135)
  have f161_6 := Fld.other W160 f157_6 (Or.inl ne135)
  have f161_7 := Fld.other W160 f157_7 (Or.inl ne135)
  have f161_8 := Fld.other W160 f157_8 (Or.inl ne135)
  have f161_9 := Fld.other W160 f157_9 (Or.inl ne135)
  have f161_10 := f157_10.other W160 ne136
  have f161_11 := f157_11.other W160 ne137
  have f161_12 := f157_12.other W160 ne138
  have f161_13 := f157_13.other W160 ne139
  have f161_14 := f157_14.other W160 ne140
  have zz162 : n0 ≤ h160.size := Nat.le_trans zz158 (Keep.of_wr W160).1
  have pre163 : Go p.tables e below S0 T160 (mkF m 284 #[vI p0, vI p1, vI p2, vI p3, vI p4, vI p5, vI v3, vI v6, vI v9, vI v12, vI v15, vI v18, vI v21, vI v24, vI v27, vI v30, vR b32, vR b36, vI (cP4 + (1 : Int32)), vI v62, vJ (-6510615555426900571 : Int64), .second, vR b64, vR b93, .unset] [(.int v62), (.ref b64), (.ref b131), (.ref b93)]) := fun t k => pre160 t (by
    refine XS.aload X160.here hx rfl (hb hby at_280) rfl rfl ?_
    refine XS.iload X160.here hx rfl (hb hby at_282) rfl ?_
    exact k)
  obtain rfl : cP2 = c2_127 := by rw [(hq127.1).1, hP2.1]
  obtain rfl : uP2 = u2_127 := by rw [(hq127.1).2, hP2.2]
  obtain rfl : cP3 = c3_127 := by rw [(hq127.2.1).1, hP3.1]
  obtain rfl : uP3 = u3_127 := by rw [(hq127.2.1).2, hP3.2]
  obtain rfl : cP4 = c4_127 := by rw [(hq127.2.2).1, hP4.1]
  obtain rfl : uP4 = u4_127 := by rw [(hq127.2.2).2, hP4.2]
  refine cps (A := ∃ (T180 : State) (Lo180 : List Loc) (h180 : Heap) (j287_l18_179 : Int32) (j287_a1_0_181 : Int64) (j287_a1_1_182 : Int64) (j287_a1_2_183 : Int64) (j287_a1_3_184 : Int64) (j287_a1_4_185 : Int64) (j287_a1_5_186 : Int64) (j287_f3_187 : Int32), (Stand p l e room_1 s m #[(.int p0), (.int p1), (.int p2), (.int p3), (.int p4), (.int p5)] below meth c T180 Lo180 10 47) ∧ (T180.heap = h180) ∧ (Fr n0 Lo180) ∧ (n0 ≤ h180.size) ∧ (Arv Z h180 b32 kA32 .long (3 : Int32) [(.long t4_0), (.long t4_1), (.long t4_2)] (.long (0 : Int64))) ∧ (Arv Z h180 b64 kA64 .long (6 : Int32) [(.long j287_a1_0_181), (.long j287_a1_1_182), (.long j287_a1_2_183), (.long j287_a1_3_184), (.long j287_a1_4_185), (.long j287_a1_5_186)] (.long (0 : Int64))) ∧ (Exa Z h180 b93 "com/example/garantia/garantia/engine/StateLayout") ∧ (Fld Z h180 b93 "com/example/garantia/garantia/engine/StateLayout" "words" "I" (.int j287_f3_187)) ∧ (j287_f3_187 = j287_l18_179 ∧ own_cells v62 j287_l18_179 j287_a1_0_181 j287_a1_1_182 j287_a1_2_183 j287_a1_3_184 j287_a1_4_185 j287_a1_5_186 t4_0 t4_1 t4_2 (-6510615555426900571 : Int64)) ∧ (Go p.tables e below S0 T180 (mkF m 287 #[vI p0, vI p1, vI p2, vI p3, vI p4, vI p5, vI v3, vI v6, vI v9, vI v12, vI v15, vI v18, vI v21, vI v24, vI v27, vI v30, vR b32, vR b36, vI j287_l18_179, vI v62, vJ (-6510615555426900571 : Int64), .second, vR b64, vR b93, .unset] []))) (fun tail190 => ?_) ?_
  · skip
    rcases own_pat5 hw0 hw1 hw2 hw3 hw4 hP2 hP3 hP4 with ⟨rfl, rfl, rfl⟩ | ⟨rfl, rfl, rfl⟩ | ⟨rfl, rfl, rfl⟩ | ⟨rfl, rfl, rfl⟩ | ⟨rfl, rfl, rfl⟩
    · skip
      have ex0 : t4_0 = ((((((0 : Int64) ||| ((v18.toInt64) <<< ((0 : Int32) &&& 0x3f).toInt64)) ||| ((v21.toInt64) <<< (((0 : Int32) + v3) &&& 0x3f).toInt64)) ||| ((v24.toInt64) <<< (uP2 &&& 0x3f).toInt64)) ||| ((v27.toInt64) <<< (uP3 &&& 0x3f).toInt64)) ||| ((v30.toInt64) <<< (uP4 &&& 0x3f).toInt64)) := by
        rw [hT4.1, hT3.1, hT2.1, hT1.1, hT0.1]
        rfl
      obtain ⟨cq164, kq164, qa164, qb164, qc164⟩ := isOf hZ e160 f161_4
      obtain ⟨_, _, ⟨T164, qL164, qk164, qn164⟩, -, X164, ⟨Lc164, hQ164, ql164, qy164, qz164⟩, st164⟩ := X160.virtualBack hx (y := (⟨"com/example/garantia/garantia/engine/StateLayout", "pack", "([I[JI)V"⟩ : MethodName)) (z := (⟨"com/example/garantia/garantia/engine/StateLayout", "pack", "([I[JI)V"⟩ : MethodName)) hown (mvT hZ (hw _ (List.mem_of_getElem? (i := 35) rfl))) (mvT hZ (hw _ (List.mem_of_getElem? (i := 36) rfl))) (notFace_of_selects (args := #[]) (mvT hZ (hw _ (List.mem_of_getElem? (i := 38) rfl)))) (mvT hZ (hw _ (List.mem_of_getElem? (i := 38) rfl))) (mvT hZ (hw _ (List.mem_of_getElem? (i := 37) rfl))) (by decide) (backOf (W := 0) (rm6_00000 l Z A0 hw [] b93 b131 b64 v62 aw_127 as_127 kw_127 ks_127 kA131 kA64 (0 : Int32) ((0 : Int32) + v3) uP2 uP3 uP4 v18 v21 v24 v27 v30 (-6510615555426900571 : Int64) (-6510615555426900571 : Int64) (-6510615555426900571 : Int64) (-6510615555426900571 : Int64) (-6510615555426900571 : Int64) (-6510615555426900571 : Int64) h160 n0 zz162 f161_9 f161_5 f161_6 f161_11 f161_12 av160 f161_3 (Ne.symm ne96) (Ne.symm nn127_0_2) (Ne.symm nn127_1_2) (Ne.symm ne134) bo64 (own_ix hoff).1) hZ (hw _ (List.mem_of_getElem? (i := 39) rfl)) (hw _ (List.mem_of_getElem? (i := 15) rfl)) (by decide) (by decide)) qa164 qc164 (g := (mkF m 284 #[vI p0, vI p1, vI p2, vI p3, vI p4, vI p5, vI v3, vI v6, vI v9, vI v12, vI v15, vI v18, vI v21, vI v24, vI v27, vI v30, vR b32, vR b36, vI (1 : Int32), vI v62, vJ (-6510615555426900571 : Int64), .second, vR b64, vR b93, .unset] [(.int v62), (.ref b64), (.ref b131), (.ref b93)])) rfl (by rw [hml]; rfl) (Steps.refl _) (argsL := [(.ref b131), (.ref b64), (.int v62)]) (rest := []) (lenOf pd_4 rfl) rfl (by show 2 * 0 + _ ≤ _; exact Nat.le_of_eq rfl) (hb hby at_284) (fun _ _ => ⟨rfl, e160, (by decide : 10 + 0 ≤ _), (by decide : 47 + 0 ≤ _)⟩)
      dsimp only [Pt.U, Pt.locs, Pt.cells, Pt.slots] at X164 ql164 qy164 qz164 st164 hQ164
      replace X164 := X164.more (Nat.le_of_eq qy164) (Nat.le_of_eq qz164)
      obtain ⟨rfl, Nq164, z164_0, z164_1, z164_2, z164_3, z164_4, z164_5, hZ164, Kq164, nf164_0⟩ := hQ164
      have N164 : Fr n0 qL164 := by rw [ql164]; exact Fr.app N160 Nq164
      have pre164 : Go p.tables e below S0 T164 (mkF m 287 #[vI p0, vI p1, vI p2, vI p3, vI p4, vI p5, vI v3, vI v6, vI v9, vI v12, vI v15, vI v18, vI v21, vI v24, vI v27, vI v30, vR b32, vR b36, vI (1 : Int32), vI v62, vJ (-6510615555426900571 : Int64), .second, vR b64, vR b93, .unset] []) := fun t k => pre163 t (st164.trans k)
      have f165_1 := f161_1.keep Kq164 (ninS ne65 nin0)
      have f165_2 := f161_2.keep Kq164 (ninS ne66 nin0)
      have f165_3 := Exa.keep f161_4 Kq164
      have f165_4 := Fld.keep f161_5 Kq164 (ninS (Ne.symm ne96) nin0)
      have f165_5 := Fld.keep f161_6 Kq164 (ninS (Ne.symm ne96) nin0)
      have f165_6 := Fld.keep f161_7 Kq164 (ninS (Ne.symm ne96) nin0)
      have f165_7 := Fld.keep f161_8 Kq164 (ninS (Ne.symm ne96) nin0)
      have f165_8 := Fld.keep f161_9 Kq164 (ninS (Ne.symm ne96) nin0)
      have f165_9 := f161_10.keep Kq164 (ninS (Ne.symm ne103) nin0)
      have f165_10 := f161_11.keep Kq164 (ninS (Ne.symm nn127_0_2) nin0)
      have f165_11 := f161_12.keep Kq164 (ninS (Ne.symm nn127_1_2) nin0)
      have f165_12 := f161_13.keep Kq164 (ninS (Ne.symm nn127_2_2) nin0)
      have f165_13 := f161_14.keep Kq164 (ninS (Ne.symm nn127_3_2) nin0)
      have f165_14 := av160.keep Kq164 (ninS (Ne.symm ne134) nin0)
      have zz166 : n0 ≤ T164.heap.size := Nat.le_trans zz162 Kq164.1
      exact tail190 ⟨T164, _, T164.heap, (1 : Int32), z164_0, z164_1, z164_2, z164_3, z164_4, z164_5, (1 : Int32), X164.more (by decide) (by decide), rfl, N164, zz166, f165_1, nf164_0, f165_3, f165_8, (by exact ⟨rfl, own_all1 hoff hZ164 ex0⟩), pre164⟩
    · skip
      have ex0 : t4_0 = (((((0 : Int64) ||| ((v18.toInt64) <<< ((0 : Int32) &&& 0x3f).toInt64)) ||| ((v21.toInt64) <<< (((0 : Int32) + v3) &&& 0x3f).toInt64)) ||| ((v24.toInt64) <<< (uP2 &&& 0x3f).toInt64)) ||| ((v27.toInt64) <<< (uP3 &&& 0x3f).toInt64)) := by
        rw [hT4.1, hT3.1, hT2.1, hT1.1, hT0.1]
        rfl
      have ex1 : t4_1 = ((0 : Int64) ||| ((v30.toInt64) <<< (uP4 &&& 0x3f).toInt64)) := by
        rw [hT4.2.1, hT3.2.1, hT2.2.1, hT1.2.1, hT0.2.1]
        rfl
      obtain ⟨cq167, kq167, qa167, qb167, qc167⟩ := isOf hZ e160 f161_4
      obtain ⟨_, _, ⟨T167, qL167, qk167, qn167⟩, -, X167, ⟨Lc167, hQ167, ql167, qy167, qz167⟩, st167⟩ := X160.virtualBack hx (y := (⟨"com/example/garantia/garantia/engine/StateLayout", "pack", "([I[JI)V"⟩ : MethodName)) (z := (⟨"com/example/garantia/garantia/engine/StateLayout", "pack", "([I[JI)V"⟩ : MethodName)) hown (mvT hZ (hw _ (List.mem_of_getElem? (i := 35) rfl))) (mvT hZ (hw _ (List.mem_of_getElem? (i := 36) rfl))) (notFace_of_selects (args := #[]) (mvT hZ (hw _ (List.mem_of_getElem? (i := 38) rfl)))) (mvT hZ (hw _ (List.mem_of_getElem? (i := 38) rfl))) (mvT hZ (hw _ (List.mem_of_getElem? (i := 37) rfl))) (by decide) (backOf (W := 0) (rm6_00001 l Z A0 hw [] b93 b131 b64 v62 aw_127 as_127 kw_127 ks_127 kA131 kA64 (0 : Int32) ((0 : Int32) + v3) uP2 uP3 uP4 v18 v21 v24 v27 v30 (-6510615555426900571 : Int64) (-6510615555426900571 : Int64) (-6510615555426900571 : Int64) (-6510615555426900571 : Int64) (-6510615555426900571 : Int64) (-6510615555426900571 : Int64) h160 n0 zz162 f161_9 f161_5 f161_6 f161_11 f161_12 av160 f161_3 (Ne.symm ne96) (Ne.symm nn127_0_2) (Ne.symm nn127_1_2) (Ne.symm ne134) bo64 (own_ix hoff).2.1 (own_ix hoff).2.2.1) hZ (hw _ (List.mem_of_getElem? (i := 39) rfl)) (hw _ (List.mem_of_getElem? (i := 15) rfl)) (by decide) (by decide)) qa167 qc167 (g := (mkF m 284 #[vI p0, vI p1, vI p2, vI p3, vI p4, vI p5, vI v3, vI v6, vI v9, vI v12, vI v15, vI v18, vI v21, vI v24, vI v27, vI v30, vR b32, vR b36, vI (2 : Int32), vI v62, vJ (-6510615555426900571 : Int64), .second, vR b64, vR b93, .unset] [(.int v62), (.ref b64), (.ref b131), (.ref b93)])) rfl (by rw [hml]; rfl) (Steps.refl _) (argsL := [(.ref b131), (.ref b64), (.int v62)]) (rest := []) (lenOf pd_4 rfl) rfl (by show 2 * 0 + _ ≤ _; exact Nat.le_of_eq rfl) (hb hby at_284) (fun _ _ => ⟨rfl, e160, (by decide : 10 + 0 ≤ _), (by decide : 47 + 0 ≤ _)⟩)
      dsimp only [Pt.U, Pt.locs, Pt.cells, Pt.slots] at X167 ql167 qy167 qz167 st167 hQ167
      replace X167 := X167.more (Nat.le_of_eq qy167) (Nat.le_of_eq qz167)
      obtain ⟨rfl, Nq167, z167_0, z167_1, z167_2, z167_3, z167_4, z167_5, hZ167, Kq167, nf167_0⟩ := hQ167
      have N167 : Fr n0 qL167 := by rw [ql167]; exact Fr.app N160 Nq167
      have pre167 : Go p.tables e below S0 T167 (mkF m 287 #[vI p0, vI p1, vI p2, vI p3, vI p4, vI p5, vI v3, vI v6, vI v9, vI v12, vI v15, vI v18, vI v21, vI v24, vI v27, vI v30, vR b32, vR b36, vI (2 : Int32), vI v62, vJ (-6510615555426900571 : Int64), .second, vR b64, vR b93, .unset] []) := fun t k => pre163 t (st167.trans k)
      have f168_1 := f161_1.keep Kq167 (ninS ne65 nin0)
      have f168_2 := f161_2.keep Kq167 (ninS ne66 nin0)
      have f168_3 := Exa.keep f161_4 Kq167
      have f168_4 := Fld.keep f161_5 Kq167 (ninS (Ne.symm ne96) nin0)
      have f168_5 := Fld.keep f161_6 Kq167 (ninS (Ne.symm ne96) nin0)
      have f168_6 := Fld.keep f161_7 Kq167 (ninS (Ne.symm ne96) nin0)
      have f168_7 := Fld.keep f161_8 Kq167 (ninS (Ne.symm ne96) nin0)
      have f168_8 := Fld.keep f161_9 Kq167 (ninS (Ne.symm ne96) nin0)
      have f168_9 := f161_10.keep Kq167 (ninS (Ne.symm ne103) nin0)
      have f168_10 := f161_11.keep Kq167 (ninS (Ne.symm nn127_0_2) nin0)
      have f168_11 := f161_12.keep Kq167 (ninS (Ne.symm nn127_1_2) nin0)
      have f168_12 := f161_13.keep Kq167 (ninS (Ne.symm nn127_2_2) nin0)
      have f168_13 := f161_14.keep Kq167 (ninS (Ne.symm nn127_3_2) nin0)
      have f168_14 := av160.keep Kq167 (ninS (Ne.symm ne134) nin0)
      have zz169 : n0 ≤ T167.heap.size := Nat.le_trans zz162 Kq167.1
      exact tail190 ⟨T167, _, T167.heap, (2 : Int32), z167_0, z167_1, z167_2, z167_3, z167_4, z167_5, (2 : Int32), X167.more (by decide) (by decide), rfl, N167, zz169, f168_1, nf167_0, f168_3, f168_8, (by exact ⟨rfl, own_all2 hoff hZ167 ex0 ex1⟩), pre167⟩
    · skip
      have ex0 : t4_0 = ((((0 : Int64) ||| ((v18.toInt64) <<< ((0 : Int32) &&& 0x3f).toInt64)) ||| ((v21.toInt64) <<< (((0 : Int32) + v3) &&& 0x3f).toInt64)) ||| ((v24.toInt64) <<< (uP2 &&& 0x3f).toInt64)) := by
        rw [hT4.1, hT3.1, hT2.1, hT1.1, hT0.1]
        rfl
      have ex1 : t4_1 = (((0 : Int64) ||| ((v27.toInt64) <<< (uP3 &&& 0x3f).toInt64)) ||| ((v30.toInt64) <<< (uP4 &&& 0x3f).toInt64)) := by
        rw [hT4.2.1, hT3.2.1, hT2.2.1, hT1.2.1, hT0.2.1]
        rfl
      obtain ⟨cq170, kq170, qa170, qb170, qc170⟩ := isOf hZ e160 f161_4
      obtain ⟨_, _, ⟨T170, qL170, qk170, qn170⟩, -, X170, ⟨Lc170, hQ170, ql170, qy170, qz170⟩, st170⟩ := X160.virtualBack hx (y := (⟨"com/example/garantia/garantia/engine/StateLayout", "pack", "([I[JI)V"⟩ : MethodName)) (z := (⟨"com/example/garantia/garantia/engine/StateLayout", "pack", "([I[JI)V"⟩ : MethodName)) hown (mvT hZ (hw _ (List.mem_of_getElem? (i := 35) rfl))) (mvT hZ (hw _ (List.mem_of_getElem? (i := 36) rfl))) (notFace_of_selects (args := #[]) (mvT hZ (hw _ (List.mem_of_getElem? (i := 38) rfl)))) (mvT hZ (hw _ (List.mem_of_getElem? (i := 38) rfl))) (mvT hZ (hw _ (List.mem_of_getElem? (i := 37) rfl))) (by decide) (backOf (W := 0) (rm6_00011 l Z A0 hw [] b93 b131 b64 v62 aw_127 as_127 kw_127 ks_127 kA131 kA64 (0 : Int32) ((0 : Int32) + v3) uP2 uP3 uP4 v18 v21 v24 v27 v30 (-6510615555426900571 : Int64) (-6510615555426900571 : Int64) (-6510615555426900571 : Int64) (-6510615555426900571 : Int64) (-6510615555426900571 : Int64) (-6510615555426900571 : Int64) h160 n0 zz162 f161_9 f161_5 f161_6 f161_11 f161_12 av160 f161_3 (Ne.symm ne96) (Ne.symm nn127_0_2) (Ne.symm nn127_1_2) (Ne.symm ne134) bo64 (own_ix hoff).2.1 (own_ix hoff).2.2.1) hZ (hw _ (List.mem_of_getElem? (i := 39) rfl)) (hw _ (List.mem_of_getElem? (i := 15) rfl)) (by decide) (by decide)) qa170 qc170 (g := (mkF m 284 #[vI p0, vI p1, vI p2, vI p3, vI p4, vI p5, vI v3, vI v6, vI v9, vI v12, vI v15, vI v18, vI v21, vI v24, vI v27, vI v30, vR b32, vR b36, vI (2 : Int32), vI v62, vJ (-6510615555426900571 : Int64), .second, vR b64, vR b93, .unset] [(.int v62), (.ref b64), (.ref b131), (.ref b93)])) rfl (by rw [hml]; rfl) (Steps.refl _) (argsL := [(.ref b131), (.ref b64), (.int v62)]) (rest := []) (lenOf pd_4 rfl) rfl (by show 2 * 0 + _ ≤ _; exact Nat.le_of_eq rfl) (hb hby at_284) (fun _ _ => ⟨rfl, e160, (by decide : 10 + 0 ≤ _), (by decide : 47 + 0 ≤ _)⟩)
      dsimp only [Pt.U, Pt.locs, Pt.cells, Pt.slots] at X170 ql170 qy170 qz170 st170 hQ170
      replace X170 := X170.more (Nat.le_of_eq qy170) (Nat.le_of_eq qz170)
      obtain ⟨rfl, Nq170, z170_0, z170_1, z170_2, z170_3, z170_4, z170_5, hZ170, Kq170, nf170_0⟩ := hQ170
      have N170 : Fr n0 qL170 := by rw [ql170]; exact Fr.app N160 Nq170
      have pre170 : Go p.tables e below S0 T170 (mkF m 287 #[vI p0, vI p1, vI p2, vI p3, vI p4, vI p5, vI v3, vI v6, vI v9, vI v12, vI v15, vI v18, vI v21, vI v24, vI v27, vI v30, vR b32, vR b36, vI (2 : Int32), vI v62, vJ (-6510615555426900571 : Int64), .second, vR b64, vR b93, .unset] []) := fun t k => pre163 t (st170.trans k)
      have f171_1 := f161_1.keep Kq170 (ninS ne65 nin0)
      have f171_2 := f161_2.keep Kq170 (ninS ne66 nin0)
      have f171_3 := Exa.keep f161_4 Kq170
      have f171_4 := Fld.keep f161_5 Kq170 (ninS (Ne.symm ne96) nin0)
      have f171_5 := Fld.keep f161_6 Kq170 (ninS (Ne.symm ne96) nin0)
      have f171_6 := Fld.keep f161_7 Kq170 (ninS (Ne.symm ne96) nin0)
      have f171_7 := Fld.keep f161_8 Kq170 (ninS (Ne.symm ne96) nin0)
      have f171_8 := Fld.keep f161_9 Kq170 (ninS (Ne.symm ne96) nin0)
      have f171_9 := f161_10.keep Kq170 (ninS (Ne.symm ne103) nin0)
      have f171_10 := f161_11.keep Kq170 (ninS (Ne.symm nn127_0_2) nin0)
      have f171_11 := f161_12.keep Kq170 (ninS (Ne.symm nn127_1_2) nin0)
      have f171_12 := f161_13.keep Kq170 (ninS (Ne.symm nn127_2_2) nin0)
      have f171_13 := f161_14.keep Kq170 (ninS (Ne.symm nn127_3_2) nin0)
      have f171_14 := av160.keep Kq170 (ninS (Ne.symm ne134) nin0)
      have zz172 : n0 ≤ T170.heap.size := Nat.le_trans zz162 Kq170.1
      exact tail190 ⟨T170, _, T170.heap, (2 : Int32), z170_0, z170_1, z170_2, z170_3, z170_4, z170_5, (2 : Int32), X170.more (by decide) (by decide), rfl, N170, zz172, f171_1, nf170_0, f171_3, f171_8, (by exact ⟨rfl, own_all2 hoff hZ170 ex0 ex1⟩), pre170⟩
    · skip
      have ex0 : t4_0 = (((0 : Int64) ||| ((v18.toInt64) <<< ((0 : Int32) &&& 0x3f).toInt64)) ||| ((v21.toInt64) <<< (((0 : Int32) + v3) &&& 0x3f).toInt64)) := by
        rw [hT4.1, hT3.1, hT2.1, hT1.1, hT0.1]
        rfl
      have ex1 : t4_1 = ((((0 : Int64) ||| ((v24.toInt64) <<< (uP2 &&& 0x3f).toInt64)) ||| ((v27.toInt64) <<< (uP3 &&& 0x3f).toInt64)) ||| ((v30.toInt64) <<< (uP4 &&& 0x3f).toInt64)) := by
        rw [hT4.2.1, hT3.2.1, hT2.2.1, hT1.2.1, hT0.2.1]
        rfl
      obtain ⟨cq173, kq173, qa173, qb173, qc173⟩ := isOf hZ e160 f161_4
      obtain ⟨_, _, ⟨T173, qL173, qk173, qn173⟩, -, X173, ⟨Lc173, hQ173, ql173, qy173, qz173⟩, st173⟩ := X160.virtualBack hx (y := (⟨"com/example/garantia/garantia/engine/StateLayout", "pack", "([I[JI)V"⟩ : MethodName)) (z := (⟨"com/example/garantia/garantia/engine/StateLayout", "pack", "([I[JI)V"⟩ : MethodName)) hown (mvT hZ (hw _ (List.mem_of_getElem? (i := 35) rfl))) (mvT hZ (hw _ (List.mem_of_getElem? (i := 36) rfl))) (notFace_of_selects (args := #[]) (mvT hZ (hw _ (List.mem_of_getElem? (i := 38) rfl)))) (mvT hZ (hw _ (List.mem_of_getElem? (i := 38) rfl))) (mvT hZ (hw _ (List.mem_of_getElem? (i := 37) rfl))) (by decide) (backOf (W := 0) (rm6_00111 l Z A0 hw [] b93 b131 b64 v62 aw_127 as_127 kw_127 ks_127 kA131 kA64 (0 : Int32) ((0 : Int32) + v3) uP2 uP3 uP4 v18 v21 v24 v27 v30 (-6510615555426900571 : Int64) (-6510615555426900571 : Int64) (-6510615555426900571 : Int64) (-6510615555426900571 : Int64) (-6510615555426900571 : Int64) (-6510615555426900571 : Int64) h160 n0 zz162 f161_9 f161_5 f161_6 f161_11 f161_12 av160 f161_3 (Ne.symm ne96) (Ne.symm nn127_0_2) (Ne.symm nn127_1_2) (Ne.symm ne134) bo64 (own_ix hoff).2.1 (own_ix hoff).2.2.1) hZ (hw _ (List.mem_of_getElem? (i := 39) rfl)) (hw _ (List.mem_of_getElem? (i := 15) rfl)) (by decide) (by decide)) qa173 qc173 (g := (mkF m 284 #[vI p0, vI p1, vI p2, vI p3, vI p4, vI p5, vI v3, vI v6, vI v9, vI v12, vI v15, vI v18, vI v21, vI v24, vI v27, vI v30, vR b32, vR b36, vI (2 : Int32), vI v62, vJ (-6510615555426900571 : Int64), .second, vR b64, vR b93, .unset] [(.int v62), (.ref b64), (.ref b131), (.ref b93)])) rfl (by rw [hml]; rfl) (Steps.refl _) (argsL := [(.ref b131), (.ref b64), (.int v62)]) (rest := []) (lenOf pd_4 rfl) rfl (by show 2 * 0 + _ ≤ _; exact Nat.le_of_eq rfl) (hb hby at_284) (fun _ _ => ⟨rfl, e160, (by decide : 10 + 0 ≤ _), (by decide : 47 + 0 ≤ _)⟩)
      dsimp only [Pt.U, Pt.locs, Pt.cells, Pt.slots] at X173 ql173 qy173 qz173 st173 hQ173
      replace X173 := X173.more (Nat.le_of_eq qy173) (Nat.le_of_eq qz173)
      obtain ⟨rfl, Nq173, z173_0, z173_1, z173_2, z173_3, z173_4, z173_5, hZ173, Kq173, nf173_0⟩ := hQ173
      have N173 : Fr n0 qL173 := by rw [ql173]; exact Fr.app N160 Nq173
      have pre173 : Go p.tables e below S0 T173 (mkF m 287 #[vI p0, vI p1, vI p2, vI p3, vI p4, vI p5, vI v3, vI v6, vI v9, vI v12, vI v15, vI v18, vI v21, vI v24, vI v27, vI v30, vR b32, vR b36, vI (2 : Int32), vI v62, vJ (-6510615555426900571 : Int64), .second, vR b64, vR b93, .unset] []) := fun t k => pre163 t (st173.trans k)
      have f174_1 := f161_1.keep Kq173 (ninS ne65 nin0)
      have f174_2 := f161_2.keep Kq173 (ninS ne66 nin0)
      have f174_3 := Exa.keep f161_4 Kq173
      have f174_4 := Fld.keep f161_5 Kq173 (ninS (Ne.symm ne96) nin0)
      have f174_5 := Fld.keep f161_6 Kq173 (ninS (Ne.symm ne96) nin0)
      have f174_6 := Fld.keep f161_7 Kq173 (ninS (Ne.symm ne96) nin0)
      have f174_7 := Fld.keep f161_8 Kq173 (ninS (Ne.symm ne96) nin0)
      have f174_8 := Fld.keep f161_9 Kq173 (ninS (Ne.symm ne96) nin0)
      have f174_9 := f161_10.keep Kq173 (ninS (Ne.symm ne103) nin0)
      have f174_10 := f161_11.keep Kq173 (ninS (Ne.symm nn127_0_2) nin0)
      have f174_11 := f161_12.keep Kq173 (ninS (Ne.symm nn127_1_2) nin0)
      have f174_12 := f161_13.keep Kq173 (ninS (Ne.symm nn127_2_2) nin0)
      have f174_13 := f161_14.keep Kq173 (ninS (Ne.symm nn127_3_2) nin0)
      have f174_14 := av160.keep Kq173 (ninS (Ne.symm ne134) nin0)
      have zz175 : n0 ≤ T173.heap.size := Nat.le_trans zz162 Kq173.1
      exact tail190 ⟨T173, _, T173.heap, (2 : Int32), z173_0, z173_1, z173_2, z173_3, z173_4, z173_5, (2 : Int32), X173.more (by decide) (by decide), rfl, N173, zz175, f174_1, nf173_0, f174_3, f174_8, (by exact ⟨rfl, own_all2 hoff hZ173 ex0 ex1⟩), pre173⟩
    · skip
      have ex0 : t4_0 = (((0 : Int64) ||| ((v18.toInt64) <<< ((0 : Int32) &&& 0x3f).toInt64)) ||| ((v21.toInt64) <<< (((0 : Int32) + v3) &&& 0x3f).toInt64)) := by
        rw [hT4.1, hT3.1, hT2.1, hT1.1, hT0.1]
        rfl
      have ex1 : t4_1 = (((0 : Int64) ||| ((v24.toInt64) <<< (uP2 &&& 0x3f).toInt64)) ||| ((v27.toInt64) <<< (uP3 &&& 0x3f).toInt64)) := by
        rw [hT4.2.1, hT3.2.1, hT2.2.1, hT1.2.1, hT0.2.1]
        rfl
      have ex2 : t4_2 = ((0 : Int64) ||| ((v30.toInt64) <<< (uP4 &&& 0x3f).toInt64)) := by
        rw [hT4.2.2, hT3.2.2, hT2.2.2, hT1.2.2, hT0.2.2]
        rfl
      obtain ⟨cq176, kq176, qa176, qb176, qc176⟩ := isOf hZ e160 f161_4
      obtain ⟨_, _, ⟨T176, qL176, qk176, qn176⟩, -, X176, ⟨Lc176, hQ176, ql176, qy176, qz176⟩, st176⟩ := X160.virtualBack hx (y := (⟨"com/example/garantia/garantia/engine/StateLayout", "pack", "([I[JI)V"⟩ : MethodName)) (z := (⟨"com/example/garantia/garantia/engine/StateLayout", "pack", "([I[JI)V"⟩ : MethodName)) hown (mvT hZ (hw _ (List.mem_of_getElem? (i := 35) rfl))) (mvT hZ (hw _ (List.mem_of_getElem? (i := 36) rfl))) (notFace_of_selects (args := #[]) (mvT hZ (hw _ (List.mem_of_getElem? (i := 38) rfl)))) (mvT hZ (hw _ (List.mem_of_getElem? (i := 38) rfl))) (mvT hZ (hw _ (List.mem_of_getElem? (i := 37) rfl))) (by decide) (backOf (W := 0) (rm6_00112 l Z A0 hw [] b93 b131 b64 v62 aw_127 as_127 kw_127 ks_127 kA131 kA64 (0 : Int32) ((0 : Int32) + v3) uP2 uP3 uP4 v18 v21 v24 v27 v30 (-6510615555426900571 : Int64) (-6510615555426900571 : Int64) (-6510615555426900571 : Int64) (-6510615555426900571 : Int64) (-6510615555426900571 : Int64) (-6510615555426900571 : Int64) h160 n0 zz162 f161_9 f161_5 f161_6 f161_11 f161_12 av160 f161_3 (Ne.symm ne96) (Ne.symm nn127_0_2) (Ne.symm nn127_1_2) (Ne.symm ne134) bo64 (own_ix hoff).2.1 (own_ix hoff).2.2.1 (own_ix hoff).2.2.2) hZ (hw _ (List.mem_of_getElem? (i := 39) rfl)) (hw _ (List.mem_of_getElem? (i := 15) rfl)) (by decide) (by decide)) qa176 qc176 (g := (mkF m 284 #[vI p0, vI p1, vI p2, vI p3, vI p4, vI p5, vI v3, vI v6, vI v9, vI v12, vI v15, vI v18, vI v21, vI v24, vI v27, vI v30, vR b32, vR b36, vI (3 : Int32), vI v62, vJ (-6510615555426900571 : Int64), .second, vR b64, vR b93, .unset] [(.int v62), (.ref b64), (.ref b131), (.ref b93)])) rfl (by rw [hml]; rfl) (Steps.refl _) (argsL := [(.ref b131), (.ref b64), (.int v62)]) (rest := []) (lenOf pd_4 rfl) rfl (by show 2 * 0 + _ ≤ _; exact Nat.le_of_eq rfl) (hb hby at_284) (fun _ _ => ⟨rfl, e160, (by decide : 10 + 0 ≤ _), (by decide : 47 + 0 ≤ _)⟩)
      dsimp only [Pt.U, Pt.locs, Pt.cells, Pt.slots] at X176 ql176 qy176 qz176 st176 hQ176
      replace X176 := X176.more (Nat.le_of_eq qy176) (Nat.le_of_eq qz176)
      obtain ⟨rfl, Nq176, z176_0, z176_1, z176_2, z176_3, z176_4, z176_5, hZ176, Kq176, nf176_0⟩ := hQ176
      have N176 : Fr n0 qL176 := by rw [ql176]; exact Fr.app N160 Nq176
      have pre176 : Go p.tables e below S0 T176 (mkF m 287 #[vI p0, vI p1, vI p2, vI p3, vI p4, vI p5, vI v3, vI v6, vI v9, vI v12, vI v15, vI v18, vI v21, vI v24, vI v27, vI v30, vR b32, vR b36, vI (3 : Int32), vI v62, vJ (-6510615555426900571 : Int64), .second, vR b64, vR b93, .unset] []) := fun t k => pre163 t (st176.trans k)
      have f177_1 := f161_1.keep Kq176 (ninS ne65 nin0)
      have f177_2 := f161_2.keep Kq176 (ninS ne66 nin0)
      have f177_3 := Exa.keep f161_4 Kq176
      have f177_4 := Fld.keep f161_5 Kq176 (ninS (Ne.symm ne96) nin0)
      have f177_5 := Fld.keep f161_6 Kq176 (ninS (Ne.symm ne96) nin0)
      have f177_6 := Fld.keep f161_7 Kq176 (ninS (Ne.symm ne96) nin0)
      have f177_7 := Fld.keep f161_8 Kq176 (ninS (Ne.symm ne96) nin0)
      have f177_8 := Fld.keep f161_9 Kq176 (ninS (Ne.symm ne96) nin0)
      have f177_9 := f161_10.keep Kq176 (ninS (Ne.symm ne103) nin0)
      have f177_10 := f161_11.keep Kq176 (ninS (Ne.symm nn127_0_2) nin0)
      have f177_11 := f161_12.keep Kq176 (ninS (Ne.symm nn127_1_2) nin0)
      have f177_12 := f161_13.keep Kq176 (ninS (Ne.symm nn127_2_2) nin0)
      have f177_13 := f161_14.keep Kq176 (ninS (Ne.symm nn127_3_2) nin0)
      have f177_14 := av160.keep Kq176 (ninS (Ne.symm ne134) nin0)
      have zz178 : n0 ≤ T176.heap.size := Nat.le_trans zz162 Kq176.1
      exact tail190 ⟨T176, _, T176.heap, (3 : Int32), z176_0, z176_1, z176_2, z176_3, z176_4, z176_5, (3 : Int32), X176.more (by decide) (by decide), rfl, N176, zz178, f177_1, nf176_0, f177_3, f177_8, (by exact ⟨rfl, own_all3 hoff hZ176 ex0 ex1 ex2⟩), pre176⟩
  rintro ⟨T180, Lo180, h180, j287_l18_179, j287_a1_0_181, j287_a1_1_182, j287_a1_2_183, j287_a1_3_184, j287_a1_4_185, j287_a1_5_186, j287_f3_187, X180, e180, N180, zz180, f180_0, f180_1, f180_2, f180_3, hj287_188, pre189⟩
  have pre191 : Go p.tables e below S0 T180 (mkF m 289 #[vI p0, vI p1, vI p2, vI p3, vI p4, vI p5, vI v3, vI v6, vI v9, vI v12, vI v15, vI v18, vI v21, vI v24, vI v27, vI v30, vR b32, vR b36, vI j287_l18_179, vI v62, vJ (-6510615555426900571 : Int64), .second, vR b64, vR b93, .unset] [(.ref b93)]) := fun t k => pre189 t (by
    refine XS.aload X180.here hx rfl (hb hby at_287) rfl rfl ?_
    exact k)
  obtain ⟨cq192, kq192, qa192, qb192, qc192⟩ := isOf hZ e180 f180_2
  obtain ⟨_, _, ⟨T192, qL192, qk192, qn192⟩, -, X192, ⟨Lc192, hQ192, ql192, qy192, qz192⟩, st192⟩ := X180.virtualBack hx (y := (⟨"com/example/garantia/garantia/engine/StateLayout", "words", "()I"⟩ : MethodName)) (z := (⟨"com/example/garantia/garantia/engine/StateLayout", "words", "()I"⟩ : MethodName)) hown (mvT hZ (hw _ (List.mem_of_getElem? (i := 40) rfl))) (mvT hZ (hw _ (List.mem_of_getElem? (i := 41) rfl))) (notFace_of_selects (args := #[]) (mvT hZ (hw _ (List.mem_of_getElem? (i := 43) rfl)))) (mvT hZ (hw _ (List.mem_of_getElem? (i := 43) rfl))) (mvT hZ (hw _ (List.mem_of_getElem? (i := 42) rfl))) (by decide) (backOf (W := 0) (rm7 l Z A0 hw [] b93 j287_f3_187 h180 n0 zz180 f180_3) hZ (hw _ (List.mem_of_getElem? (i := 44) rfl)) (hw _ (List.mem_of_getElem? (i := 15) rfl)) (by decide) (by decide)) qa192 qc192 (g := (mkF m 289 #[vI p0, vI p1, vI p2, vI p3, vI p4, vI p5, vI v3, vI v6, vI v9, vI v12, vI v15, vI v18, vI v21, vI v24, vI v27, vI v30, vR b32, vR b36, vI j287_l18_179, vI v62, vJ (-6510615555426900571 : Int64), .second, vR b64, vR b93, .unset] [(.ref b93)])) rfl (by rw [hml]; rfl) (Steps.refl _) (argsL := []) (rest := []) (lenOf pd_5 rfl) rfl (by show 2 * 0 + _ ≤ _; exact Nat.le_of_eq rfl) (hb hby at_289) (fun _ _ => ⟨rfl, e180, (by decide : 10 + 0 ≤ _), (by decide : 47 + 0 ≤ _)⟩)
  dsimp only [Pt.U, Pt.locs, Pt.cells, Pt.slots] at X192 ql192 qy192 qz192 st192 hQ192
  replace X192 := X192.more (Nat.le_of_eq qy192) (Nat.le_of_eq qz192)
  obtain ⟨rfl, Nq192, eq192⟩ := hQ192
  have N192 : Fr n0 qL192 := by rw [ql192]; exact Fr.app N180 Nq192
  have pre192 : Go p.tables e below S0 T192 (mkF m 292 #[vI p0, vI p1, vI p2, vI p3, vI p4, vI p5, vI v3, vI v6, vI v9, vI v12, vI v15, vI v18, vI v21, vI v24, vI v27, vI v30, vR b32, vR b36, vI j287_l18_179, vI v62, vJ (-6510615555426900571 : Int64), .second, vR b64, vR b93, .unset] [(.int j287_f3_187)]) := fun t k => pre191 t (st192.trans k)
  have pre193 : Go p.tables e below S0 T192 (mkF m 294 #[vI p0, vI p1, vI p2, vI p3, vI p4, vI p5, vI v3, vI v6, vI v9, vI v12, vI v15, vI v18, vI v21, vI v24, vI v27, vI v30, vR b32, vR b36, vI j287_l18_179, vI v62, vJ (-6510615555426900571 : Int64), .second, vR b64, vR b93, .unset] [(.int j287_l18_179), (.int j287_f3_187)]) := fun t k => pre192 t (by
    refine XS.iload X192.here hx rfl (hb hby at_292) rfl ?_
    exact k)
  have cc194 : j287_f3_187 = j287_l18_179 := hj287_188.1
  have pre195 : Go p.tables e below S0 T192 (mkF m 320 #[vI p0, vI p1, vI p2, vI p3, vI p4, vI p5, vI v3, vI v6, vI v9, vI v12, vI v15, vI v18, vI v21, vI v24, vI v27, vI v30, vR b32, vR b36, vI j287_l18_179, vI v62, vJ (-6510615555426900571 : Int64), .second, vR b64, vR b93, vI (1 : Int32)] [(.long (-6510615555426900571 : Int64)), (.ref b32), (.int j287_l18_179), (.int v62), (.int (0 : Int32)), (.ref b64)]) := fun t k => pre193 t (by
    refine XS.icmpNo X192.here hx rfl (hb hby at_294) rfl (teq cc194).2 ?_
    refine XS.iconst X192.here hx rfl (hb hby at_297) ?_
    refine XS.goto X192.here hx rfl (pc0 := 298) (pc' := 302) rfl (hb hby at_298) (by decide) (by decide) ?_
    show Steps p.tables e below (T192.setTop (mkF m 302 #[vI p0, vI p1, vI p2, vI p3, vI p4, vI p5, vI v3, vI v6, vI v9, vI v12, vI v15, vI v18, vI v21, vI v24, vI v27, vI v30, vR b32, vR b36, vI j287_l18_179, vI v62, vJ (-6510615555426900571 : Int64), .second, vR b64, vR b93, .unset] [(.int (1 : Int32))])) _
    refine XS.istore X192.here hx rfl (hb hby at_302) rfl (l' := #[vI p0, vI p1, vI p2, vI p3, vI p4, vI p5, vI v3, vI v6, vI v9, vI v12, vI v15, vI v18, vI v21, vI v24, vI v27, vI v30, vR b32, vR b36, vI j287_l18_179, vI v62, vJ (-6510615555426900571 : Int64), .second, vR b64, vR b93, vI (1 : Int32)]) rfl ?_
    refine XS.iload X192.here hx rfl (hb hby at_304) rfl ?_
    refine XS.ifNo X192.here hx rfl (hb hby at_306) rfl ((if0 _ _).trans (feq (by decide : ¬ ((1 : Int32) = (0 : Int32)))).1) ?_
    show Steps p.tables e below (T192.setTop (mkF m 309 #[vI p0, vI p1, vI p2, vI p3, vI p4, vI p5, vI v3, vI v6, vI v9, vI v12, vI v15, vI v18, vI v21, vI v24, vI v27, vI v30, vR b32, vR b36, vI j287_l18_179, vI v62, vJ (-6510615555426900571 : Int64), .second, vR b64, vR b93, vI (1 : Int32)] [])) _
    refine XS.aload X192.here hx rfl (hb hby at_309) rfl rfl ?_
    refine XS.iconst X192.here hx rfl (hb hby at_311) ?_
    refine XS.iload X192.here hx rfl (hb hby at_312) rfl ?_
    show Steps p.tables e below (T192.setTop (mkF m 314 #[vI p0, vI p1, vI p2, vI p3, vI p4, vI p5, vI v3, vI v6, vI v9, vI v12, vI v15, vI v18, vI v21, vI v24, vI v27, vI v30, vR b32, vR b36, vI j287_l18_179, vI v62, vJ (-6510615555426900571 : Int64), .second, vR b64, vR b93, vI (1 : Int32)] [(.int v62), (.int (0 : Int32)), (.ref b64)])) _
    refine XS.iload X192.here hx rfl (hb hby at_314) rfl ?_
    refine XS.aload X192.here hx rfl (hb hby at_316) rfl rfl ?_
    refine XS.lload X192.here hx rfl (hb hby at_318) rfl ?_
    show Steps p.tables e below (T192.setTop (mkF m 320 #[vI p0, vI p1, vI p2, vI p3, vI p4, vI p5, vI v3, vI v6, vI v9, vI v12, vI v15, vI v18, vI v21, vI v24, vI v27, vI v30, vR b32, vR b36, vI j287_l18_179, vI v62, vJ (-6510615555426900571 : Int64), .second, vR b64, vR b93, vI (1 : Int32)] [(.long (-6510615555426900571 : Int64)), (.ref b32), (.int j287_l18_179), (.int v62), (.int (0 : Int32)), (.ref b64)])) _
    exact k)
  have hc197 := hj287_188.2.1
  obtain ⟨_, _, ⟨T196, qL196, qk196, qn196⟩, -, X196, ⟨Lc196, hQ196, ql196, qy196, qz196⟩, st196⟩ := Jvm.LawKit.callS X192 hx (y := (⟨"com/example/garantia/garantia/engine/StateLayoutPackPinLaw", "cell", "([JIII[JJ)Z"⟩ : MethodName)) hown (mvT hZ (hw _ (List.mem_of_getElem? (i := 45) rfl))) (mvT hZ (hw _ (List.mem_of_getElem? (i := 46) rfl))) (mvT hZ (hw _ (List.mem_of_getElem? (i := 2) rfl))) (mvT hZ (hw _ (List.mem_of_getElem? (i := 47) rfl))) (by decide) (backOf (W := 0) (rm8 l Z A0 hw [] b64 (0 : Int32) v62 j287_l18_179 b32 (-6510615555426900571 : Int64) kA64 kA32 j287_a1_0_181 j287_a1_1_182 j287_a1_2_183 j287_a1_3_184 j287_a1_4_185 j287_a1_5_186 t4_0 t4_1 t4_2 h180 n0 zz180 f180_1 f180_0 (by decide) hc197.1 hc197.2.1 hc197.2.2) hZ (hw _ (List.mem_of_getElem? (i := 47) rfl)) (hw _ (List.mem_of_getElem? (i := 2) rfl)) (by decide) (by decide)) (g := (mkF m 320 #[vI p0, vI p1, vI p2, vI p3, vI p4, vI p5, vI v3, vI v6, vI v9, vI v12, vI v15, vI v18, vI v21, vI v24, vI v27, vI v30, vR b32, vR b36, vI j287_l18_179, vI v62, vJ (-6510615555426900571 : Int64), .second, vR b64, vR b93, vI (1 : Int32)] [(.long (-6510615555426900571 : Int64)), (.ref b32), (.int j287_l18_179), (.int v62), (.int (0 : Int32)), (.ref b64)])) rfl (by rw [hml]; rfl) (argsL := [(.ref b64), (.int (0 : Int32)), (.int v62), (.int j287_l18_179), (.ref b32), (.long (-6510615555426900571 : Int64))]) (rest := []) (lenOf pd_6 rfl) rfl (by show 2 * 0 + _ ≤ _; exact Nat.le_of_eq rfl) (hb hby at_320) (fun _ _ => ⟨rfl, eq192, (by decide : 10 + 0 ≤ _), (by decide : 47 + 0 ≤ _)⟩)
  dsimp only [Pt.U, Pt.locs, Pt.cells, Pt.slots] at X196 ql196 qy196 qz196 st196 hQ196
  replace X196 := X196.more (Nat.le_of_eq qy196) (Nat.le_of_eq qz196)
  obtain ⟨rfl, Nq196, eq196⟩ := hQ196
  have N196 : Fr n0 qL196 := by rw [ql196]; exact Fr.app N192 Nq196
  have pre196 : Go p.tables e below S0 T196 (mkF m 323 #[vI p0, vI p1, vI p2, vI p3, vI p4, vI p5, vI v3, vI v6, vI v9, vI v12, vI v15, vI v18, vI v21, vI v24, vI v27, vI v30, vR b32, vR b36, vI j287_l18_179, vI v62, vJ (-6510615555426900571 : Int64), .second, vR b64, vR b93, vI (1 : Int32)] [(.int (1 : Int32))]) := fun t k => pre195 t (st196 t k)
  have pre198 : Go p.tables e below S0 T196 (mkF m 349 #[vI p0, vI p1, vI p2, vI p3, vI p4, vI p5, vI v3, vI v6, vI v9, vI v12, vI v15, vI v18, vI v21, vI v24, vI v27, vI v30, vR b32, vR b36, vI j287_l18_179, vI v62, vJ (-6510615555426900571 : Int64), .second, vR b64, vR b93, vI (1 : Int32)] [(.long (-6510615555426900571 : Int64)), (.ref b32), (.int j287_l18_179), (.int v62), (.int (1 : Int32)), (.ref b64)]) := fun t k => pre196 t (by
    refine XS.ifNo X196.here hx rfl (hb hby at_323) rfl ((if0 _ _).trans (feq (by decide : ¬ ((1 : Int32) = (0 : Int32)))).1) ?_
    refine XS.iconst X196.here hx rfl (hb hby at_326) ?_
    refine XS.goto X196.here hx rfl (pc0 := 327) (pc' := 331) rfl (hb hby at_327) (by decide) (by decide) ?_
    show Steps p.tables e below (T196.setTop (mkF m 331 #[vI p0, vI p1, vI p2, vI p3, vI p4, vI p5, vI v3, vI v6, vI v9, vI v12, vI v15, vI v18, vI v21, vI v24, vI v27, vI v30, vR b32, vR b36, vI j287_l18_179, vI v62, vJ (-6510615555426900571 : Int64), .second, vR b64, vR b93, vI (1 : Int32)] [(.int (1 : Int32))])) _
    refine XS.istore X196.here hx rfl (hb hby at_331) rfl (l' := #[vI p0, vI p1, vI p2, vI p3, vI p4, vI p5, vI v3, vI v6, vI v9, vI v12, vI v15, vI v18, vI v21, vI v24, vI v27, vI v30, vR b32, vR b36, vI j287_l18_179, vI v62, vJ (-6510615555426900571 : Int64), .second, vR b64, vR b93, vI (1 : Int32)]) rfl ?_
    refine XS.iload X196.here hx rfl (hb hby at_333) rfl ?_
    refine XS.ifNo X196.here hx rfl (hb hby at_335) rfl ((if0 _ _).trans (feq (by decide : ¬ ((1 : Int32) = (0 : Int32)))).1) ?_
    show Steps p.tables e below (T196.setTop (mkF m 338 #[vI p0, vI p1, vI p2, vI p3, vI p4, vI p5, vI v3, vI v6, vI v9, vI v12, vI v15, vI v18, vI v21, vI v24, vI v27, vI v30, vR b32, vR b36, vI j287_l18_179, vI v62, vJ (-6510615555426900571 : Int64), .second, vR b64, vR b93, vI (1 : Int32)] [])) _
    refine XS.aload X196.here hx rfl (hb hby at_338) rfl rfl ?_
    refine XS.iconst X196.here hx rfl (hb hby at_340) ?_
    refine XS.iload X196.here hx rfl (hb hby at_341) rfl ?_
    show Steps p.tables e below (T196.setTop (mkF m 343 #[vI p0, vI p1, vI p2, vI p3, vI p4, vI p5, vI v3, vI v6, vI v9, vI v12, vI v15, vI v18, vI v21, vI v24, vI v27, vI v30, vR b32, vR b36, vI j287_l18_179, vI v62, vJ (-6510615555426900571 : Int64), .second, vR b64, vR b93, vI (1 : Int32)] [(.int v62), (.int (1 : Int32)), (.ref b64)])) _
    refine XS.iload X196.here hx rfl (hb hby at_343) rfl ?_
    refine XS.aload X196.here hx rfl (hb hby at_345) rfl rfl ?_
    refine XS.lload X196.here hx rfl (hb hby at_347) rfl ?_
    show Steps p.tables e below (T196.setTop (mkF m 349 #[vI p0, vI p1, vI p2, vI p3, vI p4, vI p5, vI v3, vI v6, vI v9, vI v12, vI v15, vI v18, vI v21, vI v24, vI v27, vI v30, vR b32, vR b36, vI j287_l18_179, vI v62, vJ (-6510615555426900571 : Int64), .second, vR b64, vR b93, vI (1 : Int32)] [(.long (-6510615555426900571 : Int64)), (.ref b32), (.int j287_l18_179), (.int v62), (.int (1 : Int32)), (.ref b64)])) _
    exact k)
  have hc200 := hj287_188.2.2.1
  obtain ⟨_, _, ⟨T199, qL199, qk199, qn199⟩, -, X199, ⟨Lc199, hQ199, ql199, qy199, qz199⟩, st199⟩ := Jvm.LawKit.callS X196 hx (y := (⟨"com/example/garantia/garantia/engine/StateLayoutPackPinLaw", "cell", "([JIII[JJ)Z"⟩ : MethodName)) hown (mvT hZ (hw _ (List.mem_of_getElem? (i := 45) rfl))) (mvT hZ (hw _ (List.mem_of_getElem? (i := 46) rfl))) (mvT hZ (hw _ (List.mem_of_getElem? (i := 2) rfl))) (mvT hZ (hw _ (List.mem_of_getElem? (i := 47) rfl))) (by decide) (backOf (W := 0) (rm8 l Z A0 hw [] b64 (1 : Int32) v62 j287_l18_179 b32 (-6510615555426900571 : Int64) kA64 kA32 j287_a1_0_181 j287_a1_1_182 j287_a1_2_183 j287_a1_3_184 j287_a1_4_185 j287_a1_5_186 t4_0 t4_1 t4_2 h180 n0 zz180 f180_1 f180_0 (by decide) hc200.1 hc200.2.1 hc200.2.2) hZ (hw _ (List.mem_of_getElem? (i := 47) rfl)) (hw _ (List.mem_of_getElem? (i := 2) rfl)) (by decide) (by decide)) (g := (mkF m 349 #[vI p0, vI p1, vI p2, vI p3, vI p4, vI p5, vI v3, vI v6, vI v9, vI v12, vI v15, vI v18, vI v21, vI v24, vI v27, vI v30, vR b32, vR b36, vI j287_l18_179, vI v62, vJ (-6510615555426900571 : Int64), .second, vR b64, vR b93, vI (1 : Int32)] [(.long (-6510615555426900571 : Int64)), (.ref b32), (.int j287_l18_179), (.int v62), (.int (1 : Int32)), (.ref b64)])) rfl (by rw [hml]; rfl) (argsL := [(.ref b64), (.int (1 : Int32)), (.int v62), (.int j287_l18_179), (.ref b32), (.long (-6510615555426900571 : Int64))]) (rest := []) (lenOf pd_6 rfl) rfl (by show 2 * 0 + _ ≤ _; exact Nat.le_of_eq rfl) (hb hby at_349) (fun _ _ => ⟨rfl, eq196, (by decide : 10 + 0 ≤ _), (by decide : 47 + 0 ≤ _)⟩)
  dsimp only [Pt.U, Pt.locs, Pt.cells, Pt.slots] at X199 ql199 qy199 qz199 st199 hQ199
  replace X199 := X199.more (Nat.le_of_eq qy199) (Nat.le_of_eq qz199)
  obtain ⟨rfl, Nq199, eq199⟩ := hQ199
  have N199 : Fr n0 qL199 := by rw [ql199]; exact Fr.app N196 Nq199
  have pre199 : Go p.tables e below S0 T199 (mkF m 352 #[vI p0, vI p1, vI p2, vI p3, vI p4, vI p5, vI v3, vI v6, vI v9, vI v12, vI v15, vI v18, vI v21, vI v24, vI v27, vI v30, vR b32, vR b36, vI j287_l18_179, vI v62, vJ (-6510615555426900571 : Int64), .second, vR b64, vR b93, vI (1 : Int32)] [(.int (1 : Int32))]) := fun t k => pre198 t (st199 t k)
  have pre201 : Go p.tables e below S0 T199 (mkF m 378 #[vI p0, vI p1, vI p2, vI p3, vI p4, vI p5, vI v3, vI v6, vI v9, vI v12, vI v15, vI v18, vI v21, vI v24, vI v27, vI v30, vR b32, vR b36, vI j287_l18_179, vI v62, vJ (-6510615555426900571 : Int64), .second, vR b64, vR b93, vI (1 : Int32)] [(.long (-6510615555426900571 : Int64)), (.ref b32), (.int j287_l18_179), (.int v62), (.int (2 : Int32)), (.ref b64)]) := fun t k => pre199 t (by
    refine XS.ifNo X199.here hx rfl (hb hby at_352) rfl ((if0 _ _).trans (feq (by decide : ¬ ((1 : Int32) = (0 : Int32)))).1) ?_
    refine XS.iconst X199.here hx rfl (hb hby at_355) ?_
    refine XS.goto X199.here hx rfl (pc0 := 356) (pc' := 360) rfl (hb hby at_356) (by decide) (by decide) ?_
    show Steps p.tables e below (T199.setTop (mkF m 360 #[vI p0, vI p1, vI p2, vI p3, vI p4, vI p5, vI v3, vI v6, vI v9, vI v12, vI v15, vI v18, vI v21, vI v24, vI v27, vI v30, vR b32, vR b36, vI j287_l18_179, vI v62, vJ (-6510615555426900571 : Int64), .second, vR b64, vR b93, vI (1 : Int32)] [(.int (1 : Int32))])) _
    refine XS.istore X199.here hx rfl (hb hby at_360) rfl (l' := #[vI p0, vI p1, vI p2, vI p3, vI p4, vI p5, vI v3, vI v6, vI v9, vI v12, vI v15, vI v18, vI v21, vI v24, vI v27, vI v30, vR b32, vR b36, vI j287_l18_179, vI v62, vJ (-6510615555426900571 : Int64), .second, vR b64, vR b93, vI (1 : Int32)]) rfl ?_
    refine XS.iload X199.here hx rfl (hb hby at_362) rfl ?_
    refine XS.ifNo X199.here hx rfl (hb hby at_364) rfl ((if0 _ _).trans (feq (by decide : ¬ ((1 : Int32) = (0 : Int32)))).1) ?_
    show Steps p.tables e below (T199.setTop (mkF m 367 #[vI p0, vI p1, vI p2, vI p3, vI p4, vI p5, vI v3, vI v6, vI v9, vI v12, vI v15, vI v18, vI v21, vI v24, vI v27, vI v30, vR b32, vR b36, vI j287_l18_179, vI v62, vJ (-6510615555426900571 : Int64), .second, vR b64, vR b93, vI (1 : Int32)] [])) _
    refine XS.aload X199.here hx rfl (hb hby at_367) rfl rfl ?_
    refine XS.iconst X199.here hx rfl (hb hby at_369) ?_
    refine XS.iload X199.here hx rfl (hb hby at_370) rfl ?_
    show Steps p.tables e below (T199.setTop (mkF m 372 #[vI p0, vI p1, vI p2, vI p3, vI p4, vI p5, vI v3, vI v6, vI v9, vI v12, vI v15, vI v18, vI v21, vI v24, vI v27, vI v30, vR b32, vR b36, vI j287_l18_179, vI v62, vJ (-6510615555426900571 : Int64), .second, vR b64, vR b93, vI (1 : Int32)] [(.int v62), (.int (2 : Int32)), (.ref b64)])) _
    refine XS.iload X199.here hx rfl (hb hby at_372) rfl ?_
    refine XS.aload X199.here hx rfl (hb hby at_374) rfl rfl ?_
    refine XS.lload X199.here hx rfl (hb hby at_376) rfl ?_
    show Steps p.tables e below (T199.setTop (mkF m 378 #[vI p0, vI p1, vI p2, vI p3, vI p4, vI p5, vI v3, vI v6, vI v9, vI v12, vI v15, vI v18, vI v21, vI v24, vI v27, vI v30, vR b32, vR b36, vI j287_l18_179, vI v62, vJ (-6510615555426900571 : Int64), .second, vR b64, vR b93, vI (1 : Int32)] [(.long (-6510615555426900571 : Int64)), (.ref b32), (.int j287_l18_179), (.int v62), (.int (2 : Int32)), (.ref b64)])) _
    exact k)
  have hc203 := hj287_188.2.2.2.1
  obtain ⟨_, _, ⟨T202, qL202, qk202, qn202⟩, -, X202, ⟨Lc202, hQ202, ql202, qy202, qz202⟩, st202⟩ := Jvm.LawKit.callS X199 hx (y := (⟨"com/example/garantia/garantia/engine/StateLayoutPackPinLaw", "cell", "([JIII[JJ)Z"⟩ : MethodName)) hown (mvT hZ (hw _ (List.mem_of_getElem? (i := 45) rfl))) (mvT hZ (hw _ (List.mem_of_getElem? (i := 46) rfl))) (mvT hZ (hw _ (List.mem_of_getElem? (i := 2) rfl))) (mvT hZ (hw _ (List.mem_of_getElem? (i := 47) rfl))) (by decide) (backOf (W := 0) (rm8 l Z A0 hw [] b64 (2 : Int32) v62 j287_l18_179 b32 (-6510615555426900571 : Int64) kA64 kA32 j287_a1_0_181 j287_a1_1_182 j287_a1_2_183 j287_a1_3_184 j287_a1_4_185 j287_a1_5_186 t4_0 t4_1 t4_2 h180 n0 zz180 f180_1 f180_0 (by decide) hc203.1 hc203.2.1 hc203.2.2) hZ (hw _ (List.mem_of_getElem? (i := 47) rfl)) (hw _ (List.mem_of_getElem? (i := 2) rfl)) (by decide) (by decide)) (g := (mkF m 378 #[vI p0, vI p1, vI p2, vI p3, vI p4, vI p5, vI v3, vI v6, vI v9, vI v12, vI v15, vI v18, vI v21, vI v24, vI v27, vI v30, vR b32, vR b36, vI j287_l18_179, vI v62, vJ (-6510615555426900571 : Int64), .second, vR b64, vR b93, vI (1 : Int32)] [(.long (-6510615555426900571 : Int64)), (.ref b32), (.int j287_l18_179), (.int v62), (.int (2 : Int32)), (.ref b64)])) rfl (by rw [hml]; rfl) (argsL := [(.ref b64), (.int (2 : Int32)), (.int v62), (.int j287_l18_179), (.ref b32), (.long (-6510615555426900571 : Int64))]) (rest := []) (lenOf pd_6 rfl) rfl (by show 2 * 0 + _ ≤ _; exact Nat.le_of_eq rfl) (hb hby at_378) (fun _ _ => ⟨rfl, eq199, (by decide : 10 + 0 ≤ _), (by decide : 47 + 0 ≤ _)⟩)
  dsimp only [Pt.U, Pt.locs, Pt.cells, Pt.slots] at X202 ql202 qy202 qz202 st202 hQ202
  replace X202 := X202.more (Nat.le_of_eq qy202) (Nat.le_of_eq qz202)
  obtain ⟨rfl, Nq202, eq202⟩ := hQ202
  have N202 : Fr n0 qL202 := by rw [ql202]; exact Fr.app N199 Nq202
  have pre202 : Go p.tables e below S0 T202 (mkF m 381 #[vI p0, vI p1, vI p2, vI p3, vI p4, vI p5, vI v3, vI v6, vI v9, vI v12, vI v15, vI v18, vI v21, vI v24, vI v27, vI v30, vR b32, vR b36, vI j287_l18_179, vI v62, vJ (-6510615555426900571 : Int64), .second, vR b64, vR b93, vI (1 : Int32)] [(.int (1 : Int32))]) := fun t k => pre201 t (st202 t k)
  have pre204 : Go p.tables e below S0 T202 (mkF m 407 #[vI p0, vI p1, vI p2, vI p3, vI p4, vI p5, vI v3, vI v6, vI v9, vI v12, vI v15, vI v18, vI v21, vI v24, vI v27, vI v30, vR b32, vR b36, vI j287_l18_179, vI v62, vJ (-6510615555426900571 : Int64), .second, vR b64, vR b93, vI (1 : Int32)] [(.long (-6510615555426900571 : Int64)), (.ref b32), (.int j287_l18_179), (.int v62), (.int (3 : Int32)), (.ref b64)]) := fun t k => pre202 t (by
    refine XS.ifNo X202.here hx rfl (hb hby at_381) rfl ((if0 _ _).trans (feq (by decide : ¬ ((1 : Int32) = (0 : Int32)))).1) ?_
    refine XS.iconst X202.here hx rfl (hb hby at_384) ?_
    refine XS.goto X202.here hx rfl (pc0 := 385) (pc' := 389) rfl (hb hby at_385) (by decide) (by decide) ?_
    show Steps p.tables e below (T202.setTop (mkF m 389 #[vI p0, vI p1, vI p2, vI p3, vI p4, vI p5, vI v3, vI v6, vI v9, vI v12, vI v15, vI v18, vI v21, vI v24, vI v27, vI v30, vR b32, vR b36, vI j287_l18_179, vI v62, vJ (-6510615555426900571 : Int64), .second, vR b64, vR b93, vI (1 : Int32)] [(.int (1 : Int32))])) _
    refine XS.istore X202.here hx rfl (hb hby at_389) rfl (l' := #[vI p0, vI p1, vI p2, vI p3, vI p4, vI p5, vI v3, vI v6, vI v9, vI v12, vI v15, vI v18, vI v21, vI v24, vI v27, vI v30, vR b32, vR b36, vI j287_l18_179, vI v62, vJ (-6510615555426900571 : Int64), .second, vR b64, vR b93, vI (1 : Int32)]) rfl ?_
    refine XS.iload X202.here hx rfl (hb hby at_391) rfl ?_
    refine XS.ifNo X202.here hx rfl (hb hby at_393) rfl ((if0 _ _).trans (feq (by decide : ¬ ((1 : Int32) = (0 : Int32)))).1) ?_
    show Steps p.tables e below (T202.setTop (mkF m 396 #[vI p0, vI p1, vI p2, vI p3, vI p4, vI p5, vI v3, vI v6, vI v9, vI v12, vI v15, vI v18, vI v21, vI v24, vI v27, vI v30, vR b32, vR b36, vI j287_l18_179, vI v62, vJ (-6510615555426900571 : Int64), .second, vR b64, vR b93, vI (1 : Int32)] [])) _
    refine XS.aload X202.here hx rfl (hb hby at_396) rfl rfl ?_
    refine XS.iconst X202.here hx rfl (hb hby at_398) ?_
    refine XS.iload X202.here hx rfl (hb hby at_399) rfl ?_
    show Steps p.tables e below (T202.setTop (mkF m 401 #[vI p0, vI p1, vI p2, vI p3, vI p4, vI p5, vI v3, vI v6, vI v9, vI v12, vI v15, vI v18, vI v21, vI v24, vI v27, vI v30, vR b32, vR b36, vI j287_l18_179, vI v62, vJ (-6510615555426900571 : Int64), .second, vR b64, vR b93, vI (1 : Int32)] [(.int v62), (.int (3 : Int32)), (.ref b64)])) _
    refine XS.iload X202.here hx rfl (hb hby at_401) rfl ?_
    refine XS.aload X202.here hx rfl (hb hby at_403) rfl rfl ?_
    refine XS.lload X202.here hx rfl (hb hby at_405) rfl ?_
    show Steps p.tables e below (T202.setTop (mkF m 407 #[vI p0, vI p1, vI p2, vI p3, vI p4, vI p5, vI v3, vI v6, vI v9, vI v12, vI v15, vI v18, vI v21, vI v24, vI v27, vI v30, vR b32, vR b36, vI j287_l18_179, vI v62, vJ (-6510615555426900571 : Int64), .second, vR b64, vR b93, vI (1 : Int32)] [(.long (-6510615555426900571 : Int64)), (.ref b32), (.int j287_l18_179), (.int v62), (.int (3 : Int32)), (.ref b64)])) _
    exact k)
  have hc206 := hj287_188.2.2.2.2.1
  obtain ⟨_, _, ⟨T205, qL205, qk205, qn205⟩, -, X205, ⟨Lc205, hQ205, ql205, qy205, qz205⟩, st205⟩ := Jvm.LawKit.callS X202 hx (y := (⟨"com/example/garantia/garantia/engine/StateLayoutPackPinLaw", "cell", "([JIII[JJ)Z"⟩ : MethodName)) hown (mvT hZ (hw _ (List.mem_of_getElem? (i := 45) rfl))) (mvT hZ (hw _ (List.mem_of_getElem? (i := 46) rfl))) (mvT hZ (hw _ (List.mem_of_getElem? (i := 2) rfl))) (mvT hZ (hw _ (List.mem_of_getElem? (i := 47) rfl))) (by decide) (backOf (W := 0) (rm8 l Z A0 hw [] b64 (3 : Int32) v62 j287_l18_179 b32 (-6510615555426900571 : Int64) kA64 kA32 j287_a1_0_181 j287_a1_1_182 j287_a1_2_183 j287_a1_3_184 j287_a1_4_185 j287_a1_5_186 t4_0 t4_1 t4_2 h180 n0 zz180 f180_1 f180_0 (by decide) hc206.1 hc206.2.1 hc206.2.2) hZ (hw _ (List.mem_of_getElem? (i := 47) rfl)) (hw _ (List.mem_of_getElem? (i := 2) rfl)) (by decide) (by decide)) (g := (mkF m 407 #[vI p0, vI p1, vI p2, vI p3, vI p4, vI p5, vI v3, vI v6, vI v9, vI v12, vI v15, vI v18, vI v21, vI v24, vI v27, vI v30, vR b32, vR b36, vI j287_l18_179, vI v62, vJ (-6510615555426900571 : Int64), .second, vR b64, vR b93, vI (1 : Int32)] [(.long (-6510615555426900571 : Int64)), (.ref b32), (.int j287_l18_179), (.int v62), (.int (3 : Int32)), (.ref b64)])) rfl (by rw [hml]; rfl) (argsL := [(.ref b64), (.int (3 : Int32)), (.int v62), (.int j287_l18_179), (.ref b32), (.long (-6510615555426900571 : Int64))]) (rest := []) (lenOf pd_6 rfl) rfl (by show 2 * 0 + _ ≤ _; exact Nat.le_of_eq rfl) (hb hby at_407) (fun _ _ => ⟨rfl, eq202, (by decide : 10 + 0 ≤ _), (by decide : 47 + 0 ≤ _)⟩)
  dsimp only [Pt.U, Pt.locs, Pt.cells, Pt.slots] at X205 ql205 qy205 qz205 st205 hQ205
  replace X205 := X205.more (Nat.le_of_eq qy205) (Nat.le_of_eq qz205)
  obtain ⟨rfl, Nq205, eq205⟩ := hQ205
  have N205 : Fr n0 qL205 := by rw [ql205]; exact Fr.app N202 Nq205
  have pre205 : Go p.tables e below S0 T205 (mkF m 410 #[vI p0, vI p1, vI p2, vI p3, vI p4, vI p5, vI v3, vI v6, vI v9, vI v12, vI v15, vI v18, vI v21, vI v24, vI v27, vI v30, vR b32, vR b36, vI j287_l18_179, vI v62, vJ (-6510615555426900571 : Int64), .second, vR b64, vR b93, vI (1 : Int32)] [(.int (1 : Int32))]) := fun t k => pre204 t (st205 t k)
  have pre207 : Go p.tables e below S0 T205 (mkF m 436 #[vI p0, vI p1, vI p2, vI p3, vI p4, vI p5, vI v3, vI v6, vI v9, vI v12, vI v15, vI v18, vI v21, vI v24, vI v27, vI v30, vR b32, vR b36, vI j287_l18_179, vI v62, vJ (-6510615555426900571 : Int64), .second, vR b64, vR b93, vI (1 : Int32)] [(.long (-6510615555426900571 : Int64)), (.ref b32), (.int j287_l18_179), (.int v62), (.int (4 : Int32)), (.ref b64)]) := fun t k => pre205 t (by
    refine XS.ifNo X205.here hx rfl (hb hby at_410) rfl ((if0 _ _).trans (feq (by decide : ¬ ((1 : Int32) = (0 : Int32)))).1) ?_
    refine XS.iconst X205.here hx rfl (hb hby at_413) ?_
    refine XS.goto X205.here hx rfl (pc0 := 414) (pc' := 418) rfl (hb hby at_414) (by decide) (by decide) ?_
    show Steps p.tables e below (T205.setTop (mkF m 418 #[vI p0, vI p1, vI p2, vI p3, vI p4, vI p5, vI v3, vI v6, vI v9, vI v12, vI v15, vI v18, vI v21, vI v24, vI v27, vI v30, vR b32, vR b36, vI j287_l18_179, vI v62, vJ (-6510615555426900571 : Int64), .second, vR b64, vR b93, vI (1 : Int32)] [(.int (1 : Int32))])) _
    refine XS.istore X205.here hx rfl (hb hby at_418) rfl (l' := #[vI p0, vI p1, vI p2, vI p3, vI p4, vI p5, vI v3, vI v6, vI v9, vI v12, vI v15, vI v18, vI v21, vI v24, vI v27, vI v30, vR b32, vR b36, vI j287_l18_179, vI v62, vJ (-6510615555426900571 : Int64), .second, vR b64, vR b93, vI (1 : Int32)]) rfl ?_
    refine XS.iload X205.here hx rfl (hb hby at_420) rfl ?_
    refine XS.ifNo X205.here hx rfl (hb hby at_422) rfl ((if0 _ _).trans (feq (by decide : ¬ ((1 : Int32) = (0 : Int32)))).1) ?_
    show Steps p.tables e below (T205.setTop (mkF m 425 #[vI p0, vI p1, vI p2, vI p3, vI p4, vI p5, vI v3, vI v6, vI v9, vI v12, vI v15, vI v18, vI v21, vI v24, vI v27, vI v30, vR b32, vR b36, vI j287_l18_179, vI v62, vJ (-6510615555426900571 : Int64), .second, vR b64, vR b93, vI (1 : Int32)] [])) _
    refine XS.aload X205.here hx rfl (hb hby at_425) rfl rfl ?_
    refine XS.iconst X205.here hx rfl (hb hby at_427) ?_
    refine XS.iload X205.here hx rfl (hb hby at_428) rfl ?_
    show Steps p.tables e below (T205.setTop (mkF m 430 #[vI p0, vI p1, vI p2, vI p3, vI p4, vI p5, vI v3, vI v6, vI v9, vI v12, vI v15, vI v18, vI v21, vI v24, vI v27, vI v30, vR b32, vR b36, vI j287_l18_179, vI v62, vJ (-6510615555426900571 : Int64), .second, vR b64, vR b93, vI (1 : Int32)] [(.int v62), (.int (4 : Int32)), (.ref b64)])) _
    refine XS.iload X205.here hx rfl (hb hby at_430) rfl ?_
    refine XS.aload X205.here hx rfl (hb hby at_432) rfl rfl ?_
    refine XS.lload X205.here hx rfl (hb hby at_434) rfl ?_
    show Steps p.tables e below (T205.setTop (mkF m 436 #[vI p0, vI p1, vI p2, vI p3, vI p4, vI p5, vI v3, vI v6, vI v9, vI v12, vI v15, vI v18, vI v21, vI v24, vI v27, vI v30, vR b32, vR b36, vI j287_l18_179, vI v62, vJ (-6510615555426900571 : Int64), .second, vR b64, vR b93, vI (1 : Int32)] [(.long (-6510615555426900571 : Int64)), (.ref b32), (.int j287_l18_179), (.int v62), (.int (4 : Int32)), (.ref b64)])) _
    exact k)
  have hc209 := hj287_188.2.2.2.2.2.1
  obtain ⟨_, _, ⟨T208, qL208, qk208, qn208⟩, -, X208, ⟨Lc208, hQ208, ql208, qy208, qz208⟩, st208⟩ := Jvm.LawKit.callS X205 hx (y := (⟨"com/example/garantia/garantia/engine/StateLayoutPackPinLaw", "cell", "([JIII[JJ)Z"⟩ : MethodName)) hown (mvT hZ (hw _ (List.mem_of_getElem? (i := 45) rfl))) (mvT hZ (hw _ (List.mem_of_getElem? (i := 46) rfl))) (mvT hZ (hw _ (List.mem_of_getElem? (i := 2) rfl))) (mvT hZ (hw _ (List.mem_of_getElem? (i := 47) rfl))) (by decide) (backOf (W := 0) (rm8 l Z A0 hw [] b64 (4 : Int32) v62 j287_l18_179 b32 (-6510615555426900571 : Int64) kA64 kA32 j287_a1_0_181 j287_a1_1_182 j287_a1_2_183 j287_a1_3_184 j287_a1_4_185 j287_a1_5_186 t4_0 t4_1 t4_2 h180 n0 zz180 f180_1 f180_0 (by decide) hc209.1 hc209.2.1 hc209.2.2) hZ (hw _ (List.mem_of_getElem? (i := 47) rfl)) (hw _ (List.mem_of_getElem? (i := 2) rfl)) (by decide) (by decide)) (g := (mkF m 436 #[vI p0, vI p1, vI p2, vI p3, vI p4, vI p5, vI v3, vI v6, vI v9, vI v12, vI v15, vI v18, vI v21, vI v24, vI v27, vI v30, vR b32, vR b36, vI j287_l18_179, vI v62, vJ (-6510615555426900571 : Int64), .second, vR b64, vR b93, vI (1 : Int32)] [(.long (-6510615555426900571 : Int64)), (.ref b32), (.int j287_l18_179), (.int v62), (.int (4 : Int32)), (.ref b64)])) rfl (by rw [hml]; rfl) (argsL := [(.ref b64), (.int (4 : Int32)), (.int v62), (.int j287_l18_179), (.ref b32), (.long (-6510615555426900571 : Int64))]) (rest := []) (lenOf pd_6 rfl) rfl (by show 2 * 0 + _ ≤ _; exact Nat.le_of_eq rfl) (hb hby at_436) (fun _ _ => ⟨rfl, eq205, (by decide : 10 + 0 ≤ _), (by decide : 47 + 0 ≤ _)⟩)
  dsimp only [Pt.U, Pt.locs, Pt.cells, Pt.slots] at X208 ql208 qy208 qz208 st208 hQ208
  replace X208 := X208.more (Nat.le_of_eq qy208) (Nat.le_of_eq qz208)
  obtain ⟨rfl, Nq208, eq208⟩ := hQ208
  have N208 : Fr n0 qL208 := by rw [ql208]; exact Fr.app N205 Nq208
  have pre208 : Go p.tables e below S0 T208 (mkF m 439 #[vI p0, vI p1, vI p2, vI p3, vI p4, vI p5, vI v3, vI v6, vI v9, vI v12, vI v15, vI v18, vI v21, vI v24, vI v27, vI v30, vR b32, vR b36, vI j287_l18_179, vI v62, vJ (-6510615555426900571 : Int64), .second, vR b64, vR b93, vI (1 : Int32)] [(.int (1 : Int32))]) := fun t k => pre207 t (st208 t k)
  have pre210 : Go p.tables e below S0 T208 (mkF m 465 #[vI p0, vI p1, vI p2, vI p3, vI p4, vI p5, vI v3, vI v6, vI v9, vI v12, vI v15, vI v18, vI v21, vI v24, vI v27, vI v30, vR b32, vR b36, vI j287_l18_179, vI v62, vJ (-6510615555426900571 : Int64), .second, vR b64, vR b93, vI (1 : Int32)] [(.long (-6510615555426900571 : Int64)), (.ref b32), (.int j287_l18_179), (.int v62), (.int (5 : Int32)), (.ref b64)]) := fun t k => pre208 t (by
    refine XS.ifNo X208.here hx rfl (hb hby at_439) rfl ((if0 _ _).trans (feq (by decide : ¬ ((1 : Int32) = (0 : Int32)))).1) ?_
    refine XS.iconst X208.here hx rfl (hb hby at_442) ?_
    refine XS.goto X208.here hx rfl (pc0 := 443) (pc' := 447) rfl (hb hby at_443) (by decide) (by decide) ?_
    show Steps p.tables e below (T208.setTop (mkF m 447 #[vI p0, vI p1, vI p2, vI p3, vI p4, vI p5, vI v3, vI v6, vI v9, vI v12, vI v15, vI v18, vI v21, vI v24, vI v27, vI v30, vR b32, vR b36, vI j287_l18_179, vI v62, vJ (-6510615555426900571 : Int64), .second, vR b64, vR b93, vI (1 : Int32)] [(.int (1 : Int32))])) _
    refine XS.istore X208.here hx rfl (hb hby at_447) rfl (l' := #[vI p0, vI p1, vI p2, vI p3, vI p4, vI p5, vI v3, vI v6, vI v9, vI v12, vI v15, vI v18, vI v21, vI v24, vI v27, vI v30, vR b32, vR b36, vI j287_l18_179, vI v62, vJ (-6510615555426900571 : Int64), .second, vR b64, vR b93, vI (1 : Int32)]) rfl ?_
    refine XS.iload X208.here hx rfl (hb hby at_449) rfl ?_
    refine XS.ifNo X208.here hx rfl (hb hby at_451) rfl ((if0 _ _).trans (feq (by decide : ¬ ((1 : Int32) = (0 : Int32)))).1) ?_
    show Steps p.tables e below (T208.setTop (mkF m 454 #[vI p0, vI p1, vI p2, vI p3, vI p4, vI p5, vI v3, vI v6, vI v9, vI v12, vI v15, vI v18, vI v21, vI v24, vI v27, vI v30, vR b32, vR b36, vI j287_l18_179, vI v62, vJ (-6510615555426900571 : Int64), .second, vR b64, vR b93, vI (1 : Int32)] [])) _
    refine XS.aload X208.here hx rfl (hb hby at_454) rfl rfl ?_
    refine XS.iconst X208.here hx rfl (hb hby at_456) ?_
    refine XS.iload X208.here hx rfl (hb hby at_457) rfl ?_
    show Steps p.tables e below (T208.setTop (mkF m 459 #[vI p0, vI p1, vI p2, vI p3, vI p4, vI p5, vI v3, vI v6, vI v9, vI v12, vI v15, vI v18, vI v21, vI v24, vI v27, vI v30, vR b32, vR b36, vI j287_l18_179, vI v62, vJ (-6510615555426900571 : Int64), .second, vR b64, vR b93, vI (1 : Int32)] [(.int v62), (.int (5 : Int32)), (.ref b64)])) _
    refine XS.iload X208.here hx rfl (hb hby at_459) rfl ?_
    refine XS.aload X208.here hx rfl (hb hby at_461) rfl rfl ?_
    refine XS.lload X208.here hx rfl (hb hby at_463) rfl ?_
    show Steps p.tables e below (T208.setTop (mkF m 465 #[vI p0, vI p1, vI p2, vI p3, vI p4, vI p5, vI v3, vI v6, vI v9, vI v12, vI v15, vI v18, vI v21, vI v24, vI v27, vI v30, vR b32, vR b36, vI j287_l18_179, vI v62, vJ (-6510615555426900571 : Int64), .second, vR b64, vR b93, vI (1 : Int32)] [(.long (-6510615555426900571 : Int64)), (.ref b32), (.int j287_l18_179), (.int v62), (.int (5 : Int32)), (.ref b64)])) _
    exact k)
  have hc212 := hj287_188.2.2.2.2.2.2
  obtain ⟨_, _, ⟨T211, qL211, qk211, qn211⟩, -, X211, ⟨Lc211, hQ211, ql211, qy211, qz211⟩, st211⟩ := Jvm.LawKit.callS X208 hx (y := (⟨"com/example/garantia/garantia/engine/StateLayoutPackPinLaw", "cell", "([JIII[JJ)Z"⟩ : MethodName)) hown (mvT hZ (hw _ (List.mem_of_getElem? (i := 45) rfl))) (mvT hZ (hw _ (List.mem_of_getElem? (i := 46) rfl))) (mvT hZ (hw _ (List.mem_of_getElem? (i := 2) rfl))) (mvT hZ (hw _ (List.mem_of_getElem? (i := 47) rfl))) (by decide) (backOf (W := 0) (rm8 l Z A0 hw [] b64 (5 : Int32) v62 j287_l18_179 b32 (-6510615555426900571 : Int64) kA64 kA32 j287_a1_0_181 j287_a1_1_182 j287_a1_2_183 j287_a1_3_184 j287_a1_4_185 j287_a1_5_186 t4_0 t4_1 t4_2 h180 n0 zz180 f180_1 f180_0 (by decide) hc212.1 hc212.2.1 hc212.2.2) hZ (hw _ (List.mem_of_getElem? (i := 47) rfl)) (hw _ (List.mem_of_getElem? (i := 2) rfl)) (by decide) (by decide)) (g := (mkF m 465 #[vI p0, vI p1, vI p2, vI p3, vI p4, vI p5, vI v3, vI v6, vI v9, vI v12, vI v15, vI v18, vI v21, vI v24, vI v27, vI v30, vR b32, vR b36, vI j287_l18_179, vI v62, vJ (-6510615555426900571 : Int64), .second, vR b64, vR b93, vI (1 : Int32)] [(.long (-6510615555426900571 : Int64)), (.ref b32), (.int j287_l18_179), (.int v62), (.int (5 : Int32)), (.ref b64)])) rfl (by rw [hml]; rfl) (argsL := [(.ref b64), (.int (5 : Int32)), (.int v62), (.int j287_l18_179), (.ref b32), (.long (-6510615555426900571 : Int64))]) (rest := []) (lenOf pd_6 rfl) rfl (by show 2 * 0 + _ ≤ _; exact Nat.le_of_eq rfl) (hb hby at_465) (fun _ _ => ⟨rfl, eq208, (by decide : 10 + 0 ≤ _), (by decide : 47 + 0 ≤ _)⟩)
  dsimp only [Pt.U, Pt.locs, Pt.cells, Pt.slots] at X211 ql211 qy211 qz211 st211 hQ211
  replace X211 := X211.more (Nat.le_of_eq qy211) (Nat.le_of_eq qz211)
  obtain ⟨rfl, Nq211, eq211⟩ := hQ211
  have N211 : Fr n0 qL211 := by rw [ql211]; exact Fr.app N208 Nq211
  have pre211 : Go p.tables e below S0 T211 (mkF m 468 #[vI p0, vI p1, vI p2, vI p3, vI p4, vI p5, vI v3, vI v6, vI v9, vI v12, vI v15, vI v18, vI v21, vI v24, vI v27, vI v30, vR b32, vR b36, vI j287_l18_179, vI v62, vJ (-6510615555426900571 : Int64), .second, vR b64, vR b93, vI (1 : Int32)] [(.int (1 : Int32))]) := fun t k => pre210 t (st211 t k)
  have pre213 : Go p.tables e below S0 T211 (mkF m 480 #[vI p0, vI p1, vI p2, vI p3, vI p4, vI p5, vI v3, vI v6, vI v9, vI v12, vI v15, vI v18, vI v21, vI v24, vI v27, vI v30, vR b32, vR b36, vI j287_l18_179, vI v62, vJ (-6510615555426900571 : Int64), .second, vR b64, vR b93, vI (1 : Int32)] [(.int (1 : Int32))]) := fun t k => pre211 t (by
    refine XS.ifNo X211.here hx rfl (hb hby at_468) rfl ((if0 _ _).trans (feq (by decide : ¬ ((1 : Int32) = (0 : Int32)))).1) ?_
    refine XS.iconst X211.here hx rfl (hb hby at_471) ?_
    refine XS.goto X211.here hx rfl (pc0 := 472) (pc' := 476) rfl (hb hby at_472) (by decide) (by decide) ?_
    show Steps p.tables e below (T211.setTop (mkF m 476 #[vI p0, vI p1, vI p2, vI p3, vI p4, vI p5, vI v3, vI v6, vI v9, vI v12, vI v15, vI v18, vI v21, vI v24, vI v27, vI v30, vR b32, vR b36, vI j287_l18_179, vI v62, vJ (-6510615555426900571 : Int64), .second, vR b64, vR b93, vI (1 : Int32)] [(.int (1 : Int32))])) _
    refine XS.istore X211.here hx rfl (hb hby at_476) rfl (l' := #[vI p0, vI p1, vI p2, vI p3, vI p4, vI p5, vI v3, vI v6, vI v9, vI v12, vI v15, vI v18, vI v21, vI v24, vI v27, vI v30, vR b32, vR b36, vI j287_l18_179, vI v62, vJ (-6510615555426900571 : Int64), .second, vR b64, vR b93, vI (1 : Int32)]) rfl ?_
    refine XS.iload X211.here hx rfl (hb hby at_478) rfl ?_
    exact k)
  obtain ⟨fs, hr, hrun, hended, hW, hsame⟩ := X211.leave (v := some (.int (1 : Int32))) (fun h => by rw [Bd.returns] at h; cases h)
  exact ⟨_, _, pre213.fin hS0 (retN X211 hx (t := .boolean) Bd.returns (by simp) (hb hby at_480) hr), hrun, hended, _, _, rfl, (by
    show Q0 Z p0 p1 p2 p3 p4 p5 h0 n0 _ T211.heap _
    rw [eq211]
    exact ⟨rfl, N211⟩), ⟨_, rfl⟩, hW, hsame.mono (by decide) (by decide)⟩
set_option maxRecDepth 65536 in
set_option maxHeartbeats 40000000 in
theorem comes_1 {Post : Tables → Env → Array Value → State → Outcome → State → Prop} (hpost : ∀ tb e args s v u, (limb_1_1.after args s (.returned v) u = true ∧ limb_1_2.after args s (.returned v) u = true ∧ True) → FrameEnd s (.returned v) u (Jvm.fieldLocs frame_1_writes args s ++ Jvm.arrayLocs frame_1_arrays args s ++ Jvm.staticLocs frame_1_statics s) 32 192 → Post tb e args s (.returned v) u) :
    ArmFor flags0 classFile x code maxLocals ret World_1 tables_1 room_1 Calls_1 rest_1 Pre_1 Post := by
  intro l hfl _ _ p e ha hc hk s m args below hf hA hF happ hP
  obtain ⟨hcalls, hrest, hpre⟩ := hP
  obtain ⟨-, -, -, hnamed, -, -, -, hat⟩ := (Spec.applies_iff hf).mp happ
  obtain ⟨hg, hn⟩ := and_e (Cond.before_iff.mp (show (Jvm.Cond.and given_1 narrow_1).before args s = true from hpre))
  obtain ⟨g0, r0⟩ := and_e hg
  obtain ⟨g1, r1⟩ := and_e r0
  obtain ⟨g2, r2⟩ := and_e r1
  obtain ⟨g3, r3⟩ := and_e r2
  obtain ⟨g4, r4⟩ := and_e r3
  obtain ⟨g5, r5⟩ := and_e r4
  obtain ⟨w0, w1, w2, w3, w4, w5, rfl⟩ : ∃ w0 w1 w2 w3 w4 w5 : Value, args = #[w0, w1, w2, w3, w4, w5] := by
    have hs : args.size = 6 := by simpa [Cond.value, given_1] using g0
    obtain ⟨L⟩ := args
    match L, hs with
    | [w0, w1, w2, w3, w4, w5], _ => exact ⟨w0, w1, w2, w3, w4, w5, rfl⟩
  have hw := fun d (hd : d ∈ tables_1) => atoms_spec (ws := Jvm.Cond.code x code maxLocals ret :: tables_1) hat d (List.mem_cons_of_mem _ hd)
  obtain ⟨i0, ei0⟩ := is_v g1
  obtain rfl : w0 = (.int i0) := Option.some.inj ei0
  obtain ⟨i1, ei1⟩ := is_v g2
  obtain rfl : w1 = (.int i1) := Option.some.inj ei1
  obtain ⟨i2, ei2⟩ := is_v g3
  obtain rfl : w2 = (.int i2) := Option.some.inj ei2
  obtain ⟨i3, ei3⟩ := is_v g4
  obtain rfl : w3 = (.int i3) := Option.some.inj ei3
  obtain ⟨i4, ei4⟩ := is_v g5
  obtain rfl : w4 = (.int i4) := Option.some.inj ei4
  obtain ⟨i5, ei5⟩ := is_v r5
  obtain rfl : w5 = (.int i5) := Option.some.inj ei5
  obtain ⟨n, o, h1, h2, h3, _, L, rfl, ⟨rfl, N⟩, hq⟩ := rm0 l s _ hw tables_1 i0 i1 i2 i3 i4 i5  s.heap s.heap.size (Nat.le_refl _) p e ha hc hk s m _ below hf ((Spec.applies_iff_loose hf).mp happ).1 ⟨rfl, State.Warmed39.refl s, rfl⟩ trivial
  refine ⟨n, _, h1, h2, h3, hpost _ _ _ _ _ _ ⟨Cond.after_iff.mpr rfl, Cond.after_iff.mpr (eq_i res_at (Term.int_eval (1)) rfl), trivial⟩ ⟨hq.1, hq.2.1, (hq.2.2.sift fun y hy => Or.inr (N y hy)).mono (by decide) (by decide)⟩⟩
theorem main_1_1 : Claimed_1_1 := comes_1 fun _ _ _ _ _ _ h hF => ⟨h.1, hF⟩
theorem main_1_2 : Claimed_1_2 := comes_1 fun _ _ _ _ _ _ h hF => ⟨h.2.1, hF⟩
end Jvm.Pilot.@@N@@
namespace Jvm.Pilot.@@N@@
open Jvm Jvm.ClassFile Sem Op Lib Jvm.Free Jvm.Stand Jvm.Pilot.@@N@@.Jvm.D
/-! MADE BY PROGRAM (witnessworld.py) out of the Statement's table words and the real class files: 11 classes; the members and pool entries that the words name. The judged class is class 1, her method 1. -/
namespace start1
open Jvm.ClassFile
def u (s : String) : CpInfo := .utf8 (stringToUtf16 s)
/-- a pool by its gaps: so many unusable entries, then the entry; so many at the end -/
def gap : Nat → List CpInfo → List CpInfo
  | 0, r => r
  | n + 1, r => .unusable :: gap n r
def poolList (es : List (Nat × CpInfo)) (last : Nat) : List CpInfo := es.foldr (fun e r => gap e.1 (e.2 :: r)) (gap last [])
def pool (es : List (Nat × CpInfo)) (last : Nat) : Array CpInfo := ⟨poolList es last⟩
def fileOf (pool : Array CpInfo) (this : Nat) (attrs : Array Attribute := #[]) (ms : Array MethodInfo := #[]) (fl : Nat := 33) (sup : Nat := 0) (ifs : Array Nat := #[]) (fds : Array FieldInfo := #[]) : ClassFile where
  minorVersion := 0
  majorVersion := 65
  constantPool := pool
  accessFlags := fl
  thisClass := this
  superClass := sup
  interfaces := ifs
  fields := fds
  methods := ms
  attributes := attrs
def plain (name : String) (sup : Option ClassId) : Class where
  name := name
  kind := .ordinary
  loader := none
  accessFlags := 33
  super := sup
  interfaces := #[]
  cf := none
  fields := #[]
  methods := #[]
  instanceTypes := #[]
  staticTypes := #[]
  resolved := #[]
  callSites := []
  init := .initialized
  statics := none
  mirror := none

def pool0 : Array CpInfo := pool [(5, u "<init>"), (0, u "()V"), (1, .class_ 10), (1, u "java/lang/Object")] 113

def k0c0 : Code := { maxStack := 0, maxLocals := 1, code := object_method_1_code, exceptionTable := #[], attributes := #[] }
def k0m0 : Method := { name := "<init>", desc := "()V", sig := { parameters := [], returnType := none }, accessFlags := 1, code := some k0c0 }
/-- java/lang/Object -/
def k0 : Class := { plain "java/lang/Object" none with
  accessFlags := 33
  interfaces := #[]
  cf := some (fileOf pool0 8 #[] #[{ accessFlags := 1, nameIndex := 5, descriptorIndex := 6, attributes := #[] }] 33 0 #[] #[])
  fields := #[]
  methods := #[k0m0]
  instanceTypes := #[]
  staticTypes := #[]
  resolved := Array.replicate 124 none
  statics := none }

def pool1 : Array CpInfo := pool [(2, .class_ 4), (1, u "java/lang/Object"), (0, u "<init>"), (0, u "()V"), (0, .methodref 8 9), (0, .class_ 10), (0, .nameAndType 11 12), (0, u "com/example/garantia/garantia/engine/StateLayoutPackPinLaw"), (0, u "width"), (0, u "(II)I"), (0, .methodref 8 14), (0, .nameAndType 15 16), (0, u "low"), (0, u "(I)I"), (0, .methodref 8 18), (0, .nameAndType 19 20), (0, u "place"), (0, u "([J[III)V"), (0, .long 11936128518282651045), (1, .class_ 24), (0, u "com/example/garantia/garantia/engine/StateLayout"), (0, .methodref 23 26), (0, .nameAndType 5 27), (0, u "([I)V"), (0, .methodref 23 29), (0, .nameAndType 30 31), (0, u "pack"), (0, u "([I[JI)V"), (0, .methodref 23 33), (0, .nameAndType 34 35), (0, u "words"), (0, u "()I"), (0, .methodref 8 37), (0, .nameAndType 38 39), (0, u "cell"), (0, u "([JIII[JJ)Z"), (2, u "law"), (0, u "(IIIIII)Z")] 7

def k1m0 : Method := { name := "<init>", desc := "()V", sig := { parameters := [], returnType := none }, accessFlags := 1, code := none }
def k1c1 : Code := { maxStack := 7, maxLocals := 25, code := code, exceptionTable := #[], attributes := #[] }
def k1m1 : Method := { name := "law", desc := "(IIIIII)Z", sig := { parameters := [.int, .int, .int, .int, .int, .int], returnType := some .boolean }, accessFlags := 9, code := some k1c1 }
def k1c2 : Code := { maxStack := 2, maxLocals := 2, code := method_3_code, exceptionTable := #[], attributes := #[] }
def k1m2 : Method := { name := "width", desc := "(II)I", sig := { parameters := [.int, .int], returnType := some .int }, accessFlags := 10, code := some k1c2 }
def k1c3 : Code := { maxStack := 4, maxLocals := 1, code := method_4_code, exceptionTable := #[], attributes := #[] }
def k1m3 : Method := { name := "low", desc := "(I)I", sig := { parameters := [.int], returnType := some .int }, accessFlags := 10, code := some k1c3 }
def k1c4 : Code := { maxStack := 8, maxLocals := 4, code := method_5_code, exceptionTable := #[], attributes := #[] }
def k1m4 : Method := { name := "place", desc := "([J[III)V", sig := { parameters := [(.array .long), (.array .int), .int, .int], returnType := none }, accessFlags := 10, code := some k1c4 }
def k1c5 : Code := { maxStack := 5, maxLocals := 7, code := method_6_code, exceptionTable := #[], attributes := #[] }
def k1m5 : Method := { name := "cell", desc := "([JIII[JJ)Z", sig := { parameters := [(.array .long), .int, .int, .int, (.array .long), .long], returnType := some .boolean }, accessFlags := 10, code := some k1c5 }
/-- com/example/garantia/garantia/engine/StateLayoutPackPinLaw -/
def k1 : Class := { plain "com/example/garantia/garantia/engine/StateLayoutPackPinLaw" (some 0) with
  accessFlags := 49
  interfaces := #[]
  cf := some (fileOf pool1 8 #[] #[{ accessFlags := 1, nameIndex := 5, descriptorIndex := 6, attributes := #[] }, { accessFlags := 9, nameIndex := 42, descriptorIndex := 43, attributes := #[] }, { accessFlags := 10, nameIndex := 11, descriptorIndex := 12, attributes := #[] }, { accessFlags := 10, nameIndex := 15, descriptorIndex := 16, attributes := #[] }, { accessFlags := 10, nameIndex := 19, descriptorIndex := 20, attributes := #[] }, { accessFlags := 10, nameIndex := 38, descriptorIndex := 39, attributes := #[] }] 49 2 #[] #[])
  fields := #[]
  methods := #[k1m0, k1m1, k1m2, k1m3, k1m4, k1m5]
  instanceTypes := #[]
  staticTypes := #[]
  resolved := Array.replicate 51 none
  statics := none }

def pool2 : Array CpInfo := pool [(1, .methodref 2 3), (0, .class_ 4), (0, .nameAndType 5 6), (0, u "java/lang/Object"), (0, u "<init>"), (0, u "()V"), (0, .fieldref 8 9), (0, .class_ 10), (0, .nameAndType 11 12), (0, u "com/example/garantia/garantia/engine/StateLayout"), (0, u "word"), (0, u "[I"), (0, .fieldref 8 14), (0, .nameAndType 15 12), (0, u "shift"), (0, .fieldref 8 17), (0, .nameAndType 18 19), (0, u "mask"), (0, u "[J"), (0, .fieldref 8 21), (0, .nameAndType 22 19), (0, u "others"), (2, .long 18446744073709551615), (1, .fieldref 8 28), (0, .nameAndType 29 30), (0, u "words"), (0, u "I"), (2, .fieldref 8 34), (0, .nameAndType 35 36), (0, u "narrow"), (0, u "Z"), (0, u "([I)V"), (4, u "()I"), (1, u "pack"), (0, u "([I[JI)V")] 9

def k2c0 : Code := { maxStack := 6, maxLocals := 5, code := prog_46_method_1_code, exceptionTable := #[], attributes := #[] }
def k2m0 : Method := { name := "<init>", desc := "([I)V", sig := { parameters := [(.array .int)], returnType := none }, accessFlags := 0, code := some k2c0 }
def k2c1 : Code := { maxStack := 1, maxLocals := 1, code := prog_46_method_2_code, exceptionTable := #[], attributes := #[] }
def k2m1 : Method := { name := "words", desc := "()I", sig := { parameters := [], returnType := some .int }, accessFlags := 0, code := some k2c1 }
def k2c2 : Code := { maxStack := 6, maxLocals := 8, code := prog_46_method_4_code, exceptionTable := #[], attributes := #[] }
def k2m2 : Method := { name := "pack", desc := "([I[JI)V", sig := { parameters := [(.array .int), (.array .long), .int], returnType := none }, accessFlags := 0, code := some k2c2 }
/-- com/example/garantia/garantia/engine/StateLayout -/
def k2 : Class := { plain "com/example/garantia/garantia/engine/StateLayout" (some 0) with
  accessFlags := 32
  interfaces := #[]
  cf := some (fileOf pool2 8 #[] #[{ accessFlags := 0, nameIndex := 5, descriptorIndex := 37, attributes := #[] }, { accessFlags := 0, nameIndex := 29, descriptorIndex := 42, attributes := #[] }, { accessFlags := 0, nameIndex := 44, descriptorIndex := 45, attributes := #[] }] 32 2 #[] #[{ accessFlags := 18, nameIndex := 11, descriptorIndex := 12, attributes := #[] }, { accessFlags := 18, nameIndex := 15, descriptorIndex := 12, attributes := #[] }, { accessFlags := 18, nameIndex := 18, descriptorIndex := 19, attributes := #[] }, { accessFlags := 18, nameIndex := 22, descriptorIndex := 19, attributes := #[] }, { accessFlags := 18, nameIndex := 29, descriptorIndex := 30, attributes := #[] }, { accessFlags := 18, nameIndex := 35, descriptorIndex := 36, attributes := #[] }])
  fields := #[{ name := "word", type := (.array .int), accessFlags := 18, slot := 0, constantValue := 0 }, { name := "shift", type := (.array .int), accessFlags := 18, slot := 1, constantValue := 0 }, { name := "mask", type := (.array .long), accessFlags := 18, slot := 2, constantValue := 0 }, { name := "others", type := (.array .long), accessFlags := 18, slot := 3, constantValue := 0 }, { name := "words", type := .int, accessFlags := 18, slot := 4, constantValue := 0 }, { name := "narrow", type := .boolean, accessFlags := 18, slot := 5, constantValue := 0 }]
  methods := #[k2m0, k2m1, k2m2]
  instanceTypes := #[(.array .int), (.array .int), (.array .long), (.array .long), .int, .boolean]
  staticTypes := #[]
  resolved := Array.replicate 55 none
  statics := none }

def pool3 : Array CpInfo := pool [(1, u "java/lang/Cloneable"), (0, .class_ 1), (0, u "java/lang/Object"), (0, .class_ 3)] 3

/-- java/lang/Cloneable -/
def k3 : Class := { plain "java/lang/Cloneable" (some 0) with
  accessFlags := 1537
  interfaces := #[]
  cf := some (fileOf pool3 2 #[] #[] 1537 4 #[] #[])
  fields := #[]
  methods := #[]
  instanceTypes := #[]
  staticTypes := #[]
  resolved := Array.replicate 8 none
  statics := none }

def pool4 : Array CpInfo := pool [(1, u "java/io/Serializable"), (0, .class_ 1), (0, u "java/lang/Object"), (0, .class_ 3)] 3

/-- java/io/Serializable -/
def k4 : Class := { plain "java/io/Serializable" (some 0) with
  accessFlags := 1537
  interfaces := #[]
  cf := some (fileOf pool4 2 #[] #[] 1537 4 #[] #[])
  fields := #[]
  methods := #[]
  instanceTypes := #[]
  staticTypes := #[]
  resolved := Array.replicate 8 none
  statics := none }

/-- the primitive byte -/
def k5 : Class := { plain "byte" none with kind := .primitive 'B', accessFlags := 0x411 }
/-- [B -/
def k6 : Class := { plain "[B" (some 0) with kind := .array 5 .byte, interfaces := #[3, 4], accessFlags := 1041 }

/-- the primitive int -/
def k7 : Class := { plain "int" none with kind := .primitive 'I', accessFlags := 0x411 }
/-- [I -/
def k8 : Class := { plain "[I" (some 0) with kind := .array 7 .int, interfaces := #[3, 4], accessFlags := 1041 }

/-- the primitive long -/
def k9 : Class := { plain "long" none with kind := .primitive 'J', accessFlags := 0x411 }
/-- [J -/
def k10 : Class := { plain "[J" (some 0) with kind := .array 9 .long, interfaces := #[3, 4], accessFlags := 1041 }

def heap : Heap := #[]
def classes : Array Class := #[k0, k1, k2, k3, k4, k5, k6, k7, k8, k9, k10]
def interned : List (Array UInt16 × Addr) := []
def slotsUsed : Nat := 0
def theMethod : MethodId := ⟨1, 1⟩
def args0 : Array Value := #[.int 5, .int 6, .int 7, .int 8, .int 9, .int 10]
def aboutOver (below : List Frame) : State where
  vm := { classes := classes, interned := interned.toArray }
  heap := heap
  slotsUsed := slotsUsed
  threads := #[{ frames := .invoking theMethod args0 :: below }]
def below0 : List Frame := [.native { method := ⟨0, 0⟩, args := #[] }]
def about1 : State := aboutOver below0
def p0 : Program := .bare "" "" ""
def e0 : Env := launch0.env 0 0 0
theorem w_frames : about1.frames = Frame.invoking theMethod args0 :: below0 := rfl
set_option maxRecDepth 65536 in
theorem w_args : argsFit about1.vm theMethod args0 = true := by decide +kernel
set_option maxRecDepth 65536 in
theorem w_heap : heapFits about1 = true := by decide +kernel
set_option maxRecDepth 65536 in
theorem w_runnable : about1.curStatus? = some .runnable := by decide +kernel
set_option maxRecDepth 65536 in
theorem w_alone : about1.alone = true := by decide +kernel
set_option maxRecDepth 65536 in
theorem w_named : about1.methodNamed? x = some theMethod := by decide +kernel
set_option maxRecDepth 65536 in
theorem w_hears : about1.hears theMethod below0 = true := by decide +kernel
set_option maxRecDepth 65536 in
theorem w_ripe : about1.ripe theMethod args0 below0 = true := by decide +kernel
theorem w_running : about1.status = .running := rfl
set_option maxRecDepth 65536 in
theorem w_room : about1.hasRoom e0.platform room_1 = true :=
  launch0.hasRoom_least _ room_1 (by decide +kernel) (by decide +kernel) (by decide +kernel) (by decide +kernel) (by decide +kernel) (by decide +kernel)
theorem allAtoms_all (ts : List Jvm.Cond) (a : Array Jvm.Value) (st : Jvm.State) : (allAtoms ts).before a st = ts.all (fun c => c.before a st) := by
  induction ts with
  | nil => rfl
  | cons c t ih =>
    show (Jvm.Cond.and c (allAtoms t)).before a st = _
    rw [Jvm.Cond.before_and, ih, List.all_cons]
def words1 : List Jvm.Cond := Jvm.Cond.code x code maxLocals ret :: tables_1
/-- a 'code' word, met by the world's own term for the bytes: nothing is compared byte by byte -/
theorem code_word {y : MethodName} {bytes : ByteArray} {mx : Nat} {rt : Option FieldType} {a : Array Value} {s : State} {m : MethodId} {meth : Method} {c : Code} (h1 : s.methodNamed? y = some m) (h2 : s.vm.method? m = some meth) (h3 : meth.code = some c) (h4 : c.code = bytes)
    (h5 : (c.maxLocals == mx && c.exceptionTable.isEmpty && decide (c.maxStack ≤ mostOperands) && decide (meth.sig.returnType = rt) && !meth.locks && decide (parseMethodDescriptor y.desc = some meth.sig)) = true) : (Jvm.Cond.code y bytes mx rt).before a s = true := by
  simp only [Bool.and_eq_true, beq_iff_eq, Bool.not_eq_true', decide_eq_true_eq] at h5
  obtain ⟨⟨⟨⟨⟨g1, g2⟩, g3⟩, g4⟩, g5⟩, g6⟩ := h5
  simp [Cond.before, Cond.holds, Cond.value, h1, h2, h3, h4, g1, g2, g3, g4, g5, g6]
def isCode : Jvm.Cond → Bool
  | .code _ _ _ _ => true
  | _ => false
theorem all_split {L : List Jvm.Cond} {P : Jvm.Cond → Bool} (h1 : L.all (fun c => isCode c || P c) = true) (h2 : ∀ c ∈ L.filter isCode, P c = true) : L.all P = true := by
  refine List.all_eq_true.mpr fun c hc => ?_
  have h := List.all_eq_true.mp h1 c hc
  rcases Bool.eq_false_or_eq_true (isCode c) with hi | hi
  · exact h2 c (List.mem_filter.mpr ⟨hc, hi⟩)
  · simpa [hi] using h
set_option maxRecDepth 65536 in
theorem w_c0 : (Jvm.Cond.code x code maxLocals ret).before args0 about1 = true := code_word (m := ⟨1, 1⟩) (meth := k1m1) (c := k1c1) (by decide +kernel) rfl rfl rfl (by decide +kernel)
set_option maxRecDepth 65536 in
theorem w_c1 : (Jvm.Cond.code ({ cls := "com/example/garantia/garantia/engine/StateLayoutPackPinLaw", name := "width", desc := "(II)I" } : Jvm.MethodName) method_3_code (2 : Nat) (Option.some Jvm.ClassFile.FieldType.int)).before args0 about1 = true := code_word (m := ⟨1, 2⟩) (meth := k1m2) (c := k1c2) (by decide +kernel) rfl rfl rfl (by decide +kernel)
set_option maxRecDepth 65536 in
theorem w_c2 : (Jvm.Cond.code ({ cls := "com/example/garantia/garantia/engine/StateLayoutPackPinLaw", name := "low", desc := "(I)I" } : Jvm.MethodName) method_4_code (1 : Nat) (Option.some Jvm.ClassFile.FieldType.int)).before args0 about1 = true := code_word (m := ⟨1, 3⟩) (meth := k1m3) (c := k1c3) (by decide +kernel) rfl rfl rfl (by decide +kernel)
set_option maxRecDepth 65536 in
theorem w_c3 : (Jvm.Cond.code ({ cls := "com/example/garantia/garantia/engine/StateLayoutPackPinLaw", name := "place", desc := "([J[III)V" } : Jvm.MethodName) method_5_code (4 : Nat) (Option.none : Option Jvm.ClassFile.FieldType)).before args0 about1 = true := code_word (m := ⟨1, 4⟩) (meth := k1m4) (c := k1c4) (by decide +kernel) rfl rfl rfl (by decide +kernel)
set_option maxRecDepth 65536 in
theorem w_c4 : (Jvm.Cond.code ({ cls := "com/example/garantia/garantia/engine/StateLayout", name := "<init>", desc := "([I)V" } : Jvm.MethodName) prog_46_method_1_code (5 : Nat) (Option.none : Option Jvm.ClassFile.FieldType)).before args0 about1 = true := code_word (m := ⟨2, 0⟩) (meth := k2m0) (c := k2c0) (by decide +kernel) rfl rfl rfl (by decide +kernel)
set_option maxRecDepth 65536 in
theorem w_c5 : (Jvm.Cond.code ({ cls := "java/lang/Object", name := "<init>", desc := "()V" } : Jvm.MethodName) object_method_1_code (1 : Nat) (Option.none : Option Jvm.ClassFile.FieldType)).before args0 about1 = true := code_word (m := ⟨0, 0⟩) (meth := k0m0) (c := k0c0) (by decide +kernel) rfl rfl rfl (by decide +kernel)
set_option maxRecDepth 65536 in
theorem w_c6 : (Jvm.Cond.code ({ cls := "com/example/garantia/garantia/engine/StateLayout", name := "pack", desc := "([I[JI)V" } : Jvm.MethodName) prog_46_method_4_code (8 : Nat) (Option.none : Option Jvm.ClassFile.FieldType)).before args0 about1 = true := code_word (m := ⟨2, 2⟩) (meth := k2m2) (c := k2c2) (by decide +kernel) rfl rfl rfl (by decide +kernel)
set_option maxRecDepth 65536 in
theorem w_c7 : (Jvm.Cond.code ({ cls := "com/example/garantia/garantia/engine/StateLayout", name := "words", desc := "()I" } : Jvm.MethodName) prog_46_method_2_code (1 : Nat) (Option.some Jvm.ClassFile.FieldType.int)).before args0 about1 = true := code_word (m := ⟨2, 1⟩) (meth := k2m1) (c := k2c1) (by decide +kernel) rfl rfl rfl (by decide +kernel)
set_option maxRecDepth 65536 in
theorem w_c8 : (Jvm.Cond.code ({ cls := "com/example/garantia/garantia/engine/StateLayoutPackPinLaw", name := "cell", desc := "([JIII[JJ)Z" } : Jvm.MethodName) method_6_code (7 : Nat) (Option.some Jvm.ClassFile.FieldType.boolean)).before args0 about1 = true := code_word (m := ⟨1, 5⟩) (meth := k1m5) (c := k1c5) (by decide +kernel) rfl rfl rfl (by decide +kernel)
def codes1 : List Jvm.Cond := [Jvm.Cond.code x code maxLocals ret, Jvm.Cond.code ({ cls := "com/example/garantia/garantia/engine/StateLayoutPackPinLaw", name := "width", desc := "(II)I" } : Jvm.MethodName) method_3_code (2 : Nat) (Option.some Jvm.ClassFile.FieldType.int), Jvm.Cond.code ({ cls := "com/example/garantia/garantia/engine/StateLayoutPackPinLaw", name := "low", desc := "(I)I" } : Jvm.MethodName) method_4_code (1 : Nat) (Option.some Jvm.ClassFile.FieldType.int), Jvm.Cond.code ({ cls := "com/example/garantia/garantia/engine/StateLayoutPackPinLaw", name := "place", desc := "([J[III)V" } : Jvm.MethodName) method_5_code (4 : Nat) (Option.none : Option Jvm.ClassFile.FieldType), Jvm.Cond.code ({ cls := "com/example/garantia/garantia/engine/StateLayout", name := "<init>", desc := "([I)V" } : Jvm.MethodName) prog_46_method_1_code (5 : Nat) (Option.none : Option Jvm.ClassFile.FieldType), Jvm.Cond.code ({ cls := "java/lang/Object", name := "<init>", desc := "()V" } : Jvm.MethodName) object_method_1_code (1 : Nat) (Option.none : Option Jvm.ClassFile.FieldType), Jvm.Cond.code ({ cls := "com/example/garantia/garantia/engine/StateLayout", name := "pack", desc := "([I[JI)V" } : Jvm.MethodName) prog_46_method_4_code (8 : Nat) (Option.none : Option Jvm.ClassFile.FieldType), Jvm.Cond.code ({ cls := "com/example/garantia/garantia/engine/StateLayout", name := "words", desc := "()I" } : Jvm.MethodName) prog_46_method_2_code (1 : Nat) (Option.some Jvm.ClassFile.FieldType.int), Jvm.Cond.code ({ cls := "com/example/garantia/garantia/engine/StateLayoutPackPinLaw", name := "cell", desc := "([JIII[JJ)Z" } : Jvm.MethodName) method_6_code (7 : Nat) (Option.some Jvm.ClassFile.FieldType.boolean)]
set_option maxRecDepth 65536 in
theorem codes_eq : words1.filter isCode = codes1 := rfl
theorem w_codes : ∀ c ∈ words1.filter isCode, c.before args0 about1 = true := by
  rw [codes_eq]
  intro c hc
  simp only [codes1, List.mem_cons, List.not_mem_nil, or_false] at hc
  rcases hc with rfl | rfl | rfl | rfl | rfl | rfl | rfl | rfl | rfl
  · exact w_c0
  · exact w_c1
  · exact w_c2
  · exact w_c3
  · exact w_c4
  · exact w_c5
  · exact w_c6
  · exact w_c7
  · exact w_c8
set_option maxRecDepth 65536 in
theorem w_t1 : (words1.take 24).all (fun c => isCode c || c.before args0 about1) = true := by decide +kernel
set_option maxRecDepth 65536 in
theorem w_t2 : ((words1.drop 24).take 24).all (fun c => isCode c || c.before args0 about1) = true := by decide +kernel
set_option maxRecDepth 65536 in
theorem w_t3 : ((words1.drop 24).drop 24).all (fun c => isCode c || c.before args0 about1) = true := by decide +kernel
theorem w_tables : (allAtoms (Jvm.Cond.code x code maxLocals ret :: tables_1)).before args0 about1 = true := by
  rw [allAtoms_all]
  show words1.all (fun c => c.before args0 about1) = true
  refine all_split ?_ w_codes
  rw [← List.take_append_drop 24 words1, List.all_append, w_t1, ← List.take_append_drop 24 (words1.drop 24), List.all_append, w_t2, w_t3]
  rfl
set_option maxRecDepth 65536 in
theorem w_case : (Jvm.Cond.and given_1 narrow_1).before args0 about1 = true := by decide +kernel
theorem w_applies : (headSpec (Jvm.Cond.code x code maxLocals ret :: tables_1) room_1).applies x e0.platform about1 = true :=
  (Spec.applies_iff w_frames).mpr ⟨w_running, w_runnable, w_alone, w_named, w_hears, w_ripe, w_room, w_tables⟩
theorem atStart : AtStart classFile x code maxLocals ret World_1 tables_1 room_1 Calls_1 rest_1 Pre_1 launch0 p0 e0 about1 theMethod args0 below0 :=
  ⟨lists_1, trivial, launch0.admits_env _ _ _, launch0.least_env, fairChoices_fair.cas, fairChoices_fair.clock, w_frames, w_args, w_heap, w_applies, trivial, trivial, w_case⟩
end start1
theorem witness_1 : WitnessClaimed_1 := ⟨start1.p0, start1.e0, start1.about1, start1.theMethod, start1.args0, start1.below0, start1.atStart⟩
end Jvm.Pilot.@@N@@
