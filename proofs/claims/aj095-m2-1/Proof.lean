import JvmDerived
import JvmDerived.Pilot.@@N@@Statement
import JvmDerived.Pilot.@@N@@Code
set_option linter.unusedVariables false
set_option linter.unusedSimpArgs false
namespace Jvm.RoadKit
open Sem ClassFile Op Lib Jvm.Stand Jvm.Free Jvm.LawKit
abbrev vI (x : Int32) : Slot := .val (.int x)
abbrev vJ (x : Int64) : Slot := .val (.long x)
abbrev vR (a : Addr) : Slot := .val (.ref a)
/-- from S0 the run comes to T with g on top -/
def Go (tb : Tables) (e : Env) (below : List Frame) (S0 T : State) (g : JFrame) : Prop := ∀ t, Steps tb e below (T.setTop g) t → Steps tb e below S0 t
theorem Go.fin {tb : Tables} {e : Env} {below : List Frame} {S0 S T t : State} {g : JFrame} (h : Go tb e below S0 T g) (q : S0 = S) (k : Steps tb e below (T.setTop g) t) : Steps tb e below S t := q ▸ h t k
section New
variable {p : Program} {l : Launch} {e : Env} {R : Room} {s : State} {m : MethodId} {args : Array Value} {below : List Frame} {meth : Method} {c : Code} {T : State} {locs : List Loc} {cells slots : Nat}
theorem retI (X : Stand p l e R s m args below meth c T locs cells slots) (hx : p.tables.exec = Jvm.exec) {pc : Nat} {Ls : Array Slot} {z : Int32} {rest : List Value} (hret : meth.sig.returnType = some .int) (hd : decode c.code pc = .ok (.ireturn, 1)) {fs : List Frame}
    (hl : ∀ (f : JFrame) (acts : List Action), f.method = m → f.locked = none → f.entered = [] → (doReturn e (T.setTop f) acts (some (.int z))).1 = T.setFrames fs) : Steps p.tables e below (T.setTop (mkF m pc Ls (.int z :: rest))) (T.setFrames fs) := by
  have hm' : T.vm.method? m = some meth := X.method'
  have hn : narrow .int (.int z) = .int z := rfl
  show Steps p.tables e below (T.setTop { method := m, pc := pc, locals := Ls, stack := _ :: rest, locked := none }) _
  jvm_step X.here [X.here.top, hx, hd, hm', hret, hn]
  first | (intro acts; rw [hl _ acts rfl rfl rfl]) | rw [hl _ _ rfl rfl rfl]
  exact Steps.refl _
theorem retJ (X : Stand p l e R s m args below meth c T locs cells slots) (hx : p.tables.exec = Jvm.exec) {pc : Nat} {Ls : Array Slot} {z : Int64} {rest : List Value} (hret : meth.sig.returnType = some .long) (hd : decode c.code pc = .ok (.lreturn, 1)) {fs : List Frame}
    (hl : ∀ (f : JFrame) (acts : List Action), f.method = m → f.locked = none → f.entered = [] → (doReturn e (T.setTop f) acts (some (.long z))).1 = T.setFrames fs) : Steps p.tables e below (T.setTop (mkF m pc Ls (.long z :: rest))) (T.setFrames fs) := by
  have hm' : T.vm.method? m = some meth := X.method'
  have hn : narrow .long (.long z) = .long z := rfl
  show Steps p.tables e below (T.setTop { method := m, pc := pc, locals := Ls, stack := _ :: rest, locked := none }) _
  jvm_step X.here [X.here.top, hx, hd, hm', hret, hn]
  first | (intro acts; rw [hl _ acts rfl rfl rfl]) | rw [hl _ _ rfl rfl rfl]
  exact Steps.refl _
end New
end Jvm.RoadKit
namespace Jvm.Pilot.@@N@@
open Jvm Jvm.ClassFile Sem Op Lib Jvm.Free Jvm.Stand Jvm.LawKit Jvm.RoadKit Bundle Jvm.Pilot.@@N@@.Jvm.D
def own_put (q j : Int32) (w x : Int32) : Int32 := if q = j then w else x
def own_putL (q j : Int32) (w x : Int64) : Int64 := if q = j then w else x
theorem own_getI (xs : List Int32) (k : Nat) : (xs.map Value.int).getD k (.int (0 : Int32)) = .int (xs.getD k 0) := by
  induction xs generalizing k with
  | nil => rfl
  | cons a t ih => cases k with
    | zero => rfl
    | succ n => exact ih n
theorem own_getJ (xs : List Int64) (k : Nat) : (xs.map Value.long).getD k (.long (0 : Int64)) = .long (xs.getD k 0) := by
  induction xs generalizing k with
  | nil => rfl
  | cons a t ih => cases k with
    | zero => rfl
    | succ n => exact ih n
def own_cur (c u w : Int32) : Int32 := if (64 : Int32) < (u + w) then c + (1 : Int32) else c
def own_u0 (u w : Int32) : Int32 := if (64 : Int32) < (u + w) then (0 : Int32) else u
def own_mask (w : Int32) : Int64 := ((1 : Int64) <<< (w &&& 0x3f).toInt64) - (1 : Int64)
def own_oth (w u : Int32) : Int64 := ((((1 : Int64) <<< (w &&& 0x3f).toInt64) - (1 : Int64)) <<< (u &&& 0x3f).toInt64) ^^^ (-1 : Int64)
theorem own_no1 {w : Int32} (h : 0 ≤ w.toInt ∧ w.toInt ≤ 31) : ¬ ((64 : Int32) < ((0 : Int32) + w)) := by
  have a := c_iadd (0 : Int32) w
  have b := rng32 ((0 : Int32) + w)
  simp only [Int32.lt_iff_toInt_lt, Int32.reduceToInt] at *; omega
theorem own_no2 {w v : Int32} (h : 0 ≤ w.toInt ∧ w.toInt ≤ 31) (h2 : 0 ≤ v.toInt ∧ v.toInt ≤ 31) : ¬ ((64 : Int32) < (((0 : Int32) + w) + v)) := by
  have a := c_iadd (0 : Int32) w
  have b := rng32 ((0 : Int32) + w)
  have a2 := c_iadd ((0 : Int32) + w) v
  have b2 := rng32 (((0 : Int32) + w) + v)
  simp only [Int32.lt_iff_toInt_lt, Int32.reduceToInt] at *; omega
theorem own_setJ4 {q : Int32} {w x0 x1 x2 x3 : Int64} (hq : ¬ q < 0 ∧ q < (4 : Int32)) : q.toNatClampNeg < 4 ∧ [Value.long x0, Value.long x1, Value.long x2, Value.long x3].set q.toNatClampNeg (Value.long w) = [Value.long (own_putL q (0 : Int32) w x0), Value.long (own_putL q (1 : Int32) w x1), Value.long (own_putL q (2 : Int32) w x2), Value.long (own_putL q (3 : Int32) w x3)] := by
  have h : q = (0 : Int32) ∨ q = (1 : Int32) ∨ q = (2 : Int32) ∨ q = (3 : Int32) := by
    simp only [Int32.lt_iff_toInt_lt, ← Int32.toInt_inj, Int32.reduceToInt] at *
    omega
  rcases h with rfl | rfl | rfl | rfl <;> exact ⟨by decide, rfl⟩
theorem own_st {c u w c' u' : Int32} (hw : 0 ≤ w.toInt ∧ w.toInt ≤ 31) (hu : 0 ≤ u.toInt ∧ u.toInt ≤ 64) (h : c' = own_cur c u w ∧ u' = own_u0 u w) :
    (u.toInt + w.toInt ≤ 64 ∧ c' = c ∧ u' = u) ∨ (64 < u.toInt + w.toInt ∧ c' = c + (1 : Int32) ∧ u' = (0 : Int32)) := by
  obtain ⟨rfl, rfl⟩ := h
  have a := c_iadd u w
  have b := rng32 (u + w)
  unfold own_cur own_u0
  by_cases q : (64 : Int32) < (u + w)
  · refine Or.inr ⟨?_, if_pos q, if_pos q⟩
    simp only [Int32.lt_iff_toInt_lt, Int32.reduceToInt] at q; omega
  · refine Or.inl ⟨?_, if_neg q, if_neg q⟩
    simp only [Int32.lt_iff_toInt_lt, Int32.reduceToInt] at q; omega
theorem own_sum {u w : Int32} (hw : 0 ≤ w.toInt ∧ w.toInt ≤ 31) (hu : 0 ≤ u.toInt ∧ u.toInt ≤ 64) : (u + w).toInt = u.toInt + w.toInt := by
  have a := c_iadd u w
  have b := rng32 (u + w)
  omega
theorem own_two {w0 w1 : Int32} (h0 : 0 ≤ w0.toInt ∧ w0.toInt ≤ 31) (h1 : 0 ≤ w1.toInt ∧ w1.toInt ≤ 31) : (((0 : Int32) + w0) + w1).toInt = w0.toInt + w1.toInt := by
  have a := c_iadd (0 : Int32) w0
  have b := rng32 ((0 : Int32) + w0)
  have a2 := c_iadd ((0 : Int32) + w0) w1
  have b2 := rng32 (((0 : Int32) + w0) + w1)
  have t : (0 : Int32).toInt = 0 := rfl
  omega
theorem own_pat4 {w0 w1 w2 w3 c2 u2 c3 u3 : Int32} (h0 : 0 ≤ w0.toInt ∧ w0.toInt ≤ 31) (h1 : 0 ≤ w1.toInt ∧ w1.toInt ≤ 31) (h2 : 0 ≤ w2.toInt ∧ w2.toInt ≤ 31) (h3 : 0 ≤ w3.toInt ∧ w3.toInt ≤ 31)
    (e2 : c2 = own_cur (0 : Int32) (((0 : Int32) + w0) + w1) w2 ∧ u2 = own_u0 (((0 : Int32) + w0) + w1) w2) (e3 : c3 = own_cur c2 (u2 + w2) w3 ∧ u3 = own_u0 (u2 + w2) w3) :
    (c2 = (0 : Int32) ∧ c3 = (0 : Int32) ∧ 0 ≤ u3.toInt ∧ u3.toInt + w3.toInt ≤ 64) ∨ (c2 = (0 : Int32) ∧ c3 = (1 : Int32) ∧ u3 = (0 : Int32)) ∨ (c2 = (1 : Int32) ∧ c3 = (1 : Int32) ∧ 0 ≤ u3.toInt ∧ u3.toInt + w3.toInt ≤ 64) := by
  have t := own_two h0 h1
  rcases own_st h2 (by omega) e2 with ⟨a, rfl, rfl⟩ | ⟨a, rfl, rfl⟩
  · have s2 := own_sum h2 (u := ((0 : Int32) + w0) + w1) (by omega)
    rcases own_st h3 (by omega) e3 with ⟨b, rfl, rfl⟩ | ⟨b, rfl, rfl⟩
    · exact Or.inl ⟨rfl, rfl, by omega, by omega⟩
    · exact Or.inr (Or.inl ⟨rfl, rfl, rfl⟩)
  · have s2 := own_sum h2 (u := (0 : Int32)) (by decide)
    have z : (0 : Int32).toInt = 0 := rfl
    rcases own_st h3 (by omega) e3 with ⟨b, rfl, rfl⟩ | ⟨b, rfl, rfl⟩
    · exact Or.inr (Or.inr ⟨rfl, rfl, by omega, by omega⟩)
    · exfalso; omega
theorem own_n64 {k : Int32} (h : 0 ≤ k.toInt ∧ k.toInt < 64) : ∃ n : Fin 64, k = Int32.ofNat n.val ∧ k.toInt = n.val := by
  refine ⟨⟨k.toInt.toNat, by omega⟩, ?_, ?_⟩
  · apply Int32.toInt_inj.mp; rw [Int32.toInt_ofNat_of_lt (by show k.toInt.toNat < _; omega)]; show _ = ((k.toInt.toNat : Nat) : Int); omega
  · show _ = ((k.toInt.toNat : Nat) : Int); omega
theorem own_t1 : ∀ n : Fin 64, (Int32.ofNat n.val &&& 0x3f).toInt64.toBitVec.smod 64 = BitVec.ofNat 64 n.val := by decide +kernel
theorem own_t2 : ∀ n : Fin 64, ((Int32.ofNat n.val &&& 0x3f).toInt64.toUInt64 % 64).toBitVec = BitVec.ofNat 64 n.val := by decide +kernel
theorem own_t3 : ∀ n : Fin 32, (((1 : Int64) <<< (Int32.ofNat n.val &&& 0x3f).toInt64) - (1 : Int64)).toBitVec = BitVec.ofNat 64 (2 ^ n.val - 1) := by decide +kernel
theorem own_shl (x : Int64) {k : Int32} {n : Nat} (h : k.toInt = n) (hn : n < 64) : (x <<< (k &&& 0x3f).toInt64).toBitVec = x.toBitVec <<< n := by
  obtain ⟨m, rfl, e⟩ := own_n64 (k := k) (by omega)
  have : n = m.val := by omega
  subst this
  show x.toBitVec <<< ((Int32.ofNat m.val &&& 0x3f).toInt64.toBitVec.smod 64) = _
  rw [own_t1 m, BitVec.shiftLeft_eq', BitVec.toNat_ofNat, Nat.mod_eq_of_lt (by omega)]
theorem own_shr (x : Int64) {k : Int32} {n : Nat} (h : k.toInt = n) (hn : n < 64) : ((x.toUInt64 >>> (k &&& 0x3f).toInt64.toUInt64).toInt64).toBitVec = x.toBitVec >>> n := by
  obtain ⟨m, rfl, e⟩ := own_n64 (k := k) (by omega)
  have : n = m.val := by omega
  subst this
  show x.toBitVec >>> ((Int32.ofNat m.val &&& 0x3f).toInt64.toUInt64 % 64).toBitVec = _
  rw [own_t2 m, BitVec.ushiftRight_eq', BitVec.toNat_ofNat, Nat.mod_eq_of_lt (by omega)]
theorem own_msk {k : Int32} {n : Nat} (h : k.toInt = n) (hn : n < 32) : (((1 : Int64) <<< (k &&& 0x3f).toInt64) - (1 : Int64)).toBitVec = BitVec.ofNat 64 (2 ^ n - 1) := by
  obtain ⟨m, rfl, e⟩ := own_n64 (k := k) (by omega)
  have : n = m.val := by omega
  subst this
  exact own_t3 ⟨m.val, hn⟩
theorem own_mbit (n i : Nat) (hn : n ≤ 64) : (BitVec.ofNat 64 (2 ^ n - 1)).getLsbD i = decide (i < n) := by
  rw [BitVec.getLsbD_ofNat, Nat.testBit_two_pow_sub_one]
  by_cases h : i < n
  · simp [h]; omega
  · simp [h]
theorem own_ext (W : BitVec 64) {s b : Nat} (h : s + b ≤ 64) (hb : 0 < b) : (W >>> s) &&& BitVec.ofNat 64 (2 ^ b - 1) = (W <<< (64 - s - b)) >>> (64 - b) := by
  apply BitVec.eq_of_getLsbD_eq
  intro i hi
  rw [BitVec.getLsbD_and, own_mbit b i (by omega), BitVec.getLsbD_ushiftRight, BitVec.getLsbD_ushiftRight, BitVec.getLsbD_shiftLeft]
  by_cases q : i < b
  · have e1 : decide (64 - b + i < 64) = true := decide_eq_true (by omega)
    have e2 : decide (64 - b + i < 64 - s - b) = false := decide_eq_false (by omega)
    have e3 : 64 - b + i - (64 - s - b) = s + i := by omega
    rw [e1, e2, e3]; simp [q]
  · have e1 : decide (64 - b + i < 64) = false := decide_eq_false (by omega)
    rw [e1]; simp [q]

def own_pick (q0 : Int64) (q1 : Int64) (p2 : Int32) : Int64 := if p2 = (0 : Int32) then (q0) else (q1)
theorem ef_4 (m : MethodId) (x0 : Int64) (x1 : Int64) (x2 : Int32) : entryFrame m #[(.long x0), (.long x1), (.int x2)] 5 = mkF m 0 #[.val (.long x0), .second, .val (.long x1), .second, .val (.int x2)] [] := by first | (simp [entryFrame, mkF, argsToLocals, Value.category]; done) | rfl
theorem pn_0 : plainName "com/example/garantia/garantia/engine/StateLayoutUnpackPinLaw" = true := by first | (simp [plainName, overriddenIn]; done) | decide +kernel
theorem d4_0 : decode method_3_code 0 = .ok (.iload 4, 2) := by decide +kernel
theorem d4_2 : decode method_3_code 2 = .ok (.ifCond .ne 5, 3) := by decide +kernel
theorem d4_5 : decode method_3_code 5 = .ok (.lload_n 0, 1) := by decide +kernel
theorem d4_6 : decode method_3_code 6 = .ok (.lreturn, 1) := by decide +kernel
theorem d4_7 : decode method_3_code 7 = .ok (.lload_n 2, 1) := by decide +kernel
theorem d4_8 : decode method_3_code 8 = .ok (.lreturn, 1) := by decide +kernel
def Q4 (Z : State) (q0 : Int64) (q1 : Int64) (p2 : Int32) (h0 : Heap) (n0 : Nat) (v : Option Value) (h : Heap) (L : List Loc) : Prop := v = some (.long (own_pick q0 q1 p2)) ∧ Fr n0 L ∧ h = h0
set_option maxRecDepth 65536 in
set_option maxHeartbeats 40000000 in
theorem rm4 (l : Launch) (Z : State) (A0 : Array Value) (hw : ∀ d ∈ tables_1, d.before A0 Z = true) (ws : List Jvm.Cond) (q0 : Int64) (q1 : Int64) (p2 : Int32)  (h0 : Heap) (n0 : Nat) (Z0 : n0 ≤ h0.size)  :
    MetFree l (⟨"com/example/garantia/garantia/engine/StateLayoutUnpackPinLaw", "pick", "(JJI)J"⟩ : MethodName) (head1 (Jvm.Cond.code (⟨"com/example/garantia/garantia/engine/StateLayoutUnpackPinLaw", "pick", "(JJI)J"⟩ : MethodName) method_3_code 5 (some .long) :: ws) ({ frames := 0, cells := 0, slots := 0, locals := 0 } : Room)) (fun a U => a = #[(.long q0), (.long q1), (.int p2)] ∧ Z.Warmed39 U.vm ∧ U.heap = h0) (fun _ _ _ _ _ => True) (fun _ U o U' => ∃ v L, o = .returned v ∧ Q4 Z q0 q1 p2 h0 n0 v U'.heap L ∧ FrameEnd U o U' L ({ frames := 0, cells := 0, slots := 0, locals := 0 } : Room).cells ({ frames := 0, cells := 0, slots := 0, locals := 0 } : Room).slots) := by
  refine MetFree.of_bodySF (plainFor_of_name pn_0) hisR ?_
  intro p e s m args below meth c s₁ Bd hml0 hP hK
  obtain ⟨rfl, hZ, hh⟩ := hP
  have hx := Bd.exec
  have hby := Bd.bytes
  have hml : c.maxLocals = 5 := hml0
  have hown : s.vm.findClass "com/example/garantia/garantia/engine/StateLayoutUnpackPinLaw" = some m.cls := findClass_of_methodNamed Bd.named
  have hnm := (name_of_methodNamed Bd.named Bd.method).1
  have X0 : Stand p l e ({ frames := 0, cells := 0, slots := 0, locals := 0 } : Room) s m #[(.long q0), (.long q1), (.int p2)] below meth c s₁ [] 0 0 := Stand.of_body Bd
  have e0 : s₁.heap = h0 := by rw [← hh, Bd.state]; rfl
  have N0 := Fr.nil n0
  obtain ⟨S0, hS0⟩ : ∃ z, z = s₁.setTop (entryFrame m #[(.long q0), (.long q1), (.int p2)] 5) := ⟨_, rfl⟩
  have pre0 : Go p.tables e below S0 s₁ (mkF m 0 #[vJ q0, .second, vJ q1, .second, vI p2] []) := fun t k => by rw [hS0]; exact castTop (ef_4 m q0 q1 p2) k
  have pre1 : Go p.tables e below S0 s₁ (mkF m 2 #[vJ q0, .second, vJ q1, .second, vI p2] [(.int p2)]) := fun t k => pre0 t (by
    refine XS.iload X0.here hx rfl (hb hby d4_0) rfl ?_
    exact k)
  by_cases c2_2 : p2 = (0 : Int32)
  · skip
    have pre3 : Go p.tables e below S0 s₁ (mkF m 6 #[vJ q0, .second, vJ q1, .second, vI p2] [(.long q0)]) := fun t k => pre1 t (by
      refine XS.ifNo X0.here hx rfl (hb hby d4_2) rfl ((if0 _ _).trans (teq c2_2).2) ?_
      refine XS.lloadN X0.here hx rfl (hb hby d4_5) rfl ?_
      exact k)
    obtain ⟨fs, hr, hrun, hended, hW, hsame⟩ := X0.leave (v := some (.long q0)) (fun h => by rw [Bd.returns] at h; cases h)
    exact ⟨_, _, pre3.fin hS0 (retJ X0 hx Bd.returns (hb hby d4_6) hr), hrun, hended, _, _, rfl, (by
      show Q4 Z q0 q1 p2 h0 n0 _ s₁.heap _
      rw [e0]
      exact ⟨congrArg (fun z => some (Value.long z)) (by simp [own_pick, c2_2]), N0, rfl⟩), ⟨_, rfl⟩, hW, hsame.mono (by decide) (by decide)⟩
  · skip
    have pre4 : Go p.tables e below S0 s₁ (mkF m 8 #[vJ q0, .second, vJ q1, .second, vI p2] [(.long q1)]) := fun t k => pre1 t (by
      refine XS.ifYes X0.here hx rfl (pc0 := 2) (pc' := 7) rfl (hb hby d4_2) rfl ((if0 _ _).trans (feq c2_2).2) (by decide) (by decide) ?_
      refine XS.lloadN X0.here hx rfl (hb hby d4_7) rfl ?_
      exact k)
    obtain ⟨fs, hr, hrun, hended, hW, hsame⟩ := X0.leave (v := some (.long q1)) (fun h => by rw [Bd.returns] at h; cases h)
    exact ⟨_, _, pre4.fin hS0 (retJ X0 hx Bd.returns (hb hby d4_8) hr), hrun, hended, _, _, rfl, (by
      show Q4 Z q0 q1 p2 h0 n0 _ s₁.heap _
      rw [e0]
      exact ⟨congrArg (fun z => some (Value.long z)) (by simp [own_pick, c2_2]), N0, rfl⟩), ⟨_, rfl⟩, hW, hsame.mono (by decide) (by decide)⟩
def own_ref (q0 : Int64) (p1 : Int32) (p2 : Int32) : Int32 := if p2 = (0 : Int32) then ((0 : Int32)) else (((((q0 <<< ((((64 : Int32) - p1) - p2) &&& 0x3f).toInt64).toUInt64 >>> (((64 : Int32) - p2) &&& 0x3f).toInt64.toUInt64).toInt64).toInt32))
theorem ef_5 (m : MethodId) (x0 : Int64) (x1 : Int32) (x2 : Int32) : entryFrame m #[(.long x0), (.int x1), (.int x2)] 4 = mkF m 0 #[.val (.long x0), .second, .val (.int x1), .val (.int x2)] [] := by first | (simp [entryFrame, mkF, argsToLocals, Value.category]; done) | rfl
theorem d5_0 : decode method_4_code 0 = .ok (.iload_n 3, 1) := by decide +kernel
theorem d5_1 : decode method_4_code 1 = .ok (.ifCond .ne 5, 3) := by decide +kernel
theorem d5_4 : decode method_4_code 4 = .ok (.iconst 0, 1) := by decide +kernel
theorem d5_5 : decode method_4_code 5 = .ok (.ireturn, 1) := by decide +kernel
theorem d5_6 : decode method_4_code 6 = .ok (.lload_n 0, 1) := by decide +kernel
theorem d5_7 : decode method_4_code 7 = .ok (.bipush 64, 2) := by decide +kernel
theorem d5_9 : decode method_4_code 9 = .ok (.iload_n 2, 1) := by decide +kernel
theorem d5_10 : decode method_4_code 10 = .ok (.isub, 1) := by decide +kernel
theorem d5_11 : decode method_4_code 11 = .ok (.iload_n 3, 1) := by decide +kernel
theorem d5_12 : decode method_4_code 12 = .ok (.isub, 1) := by decide +kernel
theorem d5_13 : decode method_4_code 13 = .ok (.lshl, 1) := by decide +kernel
theorem d5_14 : decode method_4_code 14 = .ok (.bipush 64, 2) := by decide +kernel
theorem d5_16 : decode method_4_code 16 = .ok (.iload_n 3, 1) := by decide +kernel
theorem d5_17 : decode method_4_code 17 = .ok (.isub, 1) := by decide +kernel
theorem d5_18 : decode method_4_code 18 = .ok (.lushr, 1) := by decide +kernel
theorem d5_19 : decode method_4_code 19 = .ok (.l2i, 1) := by decide +kernel
theorem d5_20 : decode method_4_code 20 = .ok (.ireturn, 1) := by decide +kernel
def Q5 (Z : State) (q0 : Int64) (p1 : Int32) (p2 : Int32) (h0 : Heap) (n0 : Nat) (v : Option Value) (h : Heap) (L : List Loc) : Prop := v = some (.int (own_ref q0 p1 p2)) ∧ Fr n0 L ∧ h = h0
set_option maxRecDepth 65536 in
set_option maxHeartbeats 40000000 in
theorem rm5 (l : Launch) (Z : State) (A0 : Array Value) (hw : ∀ d ∈ tables_1, d.before A0 Z = true) (ws : List Jvm.Cond) (q0 : Int64) (p1 : Int32) (p2 : Int32)  (h0 : Heap) (n0 : Nat) (Z0 : n0 ≤ h0.size)  :
    MetFree l (⟨"com/example/garantia/garantia/engine/StateLayoutUnpackPinLaw", "ref", "(JII)I"⟩ : MethodName) (head1 (Jvm.Cond.code (⟨"com/example/garantia/garantia/engine/StateLayoutUnpackPinLaw", "ref", "(JII)I"⟩ : MethodName) method_4_code 4 (some .int) :: ws) ({ frames := 0, cells := 0, slots := 0, locals := 0 } : Room)) (fun a U => a = #[(.long q0), (.int p1), (.int p2)] ∧ Z.Warmed39 U.vm ∧ U.heap = h0) (fun _ _ _ _ _ => True) (fun _ U o U' => ∃ v L, o = .returned v ∧ Q5 Z q0 p1 p2 h0 n0 v U'.heap L ∧ FrameEnd U o U' L ({ frames := 0, cells := 0, slots := 0, locals := 0 } : Room).cells ({ frames := 0, cells := 0, slots := 0, locals := 0 } : Room).slots) := by
  refine MetFree.of_bodySF (plainFor_of_name pn_0) hisR ?_
  intro p e s m args below meth c s₁ Bd hml0 hP hK
  obtain ⟨rfl, hZ, hh⟩ := hP
  have hx := Bd.exec
  have hby := Bd.bytes
  have hml : c.maxLocals = 4 := hml0
  have hown : s.vm.findClass "com/example/garantia/garantia/engine/StateLayoutUnpackPinLaw" = some m.cls := findClass_of_methodNamed Bd.named
  have hnm := (name_of_methodNamed Bd.named Bd.method).1
  have X0 : Stand p l e ({ frames := 0, cells := 0, slots := 0, locals := 0 } : Room) s m #[(.long q0), (.int p1), (.int p2)] below meth c s₁ [] 0 0 := Stand.of_body Bd
  have e0 : s₁.heap = h0 := by rw [← hh, Bd.state]; rfl
  have N0 := Fr.nil n0
  obtain ⟨S0, hS0⟩ : ∃ z, z = s₁.setTop (entryFrame m #[(.long q0), (.int p1), (.int p2)] 4) := ⟨_, rfl⟩
  have pre0 : Go p.tables e below S0 s₁ (mkF m 0 #[vJ q0, .second, vI p1, vI p2] []) := fun t k => by rw [hS0]; exact castTop (ef_5 m q0 p1 p2) k
  have pre1 : Go p.tables e below S0 s₁ (mkF m 1 #[vJ q0, .second, vI p1, vI p2] [(.int p2)]) := fun t k => pre0 t (by
    refine XS.iloadN X0.here hx rfl (hb hby d5_0) rfl ?_
    exact k)
  by_cases c1_2 : p2 = (0 : Int32)
  · skip
    have pre3 : Go p.tables e below S0 s₁ (mkF m 5 #[vJ q0, .second, vI p1, vI p2] [(.int (0 : Int32))]) := fun t k => pre1 t (by
      refine XS.ifNo X0.here hx rfl (hb hby d5_1) rfl ((if0 _ _).trans (teq c1_2).2) ?_
      refine XS.iconst X0.here hx rfl (hb hby d5_4) ?_
      exact k)
    obtain ⟨fs, hr, hrun, hended, hW, hsame⟩ := X0.leave (v := some (.int (0 : Int32))) (fun h => by rw [Bd.returns] at h; cases h)
    exact ⟨_, _, pre3.fin hS0 (retI X0 hx Bd.returns (hb hby d5_5) hr), hrun, hended, _, _, rfl, (by
      show Q5 Z q0 p1 p2 h0 n0 _ s₁.heap _
      rw [e0]
      exact ⟨congrArg (fun z => some (Value.int z)) (by simp [own_ref, c1_2]), N0, rfl⟩), ⟨_, rfl⟩, hW, hsame.mono (by decide) (by decide)⟩
  · skip
    have pre4 : Go p.tables e below S0 s₁ (mkF m 20 #[vJ q0, .second, vI p1, vI p2] [(.int ((((q0 <<< ((((64 : Int32) - p1) - p2) &&& 0x3f).toInt64).toUInt64 >>> (((64 : Int32) - p2) &&& 0x3f).toInt64.toUInt64).toInt64).toInt32))]) := fun t k => pre1 t (by
      refine XS.ifYes X0.here hx rfl (pc0 := 1) (pc' := 6) rfl (hb hby d5_1) rfl ((if0 _ _).trans (feq c1_2).2) (by decide) (by decide) ?_
      refine XS.lloadN X0.here hx rfl (hb hby d5_6) rfl ?_
      refine XS.bipush X0.here hx rfl (hb hby d5_7) ?_
      show Steps p.tables e below (s₁.setTop (mkF m 9 #[vJ q0, .second, vI p1, vI p2] [(.int (64 : Int32)), (.long q0)])) _
      refine XS.iloadN X0.here hx rfl (hb hby d5_9) rfl ?_
      refine XS.isub X0.here hx rfl (hb hby d5_10) rfl ?_
      refine XS.iloadN X0.here hx rfl (hb hby d5_11) rfl ?_
      show Steps p.tables e below (s₁.setTop (mkF m 12 #[vJ q0, .second, vI p1, vI p2] [(.int p2), (.int ((64 : Int32) - p1)), (.long q0)])) _
      refine XS.isub X0.here hx rfl (hb hby d5_12) rfl ?_
      refine XS.lshl X0.here hx rfl (hb hby d5_13) rfl ?_
      refine XS.bipush X0.here hx rfl (hb hby d5_14) ?_
      show Steps p.tables e below (s₁.setTop (mkF m 16 #[vJ q0, .second, vI p1, vI p2] [(.int (64 : Int32)), (.long (q0 <<< ((((64 : Int32) - p1) - p2) &&& 0x3f).toInt64))])) _
      refine XS.iloadN X0.here hx rfl (hb hby d5_16) rfl ?_
      refine XS.isub X0.here hx rfl (hb hby d5_17) rfl ?_
      refine XS.lushr X0.here hx rfl (hb hby d5_18) rfl ?_
      show Steps p.tables e below (s₁.setTop (mkF m 19 #[vJ q0, .second, vI p1, vI p2] [(.long (((q0 <<< ((((64 : Int32) - p1) - p2) &&& 0x3f).toInt64).toUInt64 >>> (((64 : Int32) - p2) &&& 0x3f).toInt64.toUInt64).toInt64))])) _
      refine XS.l2i X0.here hx rfl (hb hby d5_19) rfl ?_
      exact k)
    obtain ⟨fs, hr, hrun, hended, hW, hsame⟩ := X0.leave (v := some (.int ((((q0 <<< ((((64 : Int32) - p1) - p2) &&& 0x3f).toInt64).toUInt64 >>> (((64 : Int32) - p2) &&& 0x3f).toInt64.toUInt64).toInt64).toInt32))) (fun h => by rw [Bd.returns] at h; cases h)
    exact ⟨_, _, pre4.fin hS0 (retI X0 hx Bd.returns (hb hby d5_20) hr), hrun, hended, _, _, rfl, (by
      show Q5 Z q0 p1 p2 h0 n0 _ s₁.heap _
      rw [e0]
      exact ⟨congrArg (fun z => some (Value.int z)) (by simp [own_ref, c1_2]), N0, rfl⟩), ⟨_, rfl⟩, hW, hsame.mono (by decide) (by decide)⟩
theorem ef_1 (m : MethodId) (x0 : Addr) (x1 : Addr) : entryFrame m #[(.ref x0), (.ref x1)] 5 = mkF m 0 #[.val (.ref x0), .val (.ref x1), .unset, .unset, .unset] [] := by first | (simp [entryFrame, mkF, argsToLocals, Value.category]; done) | rfl
theorem pn_1 : plainName "com/example/garantia/garantia/engine/StateLayout" = true := by first | (simp [plainName, overriddenIn]; done) | decide +kernel
theorem d1_0 : decode prog_46_method_1_code 0 = .ok (.aload_n 0, 1) := by decide +kernel
theorem d1_1 : decode prog_46_method_1_code 1 = .ok (.invokespecial 1, 3) := by decide +kernel
theorem d1_4 : decode prog_46_method_1_code 4 = .ok (.aload_n 0, 1) := by decide +kernel
theorem d1_5 : decode prog_46_method_1_code 5 = .ok (.aload_n 1, 1) := by decide +kernel
theorem d1_6 : decode prog_46_method_1_code 6 = .ok (.arraylength, 1) := by decide +kernel
theorem d1_7 : decode prog_46_method_1_code 7 = .ok (.newarray .int, 2) := by decide +kernel
theorem d1_9 : decode prog_46_method_1_code 9 = .ok (.putfield 7, 3) := by decide +kernel
theorem d1_12 : decode prog_46_method_1_code 12 = .ok (.aload_n 0, 1) := by decide +kernel
theorem d1_13 : decode prog_46_method_1_code 13 = .ok (.aload_n 1, 1) := by decide +kernel
theorem d1_14 : decode prog_46_method_1_code 14 = .ok (.arraylength, 1) := by decide +kernel
theorem d1_15 : decode prog_46_method_1_code 15 = .ok (.newarray .int, 2) := by decide +kernel
theorem d1_17 : decode prog_46_method_1_code 17 = .ok (.putfield 13, 3) := by decide +kernel
theorem d1_20 : decode prog_46_method_1_code 20 = .ok (.aload_n 0, 1) := by decide +kernel
theorem d1_21 : decode prog_46_method_1_code 21 = .ok (.aload_n 1, 1) := by decide +kernel
theorem d1_22 : decode prog_46_method_1_code 22 = .ok (.arraylength, 1) := by decide +kernel
theorem d1_23 : decode prog_46_method_1_code 23 = .ok (.newarray .long, 2) := by decide +kernel
theorem d1_25 : decode prog_46_method_1_code 25 = .ok (.putfield 16, 3) := by decide +kernel
theorem d1_28 : decode prog_46_method_1_code 28 = .ok (.aload_n 0, 1) := by decide +kernel
theorem d1_29 : decode prog_46_method_1_code 29 = .ok (.aload_n 1, 1) := by decide +kernel
theorem d1_30 : decode prog_46_method_1_code 30 = .ok (.arraylength, 1) := by decide +kernel
theorem d1_31 : decode prog_46_method_1_code 31 = .ok (.newarray .long, 2) := by decide +kernel
theorem d1_33 : decode prog_46_method_1_code 33 = .ok (.putfield 20, 3) := by decide +kernel
theorem d1_36 : decode prog_46_method_1_code 36 = .ok (.iconst 0, 1) := by decide +kernel
theorem d1_37 : decode prog_46_method_1_code 37 = .ok (.istore_n 2, 1) := by decide +kernel
theorem d1_38 : decode prog_46_method_1_code 38 = .ok (.iconst 0, 1) := by decide +kernel
theorem d1_39 : decode prog_46_method_1_code 39 = .ok (.istore_n 3, 1) := by decide +kernel
theorem d1_40 : decode prog_46_method_1_code 40 = .ok (.iconst 0, 1) := by decide +kernel
theorem d1_41 : decode prog_46_method_1_code 41 = .ok (.istore 4, 2) := by decide +kernel
theorem d1_43 : decode prog_46_method_1_code 43 = .ok (.iload 4, 2) := by decide +kernel
theorem d1_45 : decode prog_46_method_1_code 45 = .ok (.aload_n 1, 1) := by decide +kernel
theorem d1_46 : decode prog_46_method_1_code 46 = .ok (.arraylength, 1) := by decide +kernel
theorem d1_47 : decode prog_46_method_1_code 47 = .ok (.if_icmp .ge 83, 3) := by decide +kernel
theorem d1_50 : decode prog_46_method_1_code 50 = .ok (.iload_n 2, 1) := by decide +kernel
theorem d1_51 : decode prog_46_method_1_code 51 = .ok (.aload_n 1, 1) := by decide +kernel
theorem d1_52 : decode prog_46_method_1_code 52 = .ok (.iload 4, 2) := by decide +kernel
theorem d1_54 : decode prog_46_method_1_code 54 = .ok (.iaload, 1) := by decide +kernel
theorem d1_55 : decode prog_46_method_1_code 55 = .ok (.iadd, 1) := by decide +kernel
theorem d1_56 : decode prog_46_method_1_code 56 = .ok (.bipush 64, 2) := by decide +kernel
theorem d1_58 : decode prog_46_method_1_code 58 = .ok (.if_icmp .le 8, 3) := by decide +kernel
theorem d1_61 : decode prog_46_method_1_code 61 = .ok (.iinc 3 1, 3) := by decide +kernel
theorem d1_64 : decode prog_46_method_1_code 64 = .ok (.iconst 0, 1) := by decide +kernel
theorem d1_65 : decode prog_46_method_1_code 65 = .ok (.istore_n 2, 1) := by decide +kernel
theorem d1_66 : decode prog_46_method_1_code 66 = .ok (.aload_n 0, 1) := by decide +kernel
theorem d1_67 : decode prog_46_method_1_code 67 = .ok (.getfield 7, 3) := by decide +kernel
theorem d1_70 : decode prog_46_method_1_code 70 = .ok (.iload 4, 2) := by decide +kernel
theorem d1_72 : decode prog_46_method_1_code 72 = .ok (.iload_n 3, 1) := by decide +kernel
theorem d1_73 : decode prog_46_method_1_code 73 = .ok (.iastore, 1) := by decide +kernel
theorem d1_74 : decode prog_46_method_1_code 74 = .ok (.aload_n 0, 1) := by decide +kernel
theorem d1_75 : decode prog_46_method_1_code 75 = .ok (.getfield 13, 3) := by decide +kernel
theorem d1_78 : decode prog_46_method_1_code 78 = .ok (.iload 4, 2) := by decide +kernel
theorem d1_80 : decode prog_46_method_1_code 80 = .ok (.iload_n 2, 1) := by decide +kernel
theorem d1_81 : decode prog_46_method_1_code 81 = .ok (.iastore, 1) := by decide +kernel
theorem d1_82 : decode prog_46_method_1_code 82 = .ok (.aload_n 0, 1) := by decide +kernel
theorem d1_83 : decode prog_46_method_1_code 83 = .ok (.getfield 16, 3) := by decide +kernel
theorem d1_86 : decode prog_46_method_1_code 86 = .ok (.iload 4, 2) := by decide +kernel
theorem d1_88 : decode prog_46_method_1_code 88 = .ok (.lconst 1, 1) := by decide +kernel
theorem d1_89 : decode prog_46_method_1_code 89 = .ok (.aload_n 1, 1) := by decide +kernel
theorem d1_90 : decode prog_46_method_1_code 90 = .ok (.iload 4, 2) := by decide +kernel
theorem d1_92 : decode prog_46_method_1_code 92 = .ok (.iaload, 1) := by decide +kernel
theorem d1_93 : decode prog_46_method_1_code 93 = .ok (.lshl, 1) := by decide +kernel
theorem d1_94 : decode prog_46_method_1_code 94 = .ok (.lconst 1, 1) := by decide +kernel
theorem d1_95 : decode prog_46_method_1_code 95 = .ok (.lsub, 1) := by decide +kernel
theorem d1_96 : decode prog_46_method_1_code 96 = .ok (.lastore, 1) := by decide +kernel
theorem d1_97 : decode prog_46_method_1_code 97 = .ok (.aload_n 0, 1) := by decide +kernel
theorem d1_98 : decode prog_46_method_1_code 98 = .ok (.getfield 20, 3) := by decide +kernel
theorem d1_101 : decode prog_46_method_1_code 101 = .ok (.iload 4, 2) := by decide +kernel
theorem d1_103 : decode prog_46_method_1_code 103 = .ok (.aload_n 0, 1) := by decide +kernel
theorem d1_104 : decode prog_46_method_1_code 104 = .ok (.getfield 16, 3) := by decide +kernel
theorem d1_107 : decode prog_46_method_1_code 107 = .ok (.iload 4, 2) := by decide +kernel
theorem d1_109 : decode prog_46_method_1_code 109 = .ok (.laload, 1) := by decide +kernel
theorem d1_110 : decode prog_46_method_1_code 110 = .ok (.iload_n 2, 1) := by decide +kernel
theorem d1_111 : decode prog_46_method_1_code 111 = .ok (.lshl, 1) := by decide +kernel
theorem d1_112 : decode prog_46_method_1_code 112 = .ok (.ldc2_w 25, 3) := by decide +kernel
theorem d1_115 : decode prog_46_method_1_code 115 = .ok (.lxor, 1) := by decide +kernel
theorem d1_116 : decode prog_46_method_1_code 116 = .ok (.lastore, 1) := by decide +kernel
theorem d1_117 : decode prog_46_method_1_code 117 = .ok (.iload_n 2, 1) := by decide +kernel
theorem d1_118 : decode prog_46_method_1_code 118 = .ok (.aload_n 1, 1) := by decide +kernel
theorem d1_119 : decode prog_46_method_1_code 119 = .ok (.iload 4, 2) := by decide +kernel
theorem d1_121 : decode prog_46_method_1_code 121 = .ok (.iaload, 1) := by decide +kernel
theorem d1_122 : decode prog_46_method_1_code 122 = .ok (.iadd, 1) := by decide +kernel
theorem d1_123 : decode prog_46_method_1_code 123 = .ok (.istore_n 2, 1) := by decide +kernel
theorem d1_124 : decode prog_46_method_1_code 124 = .ok (.iinc 4 1, 3) := by decide +kernel
theorem d1_127 : decode prog_46_method_1_code 127 = .ok (.goto (-84), 3) := by decide +kernel
theorem d1_130 : decode prog_46_method_1_code 130 = .ok (.aload_n 0, 1) := by decide +kernel
theorem d1_131 : decode prog_46_method_1_code 131 = .ok (.iload_n 3, 1) := by decide +kernel
theorem d1_132 : decode prog_46_method_1_code 132 = .ok (.iconst 1, 1) := by decide +kernel
theorem d1_133 : decode prog_46_method_1_code 133 = .ok (.iadd, 1) := by decide +kernel
theorem d1_134 : decode prog_46_method_1_code 134 = .ok (.putfield 27, 3) := by decide +kernel
theorem d1_137 : decode prog_46_method_1_code 137 = .ok (.aload_n 0, 1) := by decide +kernel
theorem d1_138 : decode prog_46_method_1_code 138 = .ok (.aload_n 0, 1) := by decide +kernel
theorem d1_139 : decode prog_46_method_1_code 139 = .ok (.getfield 27, 3) := by decide +kernel
theorem d1_142 : decode prog_46_method_1_code 142 = .ok (.iconst 1, 1) := by decide +kernel
theorem d1_143 : decode prog_46_method_1_code 143 = .ok (.if_icmp .ne 13, 3) := by decide +kernel
theorem d1_146 : decode prog_46_method_1_code 146 = .ok (.iload_n 2, 1) := by decide +kernel
theorem d1_147 : decode prog_46_method_1_code 147 = .ok (.bipush 32, 2) := by decide +kernel
theorem d1_149 : decode prog_46_method_1_code 149 = .ok (.if_icmp .gt 7, 3) := by decide +kernel
theorem d1_152 : decode prog_46_method_1_code 152 = .ok (.iconst 1, 1) := by decide +kernel
theorem d1_153 : decode prog_46_method_1_code 153 = .ok (.goto 4, 3) := by decide +kernel
theorem d1_156 : decode prog_46_method_1_code 156 = .ok (.iconst 0, 1) := by decide +kernel
theorem d1_157 : decode prog_46_method_1_code 157 = .ok (.putfield 33, 3) := by decide +kernel
theorem d1_160 : decode prog_46_method_1_code 160 = .ok (.return_, 1) := by decide +kernel
def Q1 (Z : State) (a0 a1 : Addr) (k1 : ClassId) (w0 : Int32) (w1 : Int32) (w2 : Int32) (w3 : Int32) (h0 : Heap) (n0 : Nat) (v : Option Value) (h : Heap) (L : List Loc) : Prop := v = none ∧ Fr n0 L ∧ ∃ (aw as am ao : Addr) (kw ks km ko : ClassId) (c2 u2 c3 u3 : Int32), ((c2 = own_cur (0 : Int32) (((0 : Int32) + w0) + w1) w2 ∧ u2 = own_u0 (((0 : Int32) + w0) + w1) w2) ∧ (c3 = own_cur c2 (u2 + w2) w3 ∧ u3 = own_u0 (u2 + w2) w3)) ∧ (h0.size ≤ aw ∧ h0.size ≤ as ∧ h0.size ≤ am ∧ h0.size ≤ ao) ∧ (aw ≠ as ∧ aw ≠ am ∧ aw ≠ ao ∧ as ≠ am ∧ as ≠ ao ∧ am ≠ ao) ∧ Keep h0 h [a0] ∧ (Exa Z h a0 "com/example/garantia/garantia/engine/StateLayout") ∧ (Fld Z h a0 "com/example/garantia/garantia/engine/StateLayout" "word" "[I" (.ref aw)) ∧ (Fld Z h a0 "com/example/garantia/garantia/engine/StateLayout" "shift" "[I" (.ref as)) ∧ (Fld Z h a0 "com/example/garantia/garantia/engine/StateLayout" "mask" "[J" (.ref am)) ∧ (Fld Z h a0 "com/example/garantia/garantia/engine/StateLayout" "others" "[J" (.ref ao)) ∧ (Fld Z h a0 "com/example/garantia/garantia/engine/StateLayout" "words" "I" (.int (c3 + (1 : Int32)))) ∧ (Arv Z h aw kw .int (4 : Int32) [(.int (0 : Int32)), (.int (0 : Int32)), (.int c2), (.int c3)] (.int (0 : Int32))) ∧ (Arv Z h as ks .int (4 : Int32) [(.int (0 : Int32)), (.int ((0 : Int32) + w0)), (.int u2), (.int u3)] (.int (0 : Int32))) ∧ (Arv Z h am km .long (4 : Int32) [(.long (((1 : Int64) <<< (w0 &&& 0x3f).toInt64) - (1 : Int64))), (.long (((1 : Int64) <<< (w1 &&& 0x3f).toInt64) - (1 : Int64))), (.long (((1 : Int64) <<< (w2 &&& 0x3f).toInt64) - (1 : Int64))), (.long (((1 : Int64) <<< (w3 &&& 0x3f).toInt64) - (1 : Int64)))] (.long (0 : Int64))) ∧ (Arv Z h ao ko .long (4 : Int32) [(.long (((((1 : Int64) <<< (w0 &&& 0x3f).toInt64) - (1 : Int64)) <<< ((0 : Int32) &&& 0x3f).toInt64) ^^^ (-1 : Int64))), (.long (((((1 : Int64) <<< (w1 &&& 0x3f).toInt64) - (1 : Int64)) <<< (((0 : Int32) + w0) &&& 0x3f).toInt64) ^^^ (-1 : Int64))), (.long (((((1 : Int64) <<< (w2 &&& 0x3f).toInt64) - (1 : Int64)) <<< (u2 &&& 0x3f).toInt64) ^^^ (-1 : Int64))), (.long (((((1 : Int64) <<< (w3 &&& 0x3f).toInt64) - (1 : Int64)) <<< (u3 &&& 0x3f).toInt64) ^^^ (-1 : Int64)))] (.long (0 : Int64)))
set_option maxRecDepth 65536 in
set_option maxHeartbeats 40000000 in
theorem rm1 (l : Launch) (Z : State) (A0 : Array Value) (hw : ∀ d ∈ tables_1, d.before A0 Z = true) (ws : List Jvm.Cond) (a0 : Addr) (a1 : Addr) (k1 : ClassId) (w0 : Int32) (w1 : Int32) (w2 : Int32) (w3 : Int32) (h0 : Heap) (n0 : Nat) (Z0 : n0 ≤ h0.size) (E0 : Exa Z h0 a0 "com/example/garantia/garantia/engine/StateLayout") (Fw : Fld Z h0 a0 "com/example/garantia/garantia/engine/StateLayout" "word" "[I" .null) (Fs : Fld Z h0 a0 "com/example/garantia/garantia/engine/StateLayout" "shift" "[I" .null) (Fm : Fld Z h0 a0 "com/example/garantia/garantia/engine/StateLayout" "mask" "[J" .null) (Fo : Fld Z h0 a0 "com/example/garantia/garantia/engine/StateLayout" "others" "[J" .null) (Fn : Fld Z h0 a0 "com/example/garantia/garantia/engine/StateLayout" "words" "I" (.int (0 : Int32))) (Fb : Fld Z h0 a0 "com/example/garantia/garantia/engine/StateLayout" "narrow" "Z" (.int (0 : Int32))) (V1 : Arv Z h0 a1 k1 .int (4 : Int32) [(.int w0), (.int w1), (.int w2), (.int w3)] (.int (0 : Int32))) (xe1 : a1 ≠ a0) (g0 : n0 ≤ a0) (hw0 : 0 ≤ w0.toInt ∧ w0.toInt ≤ 31) (hw1 : 0 ≤ w1.toInt ∧ w1.toInt ≤ 31) (hw2 : 0 ≤ w2.toInt ∧ w2.toInt ≤ 31) (hw3 : 0 ≤ w3.toInt ∧ w3.toInt ≤ 31) :
    MetFree l (⟨"com/example/garantia/garantia/engine/StateLayout", "<init>", "([I)V"⟩ : MethodName) (head1 (Jvm.Cond.code (⟨"com/example/garantia/garantia/engine/StateLayout", "<init>", "([I)V"⟩ : MethodName) prog_46_method_1_code 5 none :: ws) ({ frames := 1, cells := 4, slots := 16, locals := 12 } : Room)) (fun a U => a = #[(.ref a0), (.ref a1)] ∧ Z.Warmed39 U.vm ∧ U.heap = h0) (fun _ _ _ _ _ => True) (fun _ U o U' => ∃ v L, o = .returned v ∧ Q1 Z a0 a1 k1 w0 w1 w2 w3 h0 n0 v U'.heap L ∧ FrameEnd U o U' L ({ frames := 1, cells := 4, slots := 16, locals := 12 } : Room).cells ({ frames := 1, cells := 4, slots := 16, locals := 12 } : Room).slots) := by
  refine MetFree.of_bodySF (plainFor_of_name pn_1) hisR ?_
  intro p e s m args below meth c s₁ Bd hml0 hP hK
  obtain ⟨rfl, hZ, hh⟩ := hP
  have hx := Bd.exec
  have hby := Bd.bytes
  have hml : c.maxLocals = 5 := hml0
  have hown : s.vm.findClass "com/example/garantia/garantia/engine/StateLayout" = some m.cls := findClass_of_methodNamed Bd.named
  have hnm := (name_of_methodNamed Bd.named Bd.method).1
  have X0 : Stand p l e ({ frames := 1, cells := 4, slots := 16, locals := 12 } : Room) s m #[(.ref a0), (.ref a1)] below meth c s₁ [] 0 0 := Stand.of_body Bd
  have e0 : s₁.heap = h0 := by rw [← hh, Bd.state]; rfl
  have N0 := Fr.nil n0
  have kp0 : Keep h0 h0 [a0] := Keep.refl _ _
  obtain ⟨S0, hS0⟩ : ∃ z, z = s₁.setTop (entryFrame m #[(.ref a0), (.ref a1)] 5) := ⟨_, rfl⟩
  have pre0 : Go p.tables e below S0 s₁ (mkF m 0 #[vR a0, vR a1, .unset, .unset, .unset] []) := fun t k => by rw [hS0]; exact castTop (ef_1 m a0 a1) k
  have pre1 : Go p.tables e below S0 s₁ (mkF m 1 #[vR a0, vR a1, .unset, .unset, .unset] [(.ref a0)]) := fun t k => pre0 t (by
    refine XS.aloadN X0.here hx rfl (hb hby d1_0) rfl rfl ?_
    exact k)
  obtain ⟨T2, X2, e2, st2⟩ := initO X0 hx hZ hown (hw _ (List.mem_of_getElem? (i := 11) rfl)) (hw _ (List.mem_of_getElem? (i := 12) rfl)) (hw _ (List.mem_of_getElem? (i := 13) rfl)) e0 (g := (mkF m 1 #[vR a0, vR a1, .unset, .unset, .unset] [(.ref a0)])) rfl (by rw [hml]; rfl) rfl (hb hby d1_1) (by decide) (W := 0) (by show 2 * 0 + _ ≤ _; exact Nat.le_of_eq rfl) (by decide)
  have pre2 : Go p.tables e below S0 T2 (mkF m 4 #[vR a0, vR a1, .unset, .unset, .unset] []) := fun t k => pre1 t (st2 t k)
  have pre3 : Go p.tables e below S0 T2 (mkF m 6 #[vR a0, vR a1, .unset, .unset, .unset] [(.ref a1), (.ref a0)]) := fun t k => pre2 t (by
    refine XS.aloadN X2.here hx rfl (hb hby d1_4) rfl rfl ?_
    refine XS.aloadN X2.here hx rfl (hb hby d1_5) rfl rfl ?_
    exact k)
  obtain ⟨cl4, Ar4, q4, S4, M4, H4, G4⟩ := id V1
  have pre5 : Go p.tables e below S0 T2 (mkF m 7 #[vR a0, vR a1, .unset, .unset, .unset] [(.int (4 : Int32)), (.ref a0)]) := fun t k => pre3 t (by
    refine X2.arraylength hx (by rw [e2]; exact Ar4.1) (State.isArrayOf_alike hZ.alike Ar4.2.1) (g := (mkF m 6 #[vR a0, vR a1, .unset, .unset, .unset] [(.ref a1), (.ref a0)])) rfl rfl (hb hby d1_6) _ ?_
    rw [len_of S4 M4]
    exact k)
  obtain ⟨T6, h6, kA6, X6, e6, E6, A6, st6⟩ := newP X2 hx hZ (hw _ (List.mem_of_getElem? (i := 4) rfl)) e2 (g := (mkF m 7 #[vR a0, vR a1, .unset, .unset, .unset] [(.int (4 : Int32)), (.ref a0)])) rfl (hb hby d1_7) rfl (by decide) (cap := 4) (by decide) (by decide) (by decide) (by decide)
  obtain ⟨b6, g6⟩ : ∃ z, z = h0.size := ⟨_, rfl⟩
  rw [← g6] at A6 st6
  have pre6 : Go p.tables e below S0 T6 (mkF m 9 #[vR a0, vR a1, .unset, .unset, .unset] [(.ref b6), (.ref a0)]) := fun t k => pre5 t (st6 t k)
  have ne7 : a0 ≠ b6 := Nat.ne_of_lt (Nat.lt_of_lt_of_le E0.lt (Nat.le_of_eq g6.symm))
  have ne8 : a1 ≠ b6 := Nat.ne_of_lt (Nat.lt_of_lt_of_le V1.lt (Nat.le_of_eq g6.symm))
  have bo6 : n0 ≤ b6 := Nat.le_trans Z0 (Nat.le_of_eq g6.symm)
  have ol6 : h0.size ≤ b6 := Nat.le_trans kp0.1 (Nat.le_of_eq g6.symm)
  have f9_1 := Exa.ext E6 E0
  have f9_2 := Fld.ext E6 Fw
  have f9_3 := Fld.ext E6 Fs
  have f9_4 := Fld.ext E6 Fm
  have f9_5 := Fld.ext E6 Fo
  have f9_6 := Fld.ext E6 Fn
  have f9_7 := Fld.ext E6 Fb
  have f9_8 := V1.ext E6
  have zz10 : n0 ≤ h6.size := Nat.le_trans Z0 E6.1
  have kp11 : Keep h0 h6 [a0] := kp0.ext E6
  have av6 : Arv Z h6 b6 kA6 .int (4 : Int32) [(.int (0 : Int32)), (.int (0 : Int32)), (.int (0 : Int32)), (.int (0 : Int32))] (.int (0 : Int32)) := (Arv.new A6 (by decide)).pad (pad_rep [] (.int (0 : Int32)) 4)
  obtain ⟨T12, h12, X12, e12, W12, st12⟩ := putF X6 hx hZ hown (host := "") (Or.inl (hw _ (List.mem_of_getElem? (i := 14) rfl))) Via.refl e6 f9_2 f9_1 (Or.inr ⟨(hw _ (List.mem_of_getElem? (i := 15) rfl)), rfl, hnm⟩) (hw _ (List.mem_of_getElem? (i := 6) rfl)) (ty := (.array .int)) (by decide) rfl rfl (g := (mkF m 9 #[vR a0, vR a1, .unset, .unset, .unset] [(.ref b6), (.ref a0)])) rfl rfl (hb hby d1_9)
  have pre12 : Go p.tables e below S0 T12 (mkF m 12 #[vR a0, vR a1, .unset, .unset, .unset] []) := fun t k => pre6 t (st12 t k)
  obtain ⟨lo12, N12, X12⟩ : ∃ lo, Fr n0 lo ∧ Stand p l e ({ frames := 1, cells := 4, slots := 16, locals := 12 } : Room) s m #[(.ref a0), (.ref a1)] below meth c T12 lo 1 4 := ⟨_, Fr.snoc X12 N0 g0, X12⟩
  have fw12 : Fld Z h12 a0 "com/example/garantia/garantia/engine/StateLayout" "word" "[I" (.ref b6) := Fld.same W12 f9_2
  have f13_1 := Exa.wr W12 f9_1
  have f13_2 := Fld.other W12 f9_3 (Or.inr (slot_ne (Or.inr (hw _ (List.mem_of_getElem? (i := 17) rfl))) (Or.inr (hw _ (List.mem_of_getElem? (i := 15) rfl))) (by decide) (t := (.array .int)) (t' := (.array .int)) (by decide) (by decide)))
  have f13_3 := Fld.other W12 f9_4 (Or.inr (slot_ne (Or.inr (hw _ (List.mem_of_getElem? (i := 19) rfl))) (Or.inr (hw _ (List.mem_of_getElem? (i := 15) rfl))) (by decide) (t := (.array .long)) (t' := (.array .int)) (by decide) (by decide)))
  have f13_4 := Fld.other W12 f9_5 (Or.inr (slot_ne (Or.inr (hw _ (List.mem_of_getElem? (i := 21) rfl))) (Or.inr (hw _ (List.mem_of_getElem? (i := 15) rfl))) (by decide) (t := (.array .long)) (t' := (.array .int)) (by decide) (by decide)))
  have f13_5 := Fld.other W12 f9_6 (Or.inr (slot_ne (Or.inr (hw _ (List.mem_of_getElem? (i := 24) rfl))) (Or.inr (hw _ (List.mem_of_getElem? (i := 15) rfl))) (by decide) (t := .int) (t' := (.array .int)) (by decide) (by decide)))
  have f13_6 := Fld.other W12 f9_7 (Or.inr (slot_ne (Or.inr (hw _ (List.mem_of_getElem? (i := 26) rfl))) (Or.inr (hw _ (List.mem_of_getElem? (i := 15) rfl))) (by decide) (t := .boolean) (t' := (.array .int)) (by decide) (by decide)))
  have f13_7 := f9_8.other W12 xe1
  have f13_8 := av6.other W12 (Ne.symm ne7)
  have zz14 : n0 ≤ h12.size := Nat.le_trans zz10 (Keep.of_wr W12).1
  have kp15 : Keep h0 h12 [a0] := kp11.wr W12 (Or.inl (List.mem_of_getElem? (i := 0) rfl))
  have pre16 : Go p.tables e below S0 T12 (mkF m 14 #[vR a0, vR a1, .unset, .unset, .unset] [(.ref a1), (.ref a0)]) := fun t k => pre12 t (by
    refine XS.aloadN X12.here hx rfl (hb hby d1_12) rfl rfl ?_
    refine XS.aloadN X12.here hx rfl (hb hby d1_13) rfl rfl ?_
    exact k)
  obtain ⟨cl17, Ar17, q17, S17, M17, H17, G17⟩ := id f13_7
  have pre18 : Go p.tables e below S0 T12 (mkF m 15 #[vR a0, vR a1, .unset, .unset, .unset] [(.int (4 : Int32)), (.ref a0)]) := fun t k => pre16 t (by
    refine X12.arraylength hx (by rw [e12]; exact Ar17.1) (State.isArrayOf_alike hZ.alike Ar17.2.1) (g := (mkF m 14 #[vR a0, vR a1, .unset, .unset, .unset] [(.ref a1), (.ref a0)])) rfl rfl (hb hby d1_14) _ ?_
    rw [len_of S17 M17]
    exact k)
  obtain ⟨T19, h19, kA19, X19, e19, E19, A19, st19⟩ := newP X12 hx hZ (hw _ (List.mem_of_getElem? (i := 4) rfl)) e12 (g := (mkF m 15 #[vR a0, vR a1, .unset, .unset, .unset] [(.int (4 : Int32)), (.ref a0)])) rfl (hb hby d1_15) rfl (by decide) (cap := 4) (by decide) (by decide) (by decide) (by decide)
  obtain ⟨b19, g19⟩ : ∃ z, z = h12.size := ⟨_, rfl⟩
  rw [← g19] at A19 st19
  have pre19 : Go p.tables e below S0 T19 (mkF m 17 #[vR a0, vR a1, .unset, .unset, .unset] [(.ref b19), (.ref a0)]) := fun t k => pre18 t (st19 t k)
  have ne20 : a0 ≠ b19 := Nat.ne_of_lt (Nat.lt_of_lt_of_le f13_1.lt (Nat.le_of_eq g19.symm))
  have ne21 : a1 ≠ b19 := Nat.ne_of_lt (Nat.lt_of_lt_of_le f13_7.lt (Nat.le_of_eq g19.symm))
  have ne22 : b6 ≠ b19 := Nat.ne_of_lt (Nat.lt_of_lt_of_le f13_8.lt (Nat.le_of_eq g19.symm))
  have bo19 : n0 ≤ b19 := Nat.le_trans zz14 (Nat.le_of_eq g19.symm)
  have ol19 : h0.size ≤ b19 := Nat.le_trans kp15.1 (Nat.le_of_eq g19.symm)
  have f23_1 := Exa.ext E19 f13_1
  have f23_2 := Fld.ext E19 fw12
  have f23_3 := Fld.ext E19 f13_2
  have f23_4 := Fld.ext E19 f13_3
  have f23_5 := Fld.ext E19 f13_4
  have f23_6 := Fld.ext E19 f13_5
  have f23_7 := Fld.ext E19 f13_6
  have f23_8 := f13_7.ext E19
  have f23_9 := f13_8.ext E19
  have zz24 : n0 ≤ h19.size := Nat.le_trans zz14 E19.1
  have kp25 : Keep h0 h19 [a0] := kp15.ext E19
  have av19 : Arv Z h19 b19 kA19 .int (4 : Int32) [(.int (0 : Int32)), (.int (0 : Int32)), (.int (0 : Int32)), (.int (0 : Int32))] (.int (0 : Int32)) := (Arv.new A19 (by decide)).pad (pad_rep [] (.int (0 : Int32)) 4)
  obtain ⟨T26, h26, X26, e26, W26, st26⟩ := putF X19 hx hZ hown (host := "") (Or.inl (hw _ (List.mem_of_getElem? (i := 16) rfl))) Via.refl e19 f23_3 f23_1 (Or.inr ⟨(hw _ (List.mem_of_getElem? (i := 17) rfl)), rfl, hnm⟩) (hw _ (List.mem_of_getElem? (i := 6) rfl)) (ty := (.array .int)) (by decide) rfl rfl (g := (mkF m 17 #[vR a0, vR a1, .unset, .unset, .unset] [(.ref b19), (.ref a0)])) rfl rfl (hb hby d1_17)
  have pre26 : Go p.tables e below S0 T26 (mkF m 20 #[vR a0, vR a1, .unset, .unset, .unset] []) := fun t k => pre19 t (st26 t k)
  obtain ⟨lo26, N26, X26⟩ : ∃ lo, Fr n0 lo ∧ Stand p l e ({ frames := 1, cells := 4, slots := 16, locals := 12 } : Room) s m #[(.ref a0), (.ref a1)] below meth c T26 lo 2 8 := ⟨_, Fr.snoc X26 N12 g0, X26⟩
  have fw26 : Fld Z h26 a0 "com/example/garantia/garantia/engine/StateLayout" "shift" "[I" (.ref b19) := Fld.same W26 f23_3
  have f27_1 := Exa.wr W26 f23_1
  have f27_2 := Fld.other W26 f23_2 (Or.inr (slot_ne (Or.inr (hw _ (List.mem_of_getElem? (i := 15) rfl))) (Or.inr (hw _ (List.mem_of_getElem? (i := 17) rfl))) (by decide) (t := (.array .int)) (t' := (.array .int)) (by decide) (by decide)))
  have f27_3 := Fld.other W26 f23_4 (Or.inr (slot_ne (Or.inr (hw _ (List.mem_of_getElem? (i := 19) rfl))) (Or.inr (hw _ (List.mem_of_getElem? (i := 17) rfl))) (by decide) (t := (.array .long)) (t' := (.array .int)) (by decide) (by decide)))
  have f27_4 := Fld.other W26 f23_5 (Or.inr (slot_ne (Or.inr (hw _ (List.mem_of_getElem? (i := 21) rfl))) (Or.inr (hw _ (List.mem_of_getElem? (i := 17) rfl))) (by decide) (t := (.array .long)) (t' := (.array .int)) (by decide) (by decide)))
  have f27_5 := Fld.other W26 f23_6 (Or.inr (slot_ne (Or.inr (hw _ (List.mem_of_getElem? (i := 24) rfl))) (Or.inr (hw _ (List.mem_of_getElem? (i := 17) rfl))) (by decide) (t := .int) (t' := (.array .int)) (by decide) (by decide)))
  have f27_6 := Fld.other W26 f23_7 (Or.inr (slot_ne (Or.inr (hw _ (List.mem_of_getElem? (i := 26) rfl))) (Or.inr (hw _ (List.mem_of_getElem? (i := 17) rfl))) (by decide) (t := .boolean) (t' := (.array .int)) (by decide) (by decide)))
  have f27_7 := f23_8.other W26 xe1
  have f27_8 := f23_9.other W26 (Ne.symm ne7)
  have f27_9 := av19.other W26 (Ne.symm ne20)
  have zz28 : n0 ≤ h26.size := Nat.le_trans zz24 (Keep.of_wr W26).1
  have kp29 : Keep h0 h26 [a0] := kp25.wr W26 (Or.inl (List.mem_of_getElem? (i := 0) rfl))
  have pre30 : Go p.tables e below S0 T26 (mkF m 22 #[vR a0, vR a1, .unset, .unset, .unset] [(.ref a1), (.ref a0)]) := fun t k => pre26 t (by
    refine XS.aloadN X26.here hx rfl (hb hby d1_20) rfl rfl ?_
    refine XS.aloadN X26.here hx rfl (hb hby d1_21) rfl rfl ?_
    exact k)
  obtain ⟨cl31, Ar31, q31, S31, M31, H31, G31⟩ := id f27_7
  have pre32 : Go p.tables e below S0 T26 (mkF m 23 #[vR a0, vR a1, .unset, .unset, .unset] [(.int (4 : Int32)), (.ref a0)]) := fun t k => pre30 t (by
    refine X26.arraylength hx (by rw [e26]; exact Ar31.1) (State.isArrayOf_alike hZ.alike Ar31.2.1) (g := (mkF m 22 #[vR a0, vR a1, .unset, .unset, .unset] [(.ref a1), (.ref a0)])) rfl rfl (hb hby d1_22) _ ?_
    rw [len_of S31 M31]
    exact k)
  obtain ⟨T33, h33, kA33, X33, e33, E33, A33, st33⟩ := newP X26 hx hZ (hw _ (List.mem_of_getElem? (i := 0) rfl)) e26 (g := (mkF m 23 #[vR a0, vR a1, .unset, .unset, .unset] [(.int (4 : Int32)), (.ref a0)])) rfl (hb hby d1_23) rfl (by decide) (cap := 4) (by decide) (by decide) (by decide) (by decide)
  obtain ⟨b33, g33⟩ : ∃ z, z = h26.size := ⟨_, rfl⟩
  rw [← g33] at A33 st33
  have pre33 : Go p.tables e below S0 T33 (mkF m 25 #[vR a0, vR a1, .unset, .unset, .unset] [(.ref b33), (.ref a0)]) := fun t k => pre32 t (st33 t k)
  have ne34 : a0 ≠ b33 := Nat.ne_of_lt (Nat.lt_of_lt_of_le f27_1.lt (Nat.le_of_eq g33.symm))
  have ne35 : a1 ≠ b33 := Nat.ne_of_lt (Nat.lt_of_lt_of_le f27_7.lt (Nat.le_of_eq g33.symm))
  have ne36 : b6 ≠ b33 := Nat.ne_of_lt (Nat.lt_of_lt_of_le f27_8.lt (Nat.le_of_eq g33.symm))
  have ne37 : b19 ≠ b33 := Nat.ne_of_lt (Nat.lt_of_lt_of_le f27_9.lt (Nat.le_of_eq g33.symm))
  have bo33 : n0 ≤ b33 := Nat.le_trans zz28 (Nat.le_of_eq g33.symm)
  have ol33 : h0.size ≤ b33 := Nat.le_trans kp29.1 (Nat.le_of_eq g33.symm)
  have f38_1 := Exa.ext E33 f27_1
  have f38_2 := Fld.ext E33 f27_2
  have f38_3 := Fld.ext E33 fw26
  have f38_4 := Fld.ext E33 f27_3
  have f38_5 := Fld.ext E33 f27_4
  have f38_6 := Fld.ext E33 f27_5
  have f38_7 := Fld.ext E33 f27_6
  have f38_8 := f27_7.ext E33
  have f38_9 := f27_8.ext E33
  have f38_10 := f27_9.ext E33
  have zz39 : n0 ≤ h33.size := Nat.le_trans zz28 E33.1
  have kp40 : Keep h0 h33 [a0] := kp29.ext E33
  have av33 : Arv Z h33 b33 kA33 .long (4 : Int32) [(.long (0 : Int64)), (.long (0 : Int64)), (.long (0 : Int64)), (.long (0 : Int64))] (.long (0 : Int64)) := (Arv.new A33 (by decide)).pad (pad_rep [] (.long (0 : Int64)) 4)
  obtain ⟨T41, h41, X41, e41, W41, st41⟩ := putF X33 hx hZ hown (host := "") (Or.inl (hw _ (List.mem_of_getElem? (i := 18) rfl))) Via.refl e33 f38_4 f38_1 (Or.inr ⟨(hw _ (List.mem_of_getElem? (i := 19) rfl)), rfl, hnm⟩) (hw _ (List.mem_of_getElem? (i := 6) rfl)) (ty := (.array .long)) (by decide) rfl rfl (g := (mkF m 25 #[vR a0, vR a1, .unset, .unset, .unset] [(.ref b33), (.ref a0)])) rfl rfl (hb hby d1_25)
  have pre41 : Go p.tables e below S0 T41 (mkF m 28 #[vR a0, vR a1, .unset, .unset, .unset] []) := fun t k => pre33 t (st41 t k)
  obtain ⟨lo41, N41, X41⟩ : ∃ lo, Fr n0 lo ∧ Stand p l e ({ frames := 1, cells := 4, slots := 16, locals := 12 } : Room) s m #[(.ref a0), (.ref a1)] below meth c T41 lo 3 12 := ⟨_, Fr.snoc X41 N26 g0, X41⟩
  have fw41 : Fld Z h41 a0 "com/example/garantia/garantia/engine/StateLayout" "mask" "[J" (.ref b33) := Fld.same W41 f38_4
  have f42_1 := Exa.wr W41 f38_1
  have f42_2 := Fld.other W41 f38_2 (Or.inr (slot_ne (Or.inr (hw _ (List.mem_of_getElem? (i := 15) rfl))) (Or.inr (hw _ (List.mem_of_getElem? (i := 19) rfl))) (by decide) (t := (.array .int)) (t' := (.array .long)) (by decide) (by decide)))
  have f42_3 := Fld.other W41 f38_3 (Or.inr (slot_ne (Or.inr (hw _ (List.mem_of_getElem? (i := 17) rfl))) (Or.inr (hw _ (List.mem_of_getElem? (i := 19) rfl))) (by decide) (t := (.array .int)) (t' := (.array .long)) (by decide) (by decide)))
  have f42_4 := Fld.other W41 f38_5 (Or.inr (slot_ne (Or.inr (hw _ (List.mem_of_getElem? (i := 21) rfl))) (Or.inr (hw _ (List.mem_of_getElem? (i := 19) rfl))) (by decide) (t := (.array .long)) (t' := (.array .long)) (by decide) (by decide)))
  have f42_5 := Fld.other W41 f38_6 (Or.inr (slot_ne (Or.inr (hw _ (List.mem_of_getElem? (i := 24) rfl))) (Or.inr (hw _ (List.mem_of_getElem? (i := 19) rfl))) (by decide) (t := .int) (t' := (.array .long)) (by decide) (by decide)))
  have f42_6 := Fld.other W41 f38_7 (Or.inr (slot_ne (Or.inr (hw _ (List.mem_of_getElem? (i := 26) rfl))) (Or.inr (hw _ (List.mem_of_getElem? (i := 19) rfl))) (by decide) (t := .boolean) (t' := (.array .long)) (by decide) (by decide)))
  have f42_7 := f38_8.other W41 xe1
  have f42_8 := f38_9.other W41 (Ne.symm ne7)
  have f42_9 := f38_10.other W41 (Ne.symm ne20)
  have f42_10 := av33.other W41 (Ne.symm ne34)
  have zz43 : n0 ≤ h41.size := Nat.le_trans zz39 (Keep.of_wr W41).1
  have kp44 : Keep h0 h41 [a0] := kp40.wr W41 (Or.inl (List.mem_of_getElem? (i := 0) rfl))
  have pre45 : Go p.tables e below S0 T41 (mkF m 30 #[vR a0, vR a1, .unset, .unset, .unset] [(.ref a1), (.ref a0)]) := fun t k => pre41 t (by
    refine XS.aloadN X41.here hx rfl (hb hby d1_28) rfl rfl ?_
    refine XS.aloadN X41.here hx rfl (hb hby d1_29) rfl rfl ?_
    exact k)
  obtain ⟨cl46, Ar46, q46, S46, M46, H46, G46⟩ := id f42_7
  have pre47 : Go p.tables e below S0 T41 (mkF m 31 #[vR a0, vR a1, .unset, .unset, .unset] [(.int (4 : Int32)), (.ref a0)]) := fun t k => pre45 t (by
    refine X41.arraylength hx (by rw [e41]; exact Ar46.1) (State.isArrayOf_alike hZ.alike Ar46.2.1) (g := (mkF m 30 #[vR a0, vR a1, .unset, .unset, .unset] [(.ref a1), (.ref a0)])) rfl rfl (hb hby d1_30) _ ?_
    rw [len_of S46 M46]
    exact k)
  obtain ⟨T48, h48, kA48, X48, e48, E48, A48, st48⟩ := newP X41 hx hZ (hw _ (List.mem_of_getElem? (i := 0) rfl)) e41 (g := (mkF m 31 #[vR a0, vR a1, .unset, .unset, .unset] [(.int (4 : Int32)), (.ref a0)])) rfl (hb hby d1_31) rfl (by decide) (cap := 4) (by decide) (by decide) (by decide) (by decide)
  obtain ⟨b48, g48⟩ : ∃ z, z = h41.size := ⟨_, rfl⟩
  rw [← g48] at A48 st48
  have pre48 : Go p.tables e below S0 T48 (mkF m 33 #[vR a0, vR a1, .unset, .unset, .unset] [(.ref b48), (.ref a0)]) := fun t k => pre47 t (st48 t k)
  have ne49 : a0 ≠ b48 := Nat.ne_of_lt (Nat.lt_of_lt_of_le f42_1.lt (Nat.le_of_eq g48.symm))
  have ne50 : a1 ≠ b48 := Nat.ne_of_lt (Nat.lt_of_lt_of_le f42_7.lt (Nat.le_of_eq g48.symm))
  have ne51 : b6 ≠ b48 := Nat.ne_of_lt (Nat.lt_of_lt_of_le f42_8.lt (Nat.le_of_eq g48.symm))
  have ne52 : b19 ≠ b48 := Nat.ne_of_lt (Nat.lt_of_lt_of_le f42_9.lt (Nat.le_of_eq g48.symm))
  have ne53 : b33 ≠ b48 := Nat.ne_of_lt (Nat.lt_of_lt_of_le f42_10.lt (Nat.le_of_eq g48.symm))
  have bo48 : n0 ≤ b48 := Nat.le_trans zz43 (Nat.le_of_eq g48.symm)
  have ol48 : h0.size ≤ b48 := Nat.le_trans kp44.1 (Nat.le_of_eq g48.symm)
  have f54_1 := Exa.ext E48 f42_1
  have f54_2 := Fld.ext E48 f42_2
  have f54_3 := Fld.ext E48 f42_3
  have f54_4 := Fld.ext E48 fw41
  have f54_5 := Fld.ext E48 f42_4
  have f54_6 := Fld.ext E48 f42_5
  have f54_7 := Fld.ext E48 f42_6
  have f54_8 := f42_7.ext E48
  have f54_9 := f42_8.ext E48
  have f54_10 := f42_9.ext E48
  have f54_11 := f42_10.ext E48
  have zz55 : n0 ≤ h48.size := Nat.le_trans zz43 E48.1
  have kp56 : Keep h0 h48 [a0] := kp44.ext E48
  have av48 : Arv Z h48 b48 kA48 .long (4 : Int32) [(.long (0 : Int64)), (.long (0 : Int64)), (.long (0 : Int64)), (.long (0 : Int64))] (.long (0 : Int64)) := (Arv.new A48 (by decide)).pad (pad_rep [] (.long (0 : Int64)) 4)
  obtain ⟨T57, h57, X57, e57, W57, st57⟩ := putF X48 hx hZ hown (host := "") (Or.inl (hw _ (List.mem_of_getElem? (i := 20) rfl))) Via.refl e48 f54_5 f54_1 (Or.inr ⟨(hw _ (List.mem_of_getElem? (i := 21) rfl)), rfl, hnm⟩) (hw _ (List.mem_of_getElem? (i := 6) rfl)) (ty := (.array .long)) (by decide) rfl rfl (g := (mkF m 33 #[vR a0, vR a1, .unset, .unset, .unset] [(.ref b48), (.ref a0)])) rfl rfl (hb hby d1_33)
  have pre57 : Go p.tables e below S0 T57 (mkF m 36 #[vR a0, vR a1, .unset, .unset, .unset] []) := fun t k => pre48 t (st57 t k)
  obtain ⟨lo57, N57, X57⟩ : ∃ lo, Fr n0 lo ∧ Stand p l e ({ frames := 1, cells := 4, slots := 16, locals := 12 } : Room) s m #[(.ref a0), (.ref a1)] below meth c T57 lo 4 16 := ⟨_, Fr.snoc X57 N41 g0, X57⟩
  have fw57 : Fld Z h57 a0 "com/example/garantia/garantia/engine/StateLayout" "others" "[J" (.ref b48) := Fld.same W57 f54_5
  have f58_1 := Exa.wr W57 f54_1
  have f58_2 := Fld.other W57 f54_2 (Or.inr (slot_ne (Or.inr (hw _ (List.mem_of_getElem? (i := 15) rfl))) (Or.inr (hw _ (List.mem_of_getElem? (i := 21) rfl))) (by decide) (t := (.array .int)) (t' := (.array .long)) (by decide) (by decide)))
  have f58_3 := Fld.other W57 f54_3 (Or.inr (slot_ne (Or.inr (hw _ (List.mem_of_getElem? (i := 17) rfl))) (Or.inr (hw _ (List.mem_of_getElem? (i := 21) rfl))) (by decide) (t := (.array .int)) (t' := (.array .long)) (by decide) (by decide)))
  have f58_4 := Fld.other W57 f54_4 (Or.inr (slot_ne (Or.inr (hw _ (List.mem_of_getElem? (i := 19) rfl))) (Or.inr (hw _ (List.mem_of_getElem? (i := 21) rfl))) (by decide) (t := (.array .long)) (t' := (.array .long)) (by decide) (by decide)))
  have f58_5 := Fld.other W57 f54_6 (Or.inr (slot_ne (Or.inr (hw _ (List.mem_of_getElem? (i := 24) rfl))) (Or.inr (hw _ (List.mem_of_getElem? (i := 21) rfl))) (by decide) (t := .int) (t' := (.array .long)) (by decide) (by decide)))
  have f58_6 := Fld.other W57 f54_7 (Or.inr (slot_ne (Or.inr (hw _ (List.mem_of_getElem? (i := 26) rfl))) (Or.inr (hw _ (List.mem_of_getElem? (i := 21) rfl))) (by decide) (t := .boolean) (t' := (.array .long)) (by decide) (by decide)))
  have f58_7 := f54_8.other W57 xe1
  have f58_8 := f54_9.other W57 (Ne.symm ne7)
  have f58_9 := f54_10.other W57 (Ne.symm ne20)
  have f58_10 := f54_11.other W57 (Ne.symm ne34)
  have f58_11 := av48.other W57 (Ne.symm ne49)
  have zz59 : n0 ≤ h57.size := Nat.le_trans zz55 (Keep.of_wr W57).1
  have kp60 : Keep h0 h57 [a0] := kp56.wr W57 (Or.inl (List.mem_of_getElem? (i := 0) rfl))
  have pre61 : Go p.tables e below S0 T57 (mkF m 46 #[vR a0, vR a1, vI (0 : Int32), vI (0 : Int32), vI (0 : Int32)] [(.ref a1), (.int (0 : Int32))]) := fun t k => pre57 t (by
    refine XS.iconst X57.here hx rfl (hb hby d1_36) ?_
    refine XS.istoreN X57.here hx rfl (hb hby d1_37) rfl (l' := #[vR a0, vR a1, vI (0 : Int32), .unset, .unset]) rfl ?_
    refine XS.iconst X57.here hx rfl (hb hby d1_38) ?_
    show Steps p.tables e below (T57.setTop (mkF m 39 #[vR a0, vR a1, vI (0 : Int32), .unset, .unset] [(.int (0 : Int32))])) _
    refine XS.istoreN X57.here hx rfl (hb hby d1_39) rfl (l' := #[vR a0, vR a1, vI (0 : Int32), vI (0 : Int32), .unset]) rfl ?_
    refine XS.iconst X57.here hx rfl (hb hby d1_40) ?_
    refine XS.istore X57.here hx rfl (hb hby d1_41) rfl (l' := #[vR a0, vR a1, vI (0 : Int32), vI (0 : Int32), vI (0 : Int32)]) rfl ?_
    show Steps p.tables e below (T57.setTop (mkF m 43 #[vR a0, vR a1, vI (0 : Int32), vI (0 : Int32), vI (0 : Int32)] [])) _
    refine XS.iload X57.here hx rfl (hb hby d1_43) rfl ?_
    refine XS.aloadN X57.here hx rfl (hb hby d1_45) rfl rfl ?_
    exact k)
  obtain ⟨cl62, Ar62, q62, S62, M62, H62, G62⟩ := id f58_7
  have pre63 : Go p.tables e below S0 T57 (mkF m 54 #[vR a0, vR a1, vI (0 : Int32), vI (0 : Int32), vI (0 : Int32)] [(.int (0 : Int32)), (.ref a1), (.int (0 : Int32))]) := fun t k => pre61 t (by
    refine X57.arraylength hx (by rw [e57]; exact Ar62.1) (State.isArrayOf_alike hZ.alike Ar62.2.1) (g := (mkF m 46 #[vR a0, vR a1, vI (0 : Int32), vI (0 : Int32), vI (0 : Int32)] [(.ref a1), (.int (0 : Int32))])) rfl rfl (hb hby d1_46) _ ?_
    rw [len_of S62 M62]
    refine XS.icmpNo X57.here hx rfl (hb hby d1_47) rfl (tlt (by decide : (0 : Int32) < (4 : Int32))).2.1 ?_
    refine XS.iloadN X57.here hx rfl (hb hby d1_50) rfl ?_
    show Steps p.tables e below (T57.setTop (mkF m 51 #[vR a0, vR a1, vI (0 : Int32), vI (0 : Int32), vI (0 : Int32)] [(.int (0 : Int32))])) _
    refine XS.aloadN X57.here hx rfl (hb hby d1_51) rfl rfl ?_
    refine XS.iload X57.here hx rfl (hb hby d1_52) rfl ?_
    exact k)
  obtain ⟨cl64, Ar64, q64, S64, M64, H64, G64⟩ := id f58_7
  have in64 : ¬ ((0 : Int32) < 0 ∨ cl64.slots.size ≤ ((0 : Int32)).toNatClampNeg) := inb_of S64 ⟨by decide, by decide⟩
  have at64 : cl64.slots[((0 : Int32)).toNatClampNeg]? = some (.int w0) := H64.at in64 rfl
  have pre65 : Go p.tables e below S0 T57 (mkF m 58 #[vR a0, vR a1, vI (0 : Int32), vI (0 : Int32), vI (0 : Int32)] [(.int (64 : Int32)), (.int ((0 : Int32) + w0))]) := fun t k => pre63 t (by
    refine X57.iaload hx (j := (0 : Int32)) (v := (.int w0)) (by rw [e57]; exact Ar64.1) (State.isArrayOf_alike hZ.alike Ar64.2.1) Ar64.2.2 in64 at64 (g := (mkF m 54 #[vR a0, vR a1, vI (0 : Int32), vI (0 : Int32), vI (0 : Int32)] [(.int (0 : Int32)), (.ref a1), (.int (0 : Int32))])) rfl rfl (hb hby d1_54) _ ?_
    refine XS.iadd X57.here hx rfl (hb hby d1_55) rfl ?_
    refine XS.bipush X57.here hx rfl (hb hby d1_56) ?_
    show Steps p.tables e below (T57.setTop (mkF m 58 #[vR a0, vR a1, vI (0 : Int32), vI (0 : Int32), vI (0 : Int32)] [(.int (64 : Int32)), (.int ((0 : Int32) + w0))])) _
    exact k)
  have cc66 : ¬ ((64 : Int32) < ((0 : Int32) + w0)) := own_no1 hw0
  have pre67 : Go p.tables e below S0 T57 (mkF m 67 #[vR a0, vR a1, vI (0 : Int32), vI (0 : Int32), vI (0 : Int32)] [(.ref a0)]) := fun t k => pre65 t (by
    refine XS.icmpYes X57.here hx rfl (pc0 := 58) (pc' := 66) rfl (hb hby d1_58) rfl (flt cc66).2.2.2 (by decide) (by decide) ?_
    refine XS.aloadN X57.here hx rfl (hb hby d1_66) rfl rfl ?_
    exact k)
  obtain ⟨T68, X68, e68, st68⟩ := getF X57 hx hZ hown (host := "") (Or.inl (hw _ (List.mem_of_getElem? (i := 14) rfl))) Via.refl e57 f58_2 (g := (mkF m 67 #[vR a0, vR a1, vI (0 : Int32), vI (0 : Int32), vI (0 : Int32)] [(.ref a0)])) rfl rfl (hb hby d1_67)
  have pre68 : Go p.tables e below S0 T68 (mkF m 70 #[vR a0, vR a1, vI (0 : Int32), vI (0 : Int32), vI (0 : Int32)] [(.ref b6)]) := fun t k => pre67 t (st68 t k)
  have pre69 : Go p.tables e below S0 T68 (mkF m 73 #[vR a0, vR a1, vI (0 : Int32), vI (0 : Int32), vI (0 : Int32)] [(.int (0 : Int32)), (.int (0 : Int32)), (.ref b6)]) := fun t k => pre68 t (by
    refine XS.iload X68.here hx rfl (hb hby d1_70) rfl ?_
    refine XS.iloadN X68.here hx rfl (hb hby d1_72) rfl ?_
    exact k)
  obtain ⟨cl70, Ar70, q70, S70, M70, H70, G70⟩ := id f58_8
  have in70 : ¬ ((0 : Int32) < 0 ∨ cl70.slots.size ≤ ((0 : Int32)).toNatClampNeg) := inb_of S70 ⟨by decide, by decide⟩
  obtain ⟨T70, h70, X70, e70, W70, st70⟩ := stI X68 hx hZ e68 Ar70 (j := (0 : Int32)) in70 (g := (mkF m 73 #[vR a0, vR a1, vI (0 : Int32), vI (0 : Int32), vI (0 : Int32)] [(.int (0 : Int32)), (.int (0 : Int32)), (.ref b6)])) rfl rfl (hb hby d1_73)
  have pre70 : Go p.tables e below S0 T70 (mkF m 74 #[vR a0, vR a1, vI (0 : Int32), vI (0 : Int32), vI (0 : Int32)] []) := fun t k => pre69 t (st70 t k)
  obtain ⟨lo70, N70, X70⟩ : ∃ lo, Fr n0 lo ∧ Stand p l e ({ frames := 1, cells := 4, slots := 16, locals := 12 } : Room) s m #[(.ref a0), (.ref a1)] below meth c T70 lo 4 16 := ⟨_, Fr.snoc X70 N57 bo6, X70⟩
  have av70 : Arv Z h70 b6 kA6 .int (4 : Int32) [(.int (0 : Int32)), (.int (0 : Int32)), (.int (0 : Int32)), (.int (0 : Int32))] (.int (0 : Int32)) := Arv.set Ar70 q70 S70 M70 H70 G70 rfl W70 0 rfl (Nat.le_of_ble_eq_true rfl)
  have f71_1 := Exa.wr W70 f58_1
  have f71_2 := Fld.other W70 f58_2 (Or.inl ne7)
  have f71_3 := Fld.other W70 f58_3 (Or.inl ne7)
  have f71_4 := Fld.other W70 f58_4 (Or.inl ne7)
  have f71_5 := Fld.other W70 fw57 (Or.inl ne7)
  have f71_6 := Fld.other W70 f58_5 (Or.inl ne7)
  have f71_7 := Fld.other W70 f58_6 (Or.inl ne7)
  have f71_8 := f58_7.other W70 ne8
  have f71_9 := f58_9.other W70 (Ne.symm ne22)
  have f71_10 := f58_10.other W70 (Ne.symm ne36)
  have f71_11 := f58_11.other W70 (Ne.symm ne51)
  have zz72 : n0 ≤ h70.size := Nat.le_trans zz59 (Keep.of_wr W70).1
  have kp73 : Keep h0 h70 [a0] := kp60.wr W70 (Or.inr ol6)
  have pre74 : Go p.tables e below S0 T70 (mkF m 75 #[vR a0, vR a1, vI (0 : Int32), vI (0 : Int32), vI (0 : Int32)] [(.ref a0)]) := fun t k => pre70 t (by
    refine XS.aloadN X70.here hx rfl (hb hby d1_74) rfl rfl ?_
    exact k)
  obtain ⟨T75, X75, e75, st75⟩ := getF X70 hx hZ hown (host := "") (Or.inl (hw _ (List.mem_of_getElem? (i := 16) rfl))) Via.refl e70 f71_3 (g := (mkF m 75 #[vR a0, vR a1, vI (0 : Int32), vI (0 : Int32), vI (0 : Int32)] [(.ref a0)])) rfl rfl (hb hby d1_75)
  have pre75 : Go p.tables e below S0 T75 (mkF m 78 #[vR a0, vR a1, vI (0 : Int32), vI (0 : Int32), vI (0 : Int32)] [(.ref b19)]) := fun t k => pre74 t (st75 t k)
  have pre76 : Go p.tables e below S0 T75 (mkF m 81 #[vR a0, vR a1, vI (0 : Int32), vI (0 : Int32), vI (0 : Int32)] [(.int (0 : Int32)), (.int (0 : Int32)), (.ref b19)]) := fun t k => pre75 t (by
    refine XS.iload X75.here hx rfl (hb hby d1_78) rfl ?_
    refine XS.iloadN X75.here hx rfl (hb hby d1_80) rfl ?_
    exact k)
  obtain ⟨cl77, Ar77, q77, S77, M77, H77, G77⟩ := id f71_9
  have in77 : ¬ ((0 : Int32) < 0 ∨ cl77.slots.size ≤ ((0 : Int32)).toNatClampNeg) := inb_of S77 ⟨by decide, by decide⟩
  obtain ⟨T77, h77, X77, e77, W77, st77⟩ := stI X75 hx hZ e75 Ar77 (j := (0 : Int32)) in77 (g := (mkF m 81 #[vR a0, vR a1, vI (0 : Int32), vI (0 : Int32), vI (0 : Int32)] [(.int (0 : Int32)), (.int (0 : Int32)), (.ref b19)])) rfl rfl (hb hby d1_81)
  have pre77 : Go p.tables e below S0 T77 (mkF m 82 #[vR a0, vR a1, vI (0 : Int32), vI (0 : Int32), vI (0 : Int32)] []) := fun t k => pre76 t (st77 t k)
  obtain ⟨lo77, N77, X77⟩ : ∃ lo, Fr n0 lo ∧ Stand p l e ({ frames := 1, cells := 4, slots := 16, locals := 12 } : Room) s m #[(.ref a0), (.ref a1)] below meth c T77 lo 4 16 := ⟨_, Fr.snoc X77 N70 bo19, X77⟩
  have av77 : Arv Z h77 b19 kA19 .int (4 : Int32) [(.int (0 : Int32)), (.int (0 : Int32)), (.int (0 : Int32)), (.int (0 : Int32))] (.int (0 : Int32)) := Arv.set Ar77 q77 S77 M77 H77 G77 rfl W77 0 rfl (Nat.le_of_ble_eq_true rfl)
  have f78_1 := Exa.wr W77 f71_1
  have f78_2 := Fld.other W77 f71_2 (Or.inl ne20)
  have f78_3 := Fld.other W77 f71_3 (Or.inl ne20)
  have f78_4 := Fld.other W77 f71_4 (Or.inl ne20)
  have f78_5 := Fld.other W77 f71_5 (Or.inl ne20)
  have f78_6 := Fld.other W77 f71_6 (Or.inl ne20)
  have f78_7 := Fld.other W77 f71_7 (Or.inl ne20)
  have f78_8 := f71_8.other W77 ne21
  have f78_9 := av70.other W77 ne22
  have f78_10 := f71_10.other W77 (Ne.symm ne37)
  have f78_11 := f71_11.other W77 (Ne.symm ne52)
  have zz79 : n0 ≤ h77.size := Nat.le_trans zz72 (Keep.of_wr W77).1
  have kp80 : Keep h0 h77 [a0] := kp73.wr W77 (Or.inr ol19)
  have pre81 : Go p.tables e below S0 T77 (mkF m 83 #[vR a0, vR a1, vI (0 : Int32), vI (0 : Int32), vI (0 : Int32)] [(.ref a0)]) := fun t k => pre77 t (by
    refine XS.aloadN X77.here hx rfl (hb hby d1_82) rfl rfl ?_
    exact k)
  obtain ⟨T82, X82, e82, st82⟩ := getF X77 hx hZ hown (host := "") (Or.inl (hw _ (List.mem_of_getElem? (i := 18) rfl))) Via.refl e77 f78_4 (g := (mkF m 83 #[vR a0, vR a1, vI (0 : Int32), vI (0 : Int32), vI (0 : Int32)] [(.ref a0)])) rfl rfl (hb hby d1_83)
  have pre82 : Go p.tables e below S0 T82 (mkF m 86 #[vR a0, vR a1, vI (0 : Int32), vI (0 : Int32), vI (0 : Int32)] [(.ref b33)]) := fun t k => pre81 t (st82 t k)
  have pre83 : Go p.tables e below S0 T82 (mkF m 92 #[vR a0, vR a1, vI (0 : Int32), vI (0 : Int32), vI (0 : Int32)] [(.int (0 : Int32)), (.ref a1), (.long (1 : Int64)), (.int (0 : Int32)), (.ref b33)]) := fun t k => pre82 t (by
    refine XS.iload X82.here hx rfl (hb hby d1_86) rfl ?_
    refine XS.lconst X82.here hx rfl (hb hby d1_88) ?_
    refine XS.aloadN X82.here hx rfl (hb hby d1_89) rfl rfl ?_
    show Steps p.tables e below (T82.setTop (mkF m 90 #[vR a0, vR a1, vI (0 : Int32), vI (0 : Int32), vI (0 : Int32)] [(.ref a1), (.long (1 : Int64)), (.int (0 : Int32)), (.ref b33)])) _
    refine XS.iload X82.here hx rfl (hb hby d1_90) rfl ?_
    exact k)
  obtain ⟨cl84, Ar84, q84, S84, M84, H84, G84⟩ := id f78_8
  have in84 : ¬ ((0 : Int32) < 0 ∨ cl84.slots.size ≤ ((0 : Int32)).toNatClampNeg) := inb_of S84 ⟨by decide, by decide⟩
  have at84 : cl84.slots[((0 : Int32)).toNatClampNeg]? = some (.int w0) := H84.at in84 rfl
  have pre85 : Go p.tables e below S0 T82 (mkF m 96 #[vR a0, vR a1, vI (0 : Int32), vI (0 : Int32), vI (0 : Int32)] [(.long (((1 : Int64) <<< (w0 &&& 0x3f).toInt64) - (1 : Int64))), (.int (0 : Int32)), (.ref b33)]) := fun t k => pre83 t (by
    refine X82.iaload hx (j := (0 : Int32)) (v := (.int w0)) (by rw [e82]; exact Ar84.1) (State.isArrayOf_alike hZ.alike Ar84.2.1) Ar84.2.2 in84 at84 (g := (mkF m 92 #[vR a0, vR a1, vI (0 : Int32), vI (0 : Int32), vI (0 : Int32)] [(.int (0 : Int32)), (.ref a1), (.long (1 : Int64)), (.int (0 : Int32)), (.ref b33)])) rfl rfl (hb hby d1_92) _ ?_
    refine XS.lshl X82.here hx rfl (hb hby d1_93) rfl ?_
    refine XS.lconst X82.here hx rfl (hb hby d1_94) ?_
    show Steps p.tables e below (T82.setTop (mkF m 95 #[vR a0, vR a1, vI (0 : Int32), vI (0 : Int32), vI (0 : Int32)] [(.long (1 : Int64)), (.long ((1 : Int64) <<< (w0 &&& 0x3f).toInt64)), (.int (0 : Int32)), (.ref b33)])) _
    refine XS.lsub X82.here hx rfl (hb hby d1_95) rfl ?_
    exact k)
  obtain ⟨cl86, Ar86, q86, S86, M86, H86, G86⟩ := id f78_10
  have in86 : ¬ ((0 : Int32) < 0 ∨ cl86.slots.size ≤ ((0 : Int32)).toNatClampNeg) := inb_of S86 ⟨by decide, by decide⟩
  obtain ⟨T86, h86, X86, e86, W86, st86⟩ := stJ X82 hx hZ e82 Ar86 (j := (0 : Int32)) in86 (g := (mkF m 96 #[vR a0, vR a1, vI (0 : Int32), vI (0 : Int32), vI (0 : Int32)] [(.long (((1 : Int64) <<< (w0 &&& 0x3f).toInt64) - (1 : Int64))), (.int (0 : Int32)), (.ref b33)])) rfl rfl (hb hby d1_96)
  have pre86 : Go p.tables e below S0 T86 (mkF m 97 #[vR a0, vR a1, vI (0 : Int32), vI (0 : Int32), vI (0 : Int32)] []) := fun t k => pre85 t (st86 t k)
  obtain ⟨lo86, N86, X86⟩ : ∃ lo, Fr n0 lo ∧ Stand p l e ({ frames := 1, cells := 4, slots := 16, locals := 12 } : Room) s m #[(.ref a0), (.ref a1)] below meth c T86 lo 4 16 := ⟨_, Fr.snoc X86 N77 bo33, X86⟩
  have av86 : Arv Z h86 b33 kA33 .long (4 : Int32) [(.long (((1 : Int64) <<< (w0 &&& 0x3f).toInt64) - (1 : Int64))), (.long (0 : Int64)), (.long (0 : Int64)), (.long (0 : Int64))] (.long (0 : Int64)) := Arv.set Ar86 q86 S86 M86 H86 G86 rfl W86 0 rfl (Nat.le_of_ble_eq_true rfl)
  have f87_1 := Exa.wr W86 f78_1
  have f87_2 := Fld.other W86 f78_2 (Or.inl ne34)
  have f87_3 := Fld.other W86 f78_3 (Or.inl ne34)
  have f87_4 := Fld.other W86 f78_4 (Or.inl ne34)
  have f87_5 := Fld.other W86 f78_5 (Or.inl ne34)
  have f87_6 := Fld.other W86 f78_6 (Or.inl ne34)
  have f87_7 := Fld.other W86 f78_7 (Or.inl ne34)
  have f87_8 := f78_8.other W86 ne35
  have f87_9 := f78_9.other W86 ne36
  have f87_10 := av77.other W86 ne37
  have f87_11 := f78_11.other W86 (Ne.symm ne53)
  have zz88 : n0 ≤ h86.size := Nat.le_trans zz79 (Keep.of_wr W86).1
  have kp89 : Keep h0 h86 [a0] := kp80.wr W86 (Or.inr ol33)
  have pre90 : Go p.tables e below S0 T86 (mkF m 98 #[vR a0, vR a1, vI (0 : Int32), vI (0 : Int32), vI (0 : Int32)] [(.ref a0)]) := fun t k => pre86 t (by
    refine XS.aloadN X86.here hx rfl (hb hby d1_97) rfl rfl ?_
    exact k)
  obtain ⟨T91, X91, e91, st91⟩ := getF X86 hx hZ hown (host := "") (Or.inl (hw _ (List.mem_of_getElem? (i := 20) rfl))) Via.refl e86 f87_5 (g := (mkF m 98 #[vR a0, vR a1, vI (0 : Int32), vI (0 : Int32), vI (0 : Int32)] [(.ref a0)])) rfl rfl (hb hby d1_98)
  have pre91 : Go p.tables e below S0 T91 (mkF m 101 #[vR a0, vR a1, vI (0 : Int32), vI (0 : Int32), vI (0 : Int32)] [(.ref b48)]) := fun t k => pre90 t (st91 t k)
  have pre92 : Go p.tables e below S0 T91 (mkF m 104 #[vR a0, vR a1, vI (0 : Int32), vI (0 : Int32), vI (0 : Int32)] [(.ref a0), (.int (0 : Int32)), (.ref b48)]) := fun t k => pre91 t (by
    refine XS.iload X91.here hx rfl (hb hby d1_101) rfl ?_
    refine XS.aloadN X91.here hx rfl (hb hby d1_103) rfl rfl ?_
    exact k)
  obtain ⟨T93, X93, e93, st93⟩ := getF X91 hx hZ hown (host := "") (Or.inl (hw _ (List.mem_of_getElem? (i := 18) rfl))) Via.refl e91 f87_4 (g := (mkF m 104 #[vR a0, vR a1, vI (0 : Int32), vI (0 : Int32), vI (0 : Int32)] [(.ref a0), (.int (0 : Int32)), (.ref b48)])) rfl rfl (hb hby d1_104)
  have pre93 : Go p.tables e below S0 T93 (mkF m 107 #[vR a0, vR a1, vI (0 : Int32), vI (0 : Int32), vI (0 : Int32)] [(.ref b33), (.int (0 : Int32)), (.ref b48)]) := fun t k => pre92 t (st93 t k)
  have pre94 : Go p.tables e below S0 T93 (mkF m 109 #[vR a0, vR a1, vI (0 : Int32), vI (0 : Int32), vI (0 : Int32)] [(.int (0 : Int32)), (.ref b33), (.int (0 : Int32)), (.ref b48)]) := fun t k => pre93 t (by
    refine XS.iload X93.here hx rfl (hb hby d1_107) rfl ?_
    exact k)
  obtain ⟨cl95, Ar95, q95, S95, M95, H95, G95⟩ := id av86
  have in95 : ¬ ((0 : Int32) < 0 ∨ cl95.slots.size ≤ ((0 : Int32)).toNatClampNeg) := inb_of S95 ⟨by decide, by decide⟩
  have at95 : cl95.slots[((0 : Int32)).toNatClampNeg]? = some (.long (((1 : Int64) <<< (w0 &&& 0x3f).toInt64) - (1 : Int64))) := H95.at in95 rfl
  have pre96 : Go p.tables e below S0 T93 (mkF m 116 #[vR a0, vR a1, vI (0 : Int32), vI (0 : Int32), vI (0 : Int32)] [(.long (((((1 : Int64) <<< (w0 &&& 0x3f).toInt64) - (1 : Int64)) <<< ((0 : Int32) &&& 0x3f).toInt64) ^^^ (-1 : Int64))), (.int (0 : Int32)), (.ref b48)]) := fun t k => pre94 t (by
    refine X93.laload hx (j := (0 : Int32)) (v := (.long (((1 : Int64) <<< (w0 &&& 0x3f).toInt64) - (1 : Int64)))) (by rw [e93]; exact Ar95.1) (State.isArrayOf_alike hZ.alike Ar95.2.1) Ar95.2.2 in95 at95 (g := (mkF m 109 #[vR a0, vR a1, vI (0 : Int32), vI (0 : Int32), vI (0 : Int32)] [(.int (0 : Int32)), (.ref b33), (.int (0 : Int32)), (.ref b48)])) rfl rfl (hb hby d1_109) _ ?_
    refine XS.iloadN X93.here hx rfl (hb hby d1_110) rfl ?_
    refine XS.lshl X93.here hx rfl (hb hby d1_111) rfl ?_
    show Steps p.tables e below (T93.setTop (mkF m 112 #[vR a0, vR a1, vI (0 : Int32), vI (0 : Int32), vI (0 : Int32)] [(.long ((((1 : Int64) <<< (w0 &&& 0x3f).toInt64) - (1 : Int64)) <<< ((0 : Int32) &&& 0x3f).toInt64)), (.int (0 : Int32)), (.ref b48)])) _
    refine X93.ldc2Long hx hown (mvT hZ (hw _ (List.mem_of_getElem? (i := 22) rfl))) (g := (mkF m 112 #[vR a0, vR a1, vI (0 : Int32), vI (0 : Int32), vI (0 : Int32)] [(.long ((((1 : Int64) <<< (w0 &&& 0x3f).toInt64) - (1 : Int64)) <<< ((0 : Int32) &&& 0x3f).toInt64)), (.int (0 : Int32)), (.ref b48)])) rfl (hb hby d1_112) _ ?_
    refine XS.lxor X93.here hx rfl (hb hby d1_115) rfl ?_
    exact k)
  obtain ⟨cl97, Ar97, q97, S97, M97, H97, G97⟩ := id f87_11
  have in97 : ¬ ((0 : Int32) < 0 ∨ cl97.slots.size ≤ ((0 : Int32)).toNatClampNeg) := inb_of S97 ⟨by decide, by decide⟩
  obtain ⟨T97, h97, X97, e97, W97, st97⟩ := stJ X93 hx hZ e93 Ar97 (j := (0 : Int32)) in97 (g := (mkF m 116 #[vR a0, vR a1, vI (0 : Int32), vI (0 : Int32), vI (0 : Int32)] [(.long (((((1 : Int64) <<< (w0 &&& 0x3f).toInt64) - (1 : Int64)) <<< ((0 : Int32) &&& 0x3f).toInt64) ^^^ (-1 : Int64))), (.int (0 : Int32)), (.ref b48)])) rfl rfl (hb hby d1_116)
  have pre97 : Go p.tables e below S0 T97 (mkF m 117 #[vR a0, vR a1, vI (0 : Int32), vI (0 : Int32), vI (0 : Int32)] []) := fun t k => pre96 t (st97 t k)
  obtain ⟨lo97, N97, X97⟩ : ∃ lo, Fr n0 lo ∧ Stand p l e ({ frames := 1, cells := 4, slots := 16, locals := 12 } : Room) s m #[(.ref a0), (.ref a1)] below meth c T97 lo 4 16 := ⟨_, Fr.snoc X97 N86 bo48, X97⟩
  have av97 : Arv Z h97 b48 kA48 .long (4 : Int32) [(.long (((((1 : Int64) <<< (w0 &&& 0x3f).toInt64) - (1 : Int64)) <<< ((0 : Int32) &&& 0x3f).toInt64) ^^^ (-1 : Int64))), (.long (0 : Int64)), (.long (0 : Int64)), (.long (0 : Int64))] (.long (0 : Int64)) := Arv.set Ar97 q97 S97 M97 H97 G97 rfl W97 0 rfl (Nat.le_of_ble_eq_true rfl)
  have f98_1 := Exa.wr W97 f87_1
  have f98_2 := Fld.other W97 f87_2 (Or.inl ne49)
  have f98_3 := Fld.other W97 f87_3 (Or.inl ne49)
  have f98_4 := Fld.other W97 f87_4 (Or.inl ne49)
  have f98_5 := Fld.other W97 f87_5 (Or.inl ne49)
  have f98_6 := Fld.other W97 f87_6 (Or.inl ne49)
  have f98_7 := Fld.other W97 f87_7 (Or.inl ne49)
  have f98_8 := f87_8.other W97 ne50
  have f98_9 := f87_9.other W97 ne51
  have f98_10 := f87_10.other W97 ne52
  have f98_11 := av86.other W97 ne53
  have zz99 : n0 ≤ h97.size := Nat.le_trans zz88 (Keep.of_wr W97).1
  have kp100 : Keep h0 h97 [a0] := kp89.wr W97 (Or.inr ol48)
  have pre101 : Go p.tables e below S0 T97 (mkF m 121 #[vR a0, vR a1, vI (0 : Int32), vI (0 : Int32), vI (0 : Int32)] [(.int (0 : Int32)), (.ref a1), (.int (0 : Int32))]) := fun t k => pre97 t (by
    refine XS.iloadN X97.here hx rfl (hb hby d1_117) rfl ?_
    refine XS.aloadN X97.here hx rfl (hb hby d1_118) rfl rfl ?_
    refine XS.iload X97.here hx rfl (hb hby d1_119) rfl ?_
    show Steps p.tables e below (T97.setTop (mkF m 121 #[vR a0, vR a1, vI (0 : Int32), vI (0 : Int32), vI (0 : Int32)] [(.int (0 : Int32)), (.ref a1), (.int (0 : Int32))])) _
    exact k)
  obtain ⟨cl102, Ar102, q102, S102, M102, H102, G102⟩ := id f98_8
  have in102 : ¬ ((0 : Int32) < 0 ∨ cl102.slots.size ≤ ((0 : Int32)).toNatClampNeg) := inb_of S102 ⟨by decide, by decide⟩
  have at102 : cl102.slots[((0 : Int32)).toNatClampNeg]? = some (.int w0) := H102.at in102 rfl
  have pre103 : Go p.tables e below S0 T97 (mkF m 46 #[vR a0, vR a1, vI ((0 : Int32) + w0), vI (0 : Int32), vI (1 : Int32)] [(.ref a1), (.int (1 : Int32))]) := fun t k => pre101 t (by
    refine X97.iaload hx (j := (0 : Int32)) (v := (.int w0)) (by rw [e97]; exact Ar102.1) (State.isArrayOf_alike hZ.alike Ar102.2.1) Ar102.2.2 in102 at102 (g := (mkF m 121 #[vR a0, vR a1, vI (0 : Int32), vI (0 : Int32), vI (0 : Int32)] [(.int (0 : Int32)), (.ref a1), (.int (0 : Int32))])) rfl rfl (hb hby d1_121) _ ?_
    refine XS.iadd X97.here hx rfl (hb hby d1_122) rfl ?_
    refine XS.istoreN X97.here hx rfl (hb hby d1_123) rfl (l' := #[vR a0, vR a1, vI ((0 : Int32) + w0), vI (0 : Int32), vI (0 : Int32)]) rfl ?_
    show Steps p.tables e below (T97.setTop (mkF m 124 #[vR a0, vR a1, vI ((0 : Int32) + w0), vI (0 : Int32), vI (0 : Int32)] [])) _
    refine XS.iinc X97.here hx rfl (hb hby d1_124) rfl (l' := #[vR a0, vR a1, vI ((0 : Int32) + w0), vI (0 : Int32), vI (1 : Int32)]) rfl ?_
    refine XS.goto X97.here hx rfl (pc0 := 127) (pc' := 43) rfl (hb hby d1_127) (by decide) (by decide) ?_
    refine XS.iload X97.here hx rfl (hb hby d1_43) rfl ?_
    show Steps p.tables e below (T97.setTop (mkF m 45 #[vR a0, vR a1, vI ((0 : Int32) + w0), vI (0 : Int32), vI (1 : Int32)] [(.int (1 : Int32))])) _
    refine XS.aloadN X97.here hx rfl (hb hby d1_45) rfl rfl ?_
    exact k)
  obtain ⟨cl104, Ar104, q104, S104, M104, H104, G104⟩ := id f98_8
  have pre105 : Go p.tables e below S0 T97 (mkF m 54 #[vR a0, vR a1, vI ((0 : Int32) + w0), vI (0 : Int32), vI (1 : Int32)] [(.int (1 : Int32)), (.ref a1), (.int ((0 : Int32) + w0))]) := fun t k => pre103 t (by
    refine X97.arraylength hx (by rw [e97]; exact Ar104.1) (State.isArrayOf_alike hZ.alike Ar104.2.1) (g := (mkF m 46 #[vR a0, vR a1, vI ((0 : Int32) + w0), vI (0 : Int32), vI (1 : Int32)] [(.ref a1), (.int (1 : Int32))])) rfl rfl (hb hby d1_46) _ ?_
    rw [len_of S104 M104]
    refine XS.icmpNo X97.here hx rfl (hb hby d1_47) rfl (tlt (by decide : (1 : Int32) < (4 : Int32))).2.1 ?_
    refine XS.iloadN X97.here hx rfl (hb hby d1_50) rfl ?_
    show Steps p.tables e below (T97.setTop (mkF m 51 #[vR a0, vR a1, vI ((0 : Int32) + w0), vI (0 : Int32), vI (1 : Int32)] [(.int ((0 : Int32) + w0))])) _
    refine XS.aloadN X97.here hx rfl (hb hby d1_51) rfl rfl ?_
    refine XS.iload X97.here hx rfl (hb hby d1_52) rfl ?_
    exact k)
  obtain ⟨cl106, Ar106, q106, S106, M106, H106, G106⟩ := id f98_8
  have in106 : ¬ ((1 : Int32) < 0 ∨ cl106.slots.size ≤ ((1 : Int32)).toNatClampNeg) := inb_of S106 ⟨by decide, by decide⟩
  have at106 : cl106.slots[((1 : Int32)).toNatClampNeg]? = some (.int w1) := H106.at in106 rfl
  have pre107 : Go p.tables e below S0 T97 (mkF m 58 #[vR a0, vR a1, vI ((0 : Int32) + w0), vI (0 : Int32), vI (1 : Int32)] [(.int (64 : Int32)), (.int (((0 : Int32) + w0) + w1))]) := fun t k => pre105 t (by
    refine X97.iaload hx (j := (1 : Int32)) (v := (.int w1)) (by rw [e97]; exact Ar106.1) (State.isArrayOf_alike hZ.alike Ar106.2.1) Ar106.2.2 in106 at106 (g := (mkF m 54 #[vR a0, vR a1, vI ((0 : Int32) + w0), vI (0 : Int32), vI (1 : Int32)] [(.int (1 : Int32)), (.ref a1), (.int ((0 : Int32) + w0))])) rfl rfl (hb hby d1_54) _ ?_
    refine XS.iadd X97.here hx rfl (hb hby d1_55) rfl ?_
    refine XS.bipush X97.here hx rfl (hb hby d1_56) ?_
    show Steps p.tables e below (T97.setTop (mkF m 58 #[vR a0, vR a1, vI ((0 : Int32) + w0), vI (0 : Int32), vI (1 : Int32)] [(.int (64 : Int32)), (.int (((0 : Int32) + w0) + w1))])) _
    exact k)
  have cc108 : ¬ ((64 : Int32) < (((0 : Int32) + w0) + w1)) := own_no2 hw0 hw1
  have pre109 : Go p.tables e below S0 T97 (mkF m 67 #[vR a0, vR a1, vI ((0 : Int32) + w0), vI (0 : Int32), vI (1 : Int32)] [(.ref a0)]) := fun t k => pre107 t (by
    refine XS.icmpYes X97.here hx rfl (pc0 := 58) (pc' := 66) rfl (hb hby d1_58) rfl (flt cc108).2.2.2 (by decide) (by decide) ?_
    refine XS.aloadN X97.here hx rfl (hb hby d1_66) rfl rfl ?_
    exact k)
  obtain ⟨T110, X110, e110, st110⟩ := getF X97 hx hZ hown (host := "") (Or.inl (hw _ (List.mem_of_getElem? (i := 14) rfl))) Via.refl e97 f98_2 (g := (mkF m 67 #[vR a0, vR a1, vI ((0 : Int32) + w0), vI (0 : Int32), vI (1 : Int32)] [(.ref a0)])) rfl rfl (hb hby d1_67)
  have pre110 : Go p.tables e below S0 T110 (mkF m 70 #[vR a0, vR a1, vI ((0 : Int32) + w0), vI (0 : Int32), vI (1 : Int32)] [(.ref b6)]) := fun t k => pre109 t (st110 t k)
  have pre111 : Go p.tables e below S0 T110 (mkF m 73 #[vR a0, vR a1, vI ((0 : Int32) + w0), vI (0 : Int32), vI (1 : Int32)] [(.int (0 : Int32)), (.int (1 : Int32)), (.ref b6)]) := fun t k => pre110 t (by
    refine XS.iload X110.here hx rfl (hb hby d1_70) rfl ?_
    refine XS.iloadN X110.here hx rfl (hb hby d1_72) rfl ?_
    exact k)
  obtain ⟨cl112, Ar112, q112, S112, M112, H112, G112⟩ := id f98_9
  have in112 : ¬ ((1 : Int32) < 0 ∨ cl112.slots.size ≤ ((1 : Int32)).toNatClampNeg) := inb_of S112 ⟨by decide, by decide⟩
  obtain ⟨T112, h112, X112, e112, W112, st112⟩ := stI X110 hx hZ e110 Ar112 (j := (1 : Int32)) in112 (g := (mkF m 73 #[vR a0, vR a1, vI ((0 : Int32) + w0), vI (0 : Int32), vI (1 : Int32)] [(.int (0 : Int32)), (.int (1 : Int32)), (.ref b6)])) rfl rfl (hb hby d1_73)
  have pre112 : Go p.tables e below S0 T112 (mkF m 74 #[vR a0, vR a1, vI ((0 : Int32) + w0), vI (0 : Int32), vI (1 : Int32)] []) := fun t k => pre111 t (st112 t k)
  obtain ⟨lo112, N112, X112⟩ : ∃ lo, Fr n0 lo ∧ Stand p l e ({ frames := 1, cells := 4, slots := 16, locals := 12 } : Room) s m #[(.ref a0), (.ref a1)] below meth c T112 lo 4 16 := ⟨_, Fr.snoc X112 N97 bo6, X112⟩
  have av112 : Arv Z h112 b6 kA6 .int (4 : Int32) [(.int (0 : Int32)), (.int (0 : Int32)), (.int (0 : Int32)), (.int (0 : Int32))] (.int (0 : Int32)) := Arv.set Ar112 q112 S112 M112 H112 G112 rfl W112 1 rfl (Nat.le_of_ble_eq_true rfl)
  have f113_1 := Exa.wr W112 f98_1
  have f113_2 := Fld.other W112 f98_2 (Or.inl ne7)
  have f113_3 := Fld.other W112 f98_3 (Or.inl ne7)
  have f113_4 := Fld.other W112 f98_4 (Or.inl ne7)
  have f113_5 := Fld.other W112 f98_5 (Or.inl ne7)
  have f113_6 := Fld.other W112 f98_6 (Or.inl ne7)
  have f113_7 := Fld.other W112 f98_7 (Or.inl ne7)
  have f113_8 := f98_8.other W112 ne8
  have f113_9 := f98_10.other W112 (Ne.symm ne22)
  have f113_10 := f98_11.other W112 (Ne.symm ne36)
  have f113_11 := av97.other W112 (Ne.symm ne51)
  have zz114 : n0 ≤ h112.size := Nat.le_trans zz99 (Keep.of_wr W112).1
  have kp115 : Keep h0 h112 [a0] := kp100.wr W112 (Or.inr ol6)
  have pre116 : Go p.tables e below S0 T112 (mkF m 75 #[vR a0, vR a1, vI ((0 : Int32) + w0), vI (0 : Int32), vI (1 : Int32)] [(.ref a0)]) := fun t k => pre112 t (by
    refine XS.aloadN X112.here hx rfl (hb hby d1_74) rfl rfl ?_
    exact k)
  obtain ⟨T117, X117, e117, st117⟩ := getF X112 hx hZ hown (host := "") (Or.inl (hw _ (List.mem_of_getElem? (i := 16) rfl))) Via.refl e112 f113_3 (g := (mkF m 75 #[vR a0, vR a1, vI ((0 : Int32) + w0), vI (0 : Int32), vI (1 : Int32)] [(.ref a0)])) rfl rfl (hb hby d1_75)
  have pre117 : Go p.tables e below S0 T117 (mkF m 78 #[vR a0, vR a1, vI ((0 : Int32) + w0), vI (0 : Int32), vI (1 : Int32)] [(.ref b19)]) := fun t k => pre116 t (st117 t k)
  have pre118 : Go p.tables e below S0 T117 (mkF m 81 #[vR a0, vR a1, vI ((0 : Int32) + w0), vI (0 : Int32), vI (1 : Int32)] [(.int ((0 : Int32) + w0)), (.int (1 : Int32)), (.ref b19)]) := fun t k => pre117 t (by
    refine XS.iload X117.here hx rfl (hb hby d1_78) rfl ?_
    refine XS.iloadN X117.here hx rfl (hb hby d1_80) rfl ?_
    exact k)
  obtain ⟨cl119, Ar119, q119, S119, M119, H119, G119⟩ := id f113_9
  have in119 : ¬ ((1 : Int32) < 0 ∨ cl119.slots.size ≤ ((1 : Int32)).toNatClampNeg) := inb_of S119 ⟨by decide, by decide⟩
  obtain ⟨T119, h119, X119, e119, W119, st119⟩ := stI X117 hx hZ e117 Ar119 (j := (1 : Int32)) in119 (g := (mkF m 81 #[vR a0, vR a1, vI ((0 : Int32) + w0), vI (0 : Int32), vI (1 : Int32)] [(.int ((0 : Int32) + w0)), (.int (1 : Int32)), (.ref b19)])) rfl rfl (hb hby d1_81)
  have pre119 : Go p.tables e below S0 T119 (mkF m 82 #[vR a0, vR a1, vI ((0 : Int32) + w0), vI (0 : Int32), vI (1 : Int32)] []) := fun t k => pre118 t (st119 t k)
  obtain ⟨lo119, N119, X119⟩ : ∃ lo, Fr n0 lo ∧ Stand p l e ({ frames := 1, cells := 4, slots := 16, locals := 12 } : Room) s m #[(.ref a0), (.ref a1)] below meth c T119 lo 4 16 := ⟨_, Fr.snoc X119 N112 bo19, X119⟩
  have av119 : Arv Z h119 b19 kA19 .int (4 : Int32) [(.int (0 : Int32)), (.int ((0 : Int32) + w0)), (.int (0 : Int32)), (.int (0 : Int32))] (.int (0 : Int32)) := Arv.set Ar119 q119 S119 M119 H119 G119 rfl W119 1 rfl (Nat.le_of_ble_eq_true rfl)
  have f120_1 := Exa.wr W119 f113_1
  have f120_2 := Fld.other W119 f113_2 (Or.inl ne20)
  have f120_3 := Fld.other W119 f113_3 (Or.inl ne20)
  have f120_4 := Fld.other W119 f113_4 (Or.inl ne20)
  have f120_5 := Fld.other W119 f113_5 (Or.inl ne20)
  have f120_6 := Fld.other W119 f113_6 (Or.inl ne20)
  have f120_7 := Fld.other W119 f113_7 (Or.inl ne20)
  have f120_8 := f113_8.other W119 ne21
  have f120_9 := av112.other W119 ne22
  have f120_10 := f113_10.other W119 (Ne.symm ne37)
  have f120_11 := f113_11.other W119 (Ne.symm ne52)
  have zz121 : n0 ≤ h119.size := Nat.le_trans zz114 (Keep.of_wr W119).1
  have kp122 : Keep h0 h119 [a0] := kp115.wr W119 (Or.inr ol19)
  have pre123 : Go p.tables e below S0 T119 (mkF m 83 #[vR a0, vR a1, vI ((0 : Int32) + w0), vI (0 : Int32), vI (1 : Int32)] [(.ref a0)]) := fun t k => pre119 t (by
    refine XS.aloadN X119.here hx rfl (hb hby d1_82) rfl rfl ?_
    exact k)
  obtain ⟨T124, X124, e124, st124⟩ := getF X119 hx hZ hown (host := "") (Or.inl (hw _ (List.mem_of_getElem? (i := 18) rfl))) Via.refl e119 f120_4 (g := (mkF m 83 #[vR a0, vR a1, vI ((0 : Int32) + w0), vI (0 : Int32), vI (1 : Int32)] [(.ref a0)])) rfl rfl (hb hby d1_83)
  have pre124 : Go p.tables e below S0 T124 (mkF m 86 #[vR a0, vR a1, vI ((0 : Int32) + w0), vI (0 : Int32), vI (1 : Int32)] [(.ref b33)]) := fun t k => pre123 t (st124 t k)
  have pre125 : Go p.tables e below S0 T124 (mkF m 92 #[vR a0, vR a1, vI ((0 : Int32) + w0), vI (0 : Int32), vI (1 : Int32)] [(.int (1 : Int32)), (.ref a1), (.long (1 : Int64)), (.int (1 : Int32)), (.ref b33)]) := fun t k => pre124 t (by
    refine XS.iload X124.here hx rfl (hb hby d1_86) rfl ?_
    refine XS.lconst X124.here hx rfl (hb hby d1_88) ?_
    refine XS.aloadN X124.here hx rfl (hb hby d1_89) rfl rfl ?_
    show Steps p.tables e below (T124.setTop (mkF m 90 #[vR a0, vR a1, vI ((0 : Int32) + w0), vI (0 : Int32), vI (1 : Int32)] [(.ref a1), (.long (1 : Int64)), (.int (1 : Int32)), (.ref b33)])) _
    refine XS.iload X124.here hx rfl (hb hby d1_90) rfl ?_
    exact k)
  obtain ⟨cl126, Ar126, q126, S126, M126, H126, G126⟩ := id f120_8
  have in126 : ¬ ((1 : Int32) < 0 ∨ cl126.slots.size ≤ ((1 : Int32)).toNatClampNeg) := inb_of S126 ⟨by decide, by decide⟩
  have at126 : cl126.slots[((1 : Int32)).toNatClampNeg]? = some (.int w1) := H126.at in126 rfl
  have pre127 : Go p.tables e below S0 T124 (mkF m 96 #[vR a0, vR a1, vI ((0 : Int32) + w0), vI (0 : Int32), vI (1 : Int32)] [(.long (((1 : Int64) <<< (w1 &&& 0x3f).toInt64) - (1 : Int64))), (.int (1 : Int32)), (.ref b33)]) := fun t k => pre125 t (by
    refine X124.iaload hx (j := (1 : Int32)) (v := (.int w1)) (by rw [e124]; exact Ar126.1) (State.isArrayOf_alike hZ.alike Ar126.2.1) Ar126.2.2 in126 at126 (g := (mkF m 92 #[vR a0, vR a1, vI ((0 : Int32) + w0), vI (0 : Int32), vI (1 : Int32)] [(.int (1 : Int32)), (.ref a1), (.long (1 : Int64)), (.int (1 : Int32)), (.ref b33)])) rfl rfl (hb hby d1_92) _ ?_
    refine XS.lshl X124.here hx rfl (hb hby d1_93) rfl ?_
    refine XS.lconst X124.here hx rfl (hb hby d1_94) ?_
    show Steps p.tables e below (T124.setTop (mkF m 95 #[vR a0, vR a1, vI ((0 : Int32) + w0), vI (0 : Int32), vI (1 : Int32)] [(.long (1 : Int64)), (.long ((1 : Int64) <<< (w1 &&& 0x3f).toInt64)), (.int (1 : Int32)), (.ref b33)])) _
    refine XS.lsub X124.here hx rfl (hb hby d1_95) rfl ?_
    exact k)
  obtain ⟨cl128, Ar128, q128, S128, M128, H128, G128⟩ := id f120_10
  have in128 : ¬ ((1 : Int32) < 0 ∨ cl128.slots.size ≤ ((1 : Int32)).toNatClampNeg) := inb_of S128 ⟨by decide, by decide⟩
  obtain ⟨T128, h128, X128, e128, W128, st128⟩ := stJ X124 hx hZ e124 Ar128 (j := (1 : Int32)) in128 (g := (mkF m 96 #[vR a0, vR a1, vI ((0 : Int32) + w0), vI (0 : Int32), vI (1 : Int32)] [(.long (((1 : Int64) <<< (w1 &&& 0x3f).toInt64) - (1 : Int64))), (.int (1 : Int32)), (.ref b33)])) rfl rfl (hb hby d1_96)
  have pre128 : Go p.tables e below S0 T128 (mkF m 97 #[vR a0, vR a1, vI ((0 : Int32) + w0), vI (0 : Int32), vI (1 : Int32)] []) := fun t k => pre127 t (st128 t k)
  obtain ⟨lo128, N128, X128⟩ : ∃ lo, Fr n0 lo ∧ Stand p l e ({ frames := 1, cells := 4, slots := 16, locals := 12 } : Room) s m #[(.ref a0), (.ref a1)] below meth c T128 lo 4 16 := ⟨_, Fr.snoc X128 N119 bo33, X128⟩
  have av128 : Arv Z h128 b33 kA33 .long (4 : Int32) [(.long (((1 : Int64) <<< (w0 &&& 0x3f).toInt64) - (1 : Int64))), (.long (((1 : Int64) <<< (w1 &&& 0x3f).toInt64) - (1 : Int64))), (.long (0 : Int64)), (.long (0 : Int64))] (.long (0 : Int64)) := Arv.set Ar128 q128 S128 M128 H128 G128 rfl W128 1 rfl (Nat.le_of_ble_eq_true rfl)
  have f129_1 := Exa.wr W128 f120_1
  have f129_2 := Fld.other W128 f120_2 (Or.inl ne34)
  have f129_3 := Fld.other W128 f120_3 (Or.inl ne34)
  have f129_4 := Fld.other W128 f120_4 (Or.inl ne34)
  have f129_5 := Fld.other W128 f120_5 (Or.inl ne34)
  have f129_6 := Fld.other W128 f120_6 (Or.inl ne34)
  have f129_7 := Fld.other W128 f120_7 (Or.inl ne34)
  have f129_8 := f120_8.other W128 ne35
  have f129_9 := f120_9.other W128 ne36
  have f129_10 := av119.other W128 ne37
  have f129_11 := f120_11.other W128 (Ne.symm ne53)
  have zz130 : n0 ≤ h128.size := Nat.le_trans zz121 (Keep.of_wr W128).1
  have kp131 : Keep h0 h128 [a0] := kp122.wr W128 (Or.inr ol33)
  have pre132 : Go p.tables e below S0 T128 (mkF m 98 #[vR a0, vR a1, vI ((0 : Int32) + w0), vI (0 : Int32), vI (1 : Int32)] [(.ref a0)]) := fun t k => pre128 t (by
    refine XS.aloadN X128.here hx rfl (hb hby d1_97) rfl rfl ?_
    exact k)
  obtain ⟨T133, X133, e133, st133⟩ := getF X128 hx hZ hown (host := "") (Or.inl (hw _ (List.mem_of_getElem? (i := 20) rfl))) Via.refl e128 f129_5 (g := (mkF m 98 #[vR a0, vR a1, vI ((0 : Int32) + w0), vI (0 : Int32), vI (1 : Int32)] [(.ref a0)])) rfl rfl (hb hby d1_98)
  have pre133 : Go p.tables e below S0 T133 (mkF m 101 #[vR a0, vR a1, vI ((0 : Int32) + w0), vI (0 : Int32), vI (1 : Int32)] [(.ref b48)]) := fun t k => pre132 t (st133 t k)
  have pre134 : Go p.tables e below S0 T133 (mkF m 104 #[vR a0, vR a1, vI ((0 : Int32) + w0), vI (0 : Int32), vI (1 : Int32)] [(.ref a0), (.int (1 : Int32)), (.ref b48)]) := fun t k => pre133 t (by
    refine XS.iload X133.here hx rfl (hb hby d1_101) rfl ?_
    refine XS.aloadN X133.here hx rfl (hb hby d1_103) rfl rfl ?_
    exact k)
  obtain ⟨T135, X135, e135, st135⟩ := getF X133 hx hZ hown (host := "") (Or.inl (hw _ (List.mem_of_getElem? (i := 18) rfl))) Via.refl e133 f129_4 (g := (mkF m 104 #[vR a0, vR a1, vI ((0 : Int32) + w0), vI (0 : Int32), vI (1 : Int32)] [(.ref a0), (.int (1 : Int32)), (.ref b48)])) rfl rfl (hb hby d1_104)
  have pre135 : Go p.tables e below S0 T135 (mkF m 107 #[vR a0, vR a1, vI ((0 : Int32) + w0), vI (0 : Int32), vI (1 : Int32)] [(.ref b33), (.int (1 : Int32)), (.ref b48)]) := fun t k => pre134 t (st135 t k)
  have pre136 : Go p.tables e below S0 T135 (mkF m 109 #[vR a0, vR a1, vI ((0 : Int32) + w0), vI (0 : Int32), vI (1 : Int32)] [(.int (1 : Int32)), (.ref b33), (.int (1 : Int32)), (.ref b48)]) := fun t k => pre135 t (by
    refine XS.iload X135.here hx rfl (hb hby d1_107) rfl ?_
    exact k)
  obtain ⟨cl137, Ar137, q137, S137, M137, H137, G137⟩ := id av128
  have in137 : ¬ ((1 : Int32) < 0 ∨ cl137.slots.size ≤ ((1 : Int32)).toNatClampNeg) := inb_of S137 ⟨by decide, by decide⟩
  have at137 : cl137.slots[((1 : Int32)).toNatClampNeg]? = some (.long (((1 : Int64) <<< (w1 &&& 0x3f).toInt64) - (1 : Int64))) := H137.at in137 rfl
  have pre138 : Go p.tables e below S0 T135 (mkF m 116 #[vR a0, vR a1, vI ((0 : Int32) + w0), vI (0 : Int32), vI (1 : Int32)] [(.long (((((1 : Int64) <<< (w1 &&& 0x3f).toInt64) - (1 : Int64)) <<< (((0 : Int32) + w0) &&& 0x3f).toInt64) ^^^ (-1 : Int64))), (.int (1 : Int32)), (.ref b48)]) := fun t k => pre136 t (by
    refine X135.laload hx (j := (1 : Int32)) (v := (.long (((1 : Int64) <<< (w1 &&& 0x3f).toInt64) - (1 : Int64)))) (by rw [e135]; exact Ar137.1) (State.isArrayOf_alike hZ.alike Ar137.2.1) Ar137.2.2 in137 at137 (g := (mkF m 109 #[vR a0, vR a1, vI ((0 : Int32) + w0), vI (0 : Int32), vI (1 : Int32)] [(.int (1 : Int32)), (.ref b33), (.int (1 : Int32)), (.ref b48)])) rfl rfl (hb hby d1_109) _ ?_
    refine XS.iloadN X135.here hx rfl (hb hby d1_110) rfl ?_
    refine XS.lshl X135.here hx rfl (hb hby d1_111) rfl ?_
    show Steps p.tables e below (T135.setTop (mkF m 112 #[vR a0, vR a1, vI ((0 : Int32) + w0), vI (0 : Int32), vI (1 : Int32)] [(.long ((((1 : Int64) <<< (w1 &&& 0x3f).toInt64) - (1 : Int64)) <<< (((0 : Int32) + w0) &&& 0x3f).toInt64)), (.int (1 : Int32)), (.ref b48)])) _
    refine X135.ldc2Long hx hown (mvT hZ (hw _ (List.mem_of_getElem? (i := 22) rfl))) (g := (mkF m 112 #[vR a0, vR a1, vI ((0 : Int32) + w0), vI (0 : Int32), vI (1 : Int32)] [(.long ((((1 : Int64) <<< (w1 &&& 0x3f).toInt64) - (1 : Int64)) <<< (((0 : Int32) + w0) &&& 0x3f).toInt64)), (.int (1 : Int32)), (.ref b48)])) rfl (hb hby d1_112) _ ?_
    refine XS.lxor X135.here hx rfl (hb hby d1_115) rfl ?_
    exact k)
  obtain ⟨cl139, Ar139, q139, S139, M139, H139, G139⟩ := id f129_11
  have in139 : ¬ ((1 : Int32) < 0 ∨ cl139.slots.size ≤ ((1 : Int32)).toNatClampNeg) := inb_of S139 ⟨by decide, by decide⟩
  obtain ⟨T139, h139, X139, e139, W139, st139⟩ := stJ X135 hx hZ e135 Ar139 (j := (1 : Int32)) in139 (g := (mkF m 116 #[vR a0, vR a1, vI ((0 : Int32) + w0), vI (0 : Int32), vI (1 : Int32)] [(.long (((((1 : Int64) <<< (w1 &&& 0x3f).toInt64) - (1 : Int64)) <<< (((0 : Int32) + w0) &&& 0x3f).toInt64) ^^^ (-1 : Int64))), (.int (1 : Int32)), (.ref b48)])) rfl rfl (hb hby d1_116)
  have pre139 : Go p.tables e below S0 T139 (mkF m 117 #[vR a0, vR a1, vI ((0 : Int32) + w0), vI (0 : Int32), vI (1 : Int32)] []) := fun t k => pre138 t (st139 t k)
  obtain ⟨lo139, N139, X139⟩ : ∃ lo, Fr n0 lo ∧ Stand p l e ({ frames := 1, cells := 4, slots := 16, locals := 12 } : Room) s m #[(.ref a0), (.ref a1)] below meth c T139 lo 4 16 := ⟨_, Fr.snoc X139 N128 bo48, X139⟩
  have av139 : Arv Z h139 b48 kA48 .long (4 : Int32) [(.long (((((1 : Int64) <<< (w0 &&& 0x3f).toInt64) - (1 : Int64)) <<< ((0 : Int32) &&& 0x3f).toInt64) ^^^ (-1 : Int64))), (.long (((((1 : Int64) <<< (w1 &&& 0x3f).toInt64) - (1 : Int64)) <<< (((0 : Int32) + w0) &&& 0x3f).toInt64) ^^^ (-1 : Int64))), (.long (0 : Int64)), (.long (0 : Int64))] (.long (0 : Int64)) := Arv.set Ar139 q139 S139 M139 H139 G139 rfl W139 1 rfl (Nat.le_of_ble_eq_true rfl)
  have f140_1 := Exa.wr W139 f129_1
  have f140_2 := Fld.other W139 f129_2 (Or.inl ne49)
  have f140_3 := Fld.other W139 f129_3 (Or.inl ne49)
  have f140_4 := Fld.other W139 f129_4 (Or.inl ne49)
  have f140_5 := Fld.other W139 f129_5 (Or.inl ne49)
  have f140_6 := Fld.other W139 f129_6 (Or.inl ne49)
  have f140_7 := Fld.other W139 f129_7 (Or.inl ne49)
  have f140_8 := f129_8.other W139 ne50
  have f140_9 := f129_9.other W139 ne51
  have f140_10 := f129_10.other W139 ne52
  have f140_11 := av128.other W139 ne53
  have zz141 : n0 ≤ h139.size := Nat.le_trans zz130 (Keep.of_wr W139).1
  have kp142 : Keep h0 h139 [a0] := kp131.wr W139 (Or.inr ol48)
  have pre143 : Go p.tables e below S0 T139 (mkF m 121 #[vR a0, vR a1, vI ((0 : Int32) + w0), vI (0 : Int32), vI (1 : Int32)] [(.int (1 : Int32)), (.ref a1), (.int ((0 : Int32) + w0))]) := fun t k => pre139 t (by
    refine XS.iloadN X139.here hx rfl (hb hby d1_117) rfl ?_
    refine XS.aloadN X139.here hx rfl (hb hby d1_118) rfl rfl ?_
    refine XS.iload X139.here hx rfl (hb hby d1_119) rfl ?_
    show Steps p.tables e below (T139.setTop (mkF m 121 #[vR a0, vR a1, vI ((0 : Int32) + w0), vI (0 : Int32), vI (1 : Int32)] [(.int (1 : Int32)), (.ref a1), (.int ((0 : Int32) + w0))])) _
    exact k)
  obtain ⟨cl144, Ar144, q144, S144, M144, H144, G144⟩ := id f140_8
  have in144 : ¬ ((1 : Int32) < 0 ∨ cl144.slots.size ≤ ((1 : Int32)).toNatClampNeg) := inb_of S144 ⟨by decide, by decide⟩
  have at144 : cl144.slots[((1 : Int32)).toNatClampNeg]? = some (.int w1) := H144.at in144 rfl
  have pre145 : Go p.tables e below S0 T139 (mkF m 46 #[vR a0, vR a1, vI (((0 : Int32) + w0) + w1), vI (0 : Int32), vI (2 : Int32)] [(.ref a1), (.int (2 : Int32))]) := fun t k => pre143 t (by
    refine X139.iaload hx (j := (1 : Int32)) (v := (.int w1)) (by rw [e139]; exact Ar144.1) (State.isArrayOf_alike hZ.alike Ar144.2.1) Ar144.2.2 in144 at144 (g := (mkF m 121 #[vR a0, vR a1, vI ((0 : Int32) + w0), vI (0 : Int32), vI (1 : Int32)] [(.int (1 : Int32)), (.ref a1), (.int ((0 : Int32) + w0))])) rfl rfl (hb hby d1_121) _ ?_
    refine XS.iadd X139.here hx rfl (hb hby d1_122) rfl ?_
    refine XS.istoreN X139.here hx rfl (hb hby d1_123) rfl (l' := #[vR a0, vR a1, vI (((0 : Int32) + w0) + w1), vI (0 : Int32), vI (1 : Int32)]) rfl ?_
    show Steps p.tables e below (T139.setTop (mkF m 124 #[vR a0, vR a1, vI (((0 : Int32) + w0) + w1), vI (0 : Int32), vI (1 : Int32)] [])) _
    refine XS.iinc X139.here hx rfl (hb hby d1_124) rfl (l' := #[vR a0, vR a1, vI (((0 : Int32) + w0) + w1), vI (0 : Int32), vI (2 : Int32)]) rfl ?_
    refine XS.goto X139.here hx rfl (pc0 := 127) (pc' := 43) rfl (hb hby d1_127) (by decide) (by decide) ?_
    refine XS.iload X139.here hx rfl (hb hby d1_43) rfl ?_
    show Steps p.tables e below (T139.setTop (mkF m 45 #[vR a0, vR a1, vI (((0 : Int32) + w0) + w1), vI (0 : Int32), vI (2 : Int32)] [(.int (2 : Int32))])) _
    refine XS.aloadN X139.here hx rfl (hb hby d1_45) rfl rfl ?_
    exact k)
  obtain ⟨cl146, Ar146, q146, S146, M146, H146, G146⟩ := id f140_8
  have pre147 : Go p.tables e below S0 T139 (mkF m 54 #[vR a0, vR a1, vI (((0 : Int32) + w0) + w1), vI (0 : Int32), vI (2 : Int32)] [(.int (2 : Int32)), (.ref a1), (.int (((0 : Int32) + w0) + w1))]) := fun t k => pre145 t (by
    refine X139.arraylength hx (by rw [e139]; exact Ar146.1) (State.isArrayOf_alike hZ.alike Ar146.2.1) (g := (mkF m 46 #[vR a0, vR a1, vI (((0 : Int32) + w0) + w1), vI (0 : Int32), vI (2 : Int32)] [(.ref a1), (.int (2 : Int32))])) rfl rfl (hb hby d1_46) _ ?_
    rw [len_of S146 M146]
    refine XS.icmpNo X139.here hx rfl (hb hby d1_47) rfl (tlt (by decide : (2 : Int32) < (4 : Int32))).2.1 ?_
    refine XS.iloadN X139.here hx rfl (hb hby d1_50) rfl ?_
    show Steps p.tables e below (T139.setTop (mkF m 51 #[vR a0, vR a1, vI (((0 : Int32) + w0) + w1), vI (0 : Int32), vI (2 : Int32)] [(.int (((0 : Int32) + w0) + w1))])) _
    refine XS.aloadN X139.here hx rfl (hb hby d1_51) rfl rfl ?_
    refine XS.iload X139.here hx rfl (hb hby d1_52) rfl ?_
    exact k)
  obtain ⟨cl148, Ar148, q148, S148, M148, H148, G148⟩ := id f140_8
  have in148 : ¬ ((2 : Int32) < 0 ∨ cl148.slots.size ≤ ((2 : Int32)).toNatClampNeg) := inb_of S148 ⟨by decide, by decide⟩
  have at148 : cl148.slots[((2 : Int32)).toNatClampNeg]? = some (.int w2) := H148.at in148 rfl
  have pre149 : Go p.tables e below S0 T139 (mkF m 58 #[vR a0, vR a1, vI (((0 : Int32) + w0) + w1), vI (0 : Int32), vI (2 : Int32)] [(.int (64 : Int32)), (.int ((((0 : Int32) + w0) + w1) + w2))]) := fun t k => pre147 t (by
    refine X139.iaload hx (j := (2 : Int32)) (v := (.int w2)) (by rw [e139]; exact Ar148.1) (State.isArrayOf_alike hZ.alike Ar148.2.1) Ar148.2.2 in148 at148 (g := (mkF m 54 #[vR a0, vR a1, vI (((0 : Int32) + w0) + w1), vI (0 : Int32), vI (2 : Int32)] [(.int (2 : Int32)), (.ref a1), (.int (((0 : Int32) + w0) + w1))])) rfl rfl (hb hby d1_54) _ ?_
    refine XS.iadd X139.here hx rfl (hb hby d1_55) rfl ?_
    refine XS.bipush X139.here hx rfl (hb hby d1_56) ?_
    show Steps p.tables e below (T139.setTop (mkF m 58 #[vR a0, vR a1, vI (((0 : Int32) + w0) + w1), vI (0 : Int32), vI (2 : Int32)] [(.int (64 : Int32)), (.int ((((0 : Int32) + w0) + w1) + w2))])) _
    exact k)
  refine cps (A := ∃ (j66_l2_153 : Int32) (j66_l3_154 : Int32), (j66_l3_154 = own_cur (0 : Int32) (((0 : Int32) + w0) + w1) w2 ∧ j66_l2_153 = own_u0 (((0 : Int32) + w0) + w1) w2) ∧ (Go p.tables e below S0 T139 (mkF m 66 #[vR a0, vR a1, vI j66_l2_153, vI j66_l3_154, vI (2 : Int32)] []))) (fun tail157 => ?_) ?_
  · skip
    by_cases c58_150 : (64 : Int32) < ((((0 : Int32) + w0) + w1) + w2)
    · skip
      have pre151 : Go p.tables e below S0 T139 (mkF m 66 #[vR a0, vR a1, vI (0 : Int32), vI (1 : Int32), vI (2 : Int32)] []) := fun t k => pre149 t (by
        refine XS.icmpNo X139.here hx rfl (hb hby d1_58) rfl (tlt c58_150).2.2.2 ?_
        refine XS.iinc X139.here hx rfl (hb hby d1_61) rfl (l' := #[vR a0, vR a1, vI (((0 : Int32) + w0) + w1), vI (1 : Int32), vI (2 : Int32)]) rfl ?_
        refine XS.iconst X139.here hx rfl (hb hby d1_64) ?_
        show Steps p.tables e below (T139.setTop (mkF m 65 #[vR a0, vR a1, vI (((0 : Int32) + w0) + w1), vI (1 : Int32), vI (2 : Int32)] [(.int (0 : Int32))])) _
        refine XS.istoreN X139.here hx rfl (hb hby d1_65) rfl (l' := #[vR a0, vR a1, vI (0 : Int32), vI (1 : Int32), vI (2 : Int32)]) rfl ?_
        exact k)
      exact tail157 ⟨(0 : Int32), (1 : Int32), (by exact ⟨(if_pos c58_150).symm, (if_pos c58_150).symm⟩), pre151⟩
    · skip
      have pre152 : Go p.tables e below S0 T139 (mkF m 66 #[vR a0, vR a1, vI (((0 : Int32) + w0) + w1), vI (0 : Int32), vI (2 : Int32)] []) := fun t k => pre149 t (by
        refine XS.icmpYes X139.here hx rfl (pc0 := 58) (pc' := 66) rfl (hb hby d1_58) rfl (flt c58_150).2.2.2 (by decide) (by decide) ?_
        exact k)
      exact tail157 ⟨(((0 : Int32) + w0) + w1), (0 : Int32), (by exact ⟨(if_neg c58_150).symm, (if_neg c58_150).symm⟩), pre152⟩
  rintro ⟨j66_l2_153, j66_l3_154, hj66_155, pre156⟩
  have pre158 : Go p.tables e below S0 T139 (mkF m 67 #[vR a0, vR a1, vI j66_l2_153, vI j66_l3_154, vI (2 : Int32)] [(.ref a0)]) := fun t k => pre156 t (by
    refine XS.aloadN X139.here hx rfl (hb hby d1_66) rfl rfl ?_
    exact k)
  obtain ⟨T159, X159, e159, st159⟩ := getF X139 hx hZ hown (host := "") (Or.inl (hw _ (List.mem_of_getElem? (i := 14) rfl))) Via.refl e139 f140_2 (g := (mkF m 67 #[vR a0, vR a1, vI j66_l2_153, vI j66_l3_154, vI (2 : Int32)] [(.ref a0)])) rfl rfl (hb hby d1_67)
  have pre159 : Go p.tables e below S0 T159 (mkF m 70 #[vR a0, vR a1, vI j66_l2_153, vI j66_l3_154, vI (2 : Int32)] [(.ref b6)]) := fun t k => pre158 t (st159 t k)
  have pre160 : Go p.tables e below S0 T159 (mkF m 73 #[vR a0, vR a1, vI j66_l2_153, vI j66_l3_154, vI (2 : Int32)] [(.int j66_l3_154), (.int (2 : Int32)), (.ref b6)]) := fun t k => pre159 t (by
    refine XS.iload X159.here hx rfl (hb hby d1_70) rfl ?_
    refine XS.iloadN X159.here hx rfl (hb hby d1_72) rfl ?_
    exact k)
  obtain ⟨cl161, Ar161, q161, S161, M161, H161, G161⟩ := id f140_9
  have in161 : ¬ ((2 : Int32) < 0 ∨ cl161.slots.size ≤ ((2 : Int32)).toNatClampNeg) := inb_of S161 ⟨by decide, by decide⟩
  obtain ⟨T161, h161, X161, e161, W161, st161⟩ := stI X159 hx hZ e159 Ar161 (j := (2 : Int32)) in161 (g := (mkF m 73 #[vR a0, vR a1, vI j66_l2_153, vI j66_l3_154, vI (2 : Int32)] [(.int j66_l3_154), (.int (2 : Int32)), (.ref b6)])) rfl rfl (hb hby d1_73)
  have pre161 : Go p.tables e below S0 T161 (mkF m 74 #[vR a0, vR a1, vI j66_l2_153, vI j66_l3_154, vI (2 : Int32)] []) := fun t k => pre160 t (st161 t k)
  obtain ⟨lo161, N161, X161⟩ : ∃ lo, Fr n0 lo ∧ Stand p l e ({ frames := 1, cells := 4, slots := 16, locals := 12 } : Room) s m #[(.ref a0), (.ref a1)] below meth c T161 lo 4 16 := ⟨_, Fr.snoc X161 N139 bo6, X161⟩
  have av161 : Arv Z h161 b6 kA6 .int (4 : Int32) [(.int (0 : Int32)), (.int (0 : Int32)), (.int j66_l3_154), (.int (0 : Int32))] (.int (0 : Int32)) := Arv.set Ar161 q161 S161 M161 H161 G161 rfl W161 2 rfl (Nat.le_of_ble_eq_true rfl)
  have f162_1 := Exa.wr W161 f140_1
  have f162_2 := Fld.other W161 f140_2 (Or.inl ne7)
  have f162_3 := Fld.other W161 f140_3 (Or.inl ne7)
  have f162_4 := Fld.other W161 f140_4 (Or.inl ne7)
  have f162_5 := Fld.other W161 f140_5 (Or.inl ne7)
  have f162_6 := Fld.other W161 f140_6 (Or.inl ne7)
  have f162_7 := Fld.other W161 f140_7 (Or.inl ne7)
  have f162_8 := f140_8.other W161 ne8
  have f162_9 := f140_10.other W161 (Ne.symm ne22)
  have f162_10 := f140_11.other W161 (Ne.symm ne36)
  have f162_11 := av139.other W161 (Ne.symm ne51)
  have zz163 : n0 ≤ h161.size := Nat.le_trans zz141 (Keep.of_wr W161).1
  have kp164 : Keep h0 h161 [a0] := kp142.wr W161 (Or.inr ol6)
  have pre165 : Go p.tables e below S0 T161 (mkF m 75 #[vR a0, vR a1, vI j66_l2_153, vI j66_l3_154, vI (2 : Int32)] [(.ref a0)]) := fun t k => pre161 t (by
    refine XS.aloadN X161.here hx rfl (hb hby d1_74) rfl rfl ?_
    exact k)
  obtain ⟨T166, X166, e166, st166⟩ := getF X161 hx hZ hown (host := "") (Or.inl (hw _ (List.mem_of_getElem? (i := 16) rfl))) Via.refl e161 f162_3 (g := (mkF m 75 #[vR a0, vR a1, vI j66_l2_153, vI j66_l3_154, vI (2 : Int32)] [(.ref a0)])) rfl rfl (hb hby d1_75)
  have pre166 : Go p.tables e below S0 T166 (mkF m 78 #[vR a0, vR a1, vI j66_l2_153, vI j66_l3_154, vI (2 : Int32)] [(.ref b19)]) := fun t k => pre165 t (st166 t k)
  have pre167 : Go p.tables e below S0 T166 (mkF m 81 #[vR a0, vR a1, vI j66_l2_153, vI j66_l3_154, vI (2 : Int32)] [(.int j66_l2_153), (.int (2 : Int32)), (.ref b19)]) := fun t k => pre166 t (by
    refine XS.iload X166.here hx rfl (hb hby d1_78) rfl ?_
    refine XS.iloadN X166.here hx rfl (hb hby d1_80) rfl ?_
    exact k)
  obtain ⟨cl168, Ar168, q168, S168, M168, H168, G168⟩ := id f162_9
  have in168 : ¬ ((2 : Int32) < 0 ∨ cl168.slots.size ≤ ((2 : Int32)).toNatClampNeg) := inb_of S168 ⟨by decide, by decide⟩
  obtain ⟨T168, h168, X168, e168, W168, st168⟩ := stI X166 hx hZ e166 Ar168 (j := (2 : Int32)) in168 (g := (mkF m 81 #[vR a0, vR a1, vI j66_l2_153, vI j66_l3_154, vI (2 : Int32)] [(.int j66_l2_153), (.int (2 : Int32)), (.ref b19)])) rfl rfl (hb hby d1_81)
  have pre168 : Go p.tables e below S0 T168 (mkF m 82 #[vR a0, vR a1, vI j66_l2_153, vI j66_l3_154, vI (2 : Int32)] []) := fun t k => pre167 t (st168 t k)
  obtain ⟨lo168, N168, X168⟩ : ∃ lo, Fr n0 lo ∧ Stand p l e ({ frames := 1, cells := 4, slots := 16, locals := 12 } : Room) s m #[(.ref a0), (.ref a1)] below meth c T168 lo 4 16 := ⟨_, Fr.snoc X168 N161 bo19, X168⟩
  have av168 : Arv Z h168 b19 kA19 .int (4 : Int32) [(.int (0 : Int32)), (.int ((0 : Int32) + w0)), (.int j66_l2_153), (.int (0 : Int32))] (.int (0 : Int32)) := Arv.set Ar168 q168 S168 M168 H168 G168 rfl W168 2 rfl (Nat.le_of_ble_eq_true rfl)
  have f169_1 := Exa.wr W168 f162_1
  have f169_2 := Fld.other W168 f162_2 (Or.inl ne20)
  have f169_3 := Fld.other W168 f162_3 (Or.inl ne20)
  have f169_4 := Fld.other W168 f162_4 (Or.inl ne20)
  have f169_5 := Fld.other W168 f162_5 (Or.inl ne20)
  have f169_6 := Fld.other W168 f162_6 (Or.inl ne20)
  have f169_7 := Fld.other W168 f162_7 (Or.inl ne20)
  have f169_8 := f162_8.other W168 ne21
  have f169_9 := av161.other W168 ne22
  have f169_10 := f162_10.other W168 (Ne.symm ne37)
  have f169_11 := f162_11.other W168 (Ne.symm ne52)
  have zz170 : n0 ≤ h168.size := Nat.le_trans zz163 (Keep.of_wr W168).1
  have kp171 : Keep h0 h168 [a0] := kp164.wr W168 (Or.inr ol19)
  have pre172 : Go p.tables e below S0 T168 (mkF m 83 #[vR a0, vR a1, vI j66_l2_153, vI j66_l3_154, vI (2 : Int32)] [(.ref a0)]) := fun t k => pre168 t (by
    refine XS.aloadN X168.here hx rfl (hb hby d1_82) rfl rfl ?_
    exact k)
  obtain ⟨T173, X173, e173, st173⟩ := getF X168 hx hZ hown (host := "") (Or.inl (hw _ (List.mem_of_getElem? (i := 18) rfl))) Via.refl e168 f169_4 (g := (mkF m 83 #[vR a0, vR a1, vI j66_l2_153, vI j66_l3_154, vI (2 : Int32)] [(.ref a0)])) rfl rfl (hb hby d1_83)
  have pre173 : Go p.tables e below S0 T173 (mkF m 86 #[vR a0, vR a1, vI j66_l2_153, vI j66_l3_154, vI (2 : Int32)] [(.ref b33)]) := fun t k => pre172 t (st173 t k)
  have pre174 : Go p.tables e below S0 T173 (mkF m 92 #[vR a0, vR a1, vI j66_l2_153, vI j66_l3_154, vI (2 : Int32)] [(.int (2 : Int32)), (.ref a1), (.long (1 : Int64)), (.int (2 : Int32)), (.ref b33)]) := fun t k => pre173 t (by
    refine XS.iload X173.here hx rfl (hb hby d1_86) rfl ?_
    refine XS.lconst X173.here hx rfl (hb hby d1_88) ?_
    refine XS.aloadN X173.here hx rfl (hb hby d1_89) rfl rfl ?_
    show Steps p.tables e below (T173.setTop (mkF m 90 #[vR a0, vR a1, vI j66_l2_153, vI j66_l3_154, vI (2 : Int32)] [(.ref a1), (.long (1 : Int64)), (.int (2 : Int32)), (.ref b33)])) _
    refine XS.iload X173.here hx rfl (hb hby d1_90) rfl ?_
    exact k)
  obtain ⟨cl175, Ar175, q175, S175, M175, H175, G175⟩ := id f169_8
  have in175 : ¬ ((2 : Int32) < 0 ∨ cl175.slots.size ≤ ((2 : Int32)).toNatClampNeg) := inb_of S175 ⟨by decide, by decide⟩
  have at175 : cl175.slots[((2 : Int32)).toNatClampNeg]? = some (.int w2) := H175.at in175 rfl
  have pre176 : Go p.tables e below S0 T173 (mkF m 96 #[vR a0, vR a1, vI j66_l2_153, vI j66_l3_154, vI (2 : Int32)] [(.long (((1 : Int64) <<< (w2 &&& 0x3f).toInt64) - (1 : Int64))), (.int (2 : Int32)), (.ref b33)]) := fun t k => pre174 t (by
    refine X173.iaload hx (j := (2 : Int32)) (v := (.int w2)) (by rw [e173]; exact Ar175.1) (State.isArrayOf_alike hZ.alike Ar175.2.1) Ar175.2.2 in175 at175 (g := (mkF m 92 #[vR a0, vR a1, vI j66_l2_153, vI j66_l3_154, vI (2 : Int32)] [(.int (2 : Int32)), (.ref a1), (.long (1 : Int64)), (.int (2 : Int32)), (.ref b33)])) rfl rfl (hb hby d1_92) _ ?_
    refine XS.lshl X173.here hx rfl (hb hby d1_93) rfl ?_
    refine XS.lconst X173.here hx rfl (hb hby d1_94) ?_
    show Steps p.tables e below (T173.setTop (mkF m 95 #[vR a0, vR a1, vI j66_l2_153, vI j66_l3_154, vI (2 : Int32)] [(.long (1 : Int64)), (.long ((1 : Int64) <<< (w2 &&& 0x3f).toInt64)), (.int (2 : Int32)), (.ref b33)])) _
    refine XS.lsub X173.here hx rfl (hb hby d1_95) rfl ?_
    exact k)
  obtain ⟨cl177, Ar177, q177, S177, M177, H177, G177⟩ := id f169_10
  have in177 : ¬ ((2 : Int32) < 0 ∨ cl177.slots.size ≤ ((2 : Int32)).toNatClampNeg) := inb_of S177 ⟨by decide, by decide⟩
  obtain ⟨T177, h177, X177, e177, W177, st177⟩ := stJ X173 hx hZ e173 Ar177 (j := (2 : Int32)) in177 (g := (mkF m 96 #[vR a0, vR a1, vI j66_l2_153, vI j66_l3_154, vI (2 : Int32)] [(.long (((1 : Int64) <<< (w2 &&& 0x3f).toInt64) - (1 : Int64))), (.int (2 : Int32)), (.ref b33)])) rfl rfl (hb hby d1_96)
  have pre177 : Go p.tables e below S0 T177 (mkF m 97 #[vR a0, vR a1, vI j66_l2_153, vI j66_l3_154, vI (2 : Int32)] []) := fun t k => pre176 t (st177 t k)
  obtain ⟨lo177, N177, X177⟩ : ∃ lo, Fr n0 lo ∧ Stand p l e ({ frames := 1, cells := 4, slots := 16, locals := 12 } : Room) s m #[(.ref a0), (.ref a1)] below meth c T177 lo 4 16 := ⟨_, Fr.snoc X177 N168 bo33, X177⟩
  have av177 : Arv Z h177 b33 kA33 .long (4 : Int32) [(.long (((1 : Int64) <<< (w0 &&& 0x3f).toInt64) - (1 : Int64))), (.long (((1 : Int64) <<< (w1 &&& 0x3f).toInt64) - (1 : Int64))), (.long (((1 : Int64) <<< (w2 &&& 0x3f).toInt64) - (1 : Int64))), (.long (0 : Int64))] (.long (0 : Int64)) := Arv.set Ar177 q177 S177 M177 H177 G177 rfl W177 2 rfl (Nat.le_of_ble_eq_true rfl)
  have f178_1 := Exa.wr W177 f169_1
  have f178_2 := Fld.other W177 f169_2 (Or.inl ne34)
  have f178_3 := Fld.other W177 f169_3 (Or.inl ne34)
  have f178_4 := Fld.other W177 f169_4 (Or.inl ne34)
  have f178_5 := Fld.other W177 f169_5 (Or.inl ne34)
  have f178_6 := Fld.other W177 f169_6 (Or.inl ne34)
  have f178_7 := Fld.other W177 f169_7 (Or.inl ne34)
  have f178_8 := f169_8.other W177 ne35
  have f178_9 := f169_9.other W177 ne36
  have f178_10 := av168.other W177 ne37
  have f178_11 := f169_11.other W177 (Ne.symm ne53)
  have zz179 : n0 ≤ h177.size := Nat.le_trans zz170 (Keep.of_wr W177).1
  have kp180 : Keep h0 h177 [a0] := kp171.wr W177 (Or.inr ol33)
  have pre181 : Go p.tables e below S0 T177 (mkF m 98 #[vR a0, vR a1, vI j66_l2_153, vI j66_l3_154, vI (2 : Int32)] [(.ref a0)]) := fun t k => pre177 t (by
    refine XS.aloadN X177.here hx rfl (hb hby d1_97) rfl rfl ?_
    exact k)
  obtain ⟨T182, X182, e182, st182⟩ := getF X177 hx hZ hown (host := "") (Or.inl (hw _ (List.mem_of_getElem? (i := 20) rfl))) Via.refl e177 f178_5 (g := (mkF m 98 #[vR a0, vR a1, vI j66_l2_153, vI j66_l3_154, vI (2 : Int32)] [(.ref a0)])) rfl rfl (hb hby d1_98)
  have pre182 : Go p.tables e below S0 T182 (mkF m 101 #[vR a0, vR a1, vI j66_l2_153, vI j66_l3_154, vI (2 : Int32)] [(.ref b48)]) := fun t k => pre181 t (st182 t k)
  have pre183 : Go p.tables e below S0 T182 (mkF m 104 #[vR a0, vR a1, vI j66_l2_153, vI j66_l3_154, vI (2 : Int32)] [(.ref a0), (.int (2 : Int32)), (.ref b48)]) := fun t k => pre182 t (by
    refine XS.iload X182.here hx rfl (hb hby d1_101) rfl ?_
    refine XS.aloadN X182.here hx rfl (hb hby d1_103) rfl rfl ?_
    exact k)
  obtain ⟨T184, X184, e184, st184⟩ := getF X182 hx hZ hown (host := "") (Or.inl (hw _ (List.mem_of_getElem? (i := 18) rfl))) Via.refl e182 f178_4 (g := (mkF m 104 #[vR a0, vR a1, vI j66_l2_153, vI j66_l3_154, vI (2 : Int32)] [(.ref a0), (.int (2 : Int32)), (.ref b48)])) rfl rfl (hb hby d1_104)
  have pre184 : Go p.tables e below S0 T184 (mkF m 107 #[vR a0, vR a1, vI j66_l2_153, vI j66_l3_154, vI (2 : Int32)] [(.ref b33), (.int (2 : Int32)), (.ref b48)]) := fun t k => pre183 t (st184 t k)
  have pre185 : Go p.tables e below S0 T184 (mkF m 109 #[vR a0, vR a1, vI j66_l2_153, vI j66_l3_154, vI (2 : Int32)] [(.int (2 : Int32)), (.ref b33), (.int (2 : Int32)), (.ref b48)]) := fun t k => pre184 t (by
    refine XS.iload X184.here hx rfl (hb hby d1_107) rfl ?_
    exact k)
  obtain ⟨cl186, Ar186, q186, S186, M186, H186, G186⟩ := id av177
  have in186 : ¬ ((2 : Int32) < 0 ∨ cl186.slots.size ≤ ((2 : Int32)).toNatClampNeg) := inb_of S186 ⟨by decide, by decide⟩
  have at186 : cl186.slots[((2 : Int32)).toNatClampNeg]? = some (.long (((1 : Int64) <<< (w2 &&& 0x3f).toInt64) - (1 : Int64))) := H186.at in186 rfl
  have pre187 : Go p.tables e below S0 T184 (mkF m 116 #[vR a0, vR a1, vI j66_l2_153, vI j66_l3_154, vI (2 : Int32)] [(.long (((((1 : Int64) <<< (w2 &&& 0x3f).toInt64) - (1 : Int64)) <<< (j66_l2_153 &&& 0x3f).toInt64) ^^^ (-1 : Int64))), (.int (2 : Int32)), (.ref b48)]) := fun t k => pre185 t (by
    refine X184.laload hx (j := (2 : Int32)) (v := (.long (((1 : Int64) <<< (w2 &&& 0x3f).toInt64) - (1 : Int64)))) (by rw [e184]; exact Ar186.1) (State.isArrayOf_alike hZ.alike Ar186.2.1) Ar186.2.2 in186 at186 (g := (mkF m 109 #[vR a0, vR a1, vI j66_l2_153, vI j66_l3_154, vI (2 : Int32)] [(.int (2 : Int32)), (.ref b33), (.int (2 : Int32)), (.ref b48)])) rfl rfl (hb hby d1_109) _ ?_
    refine XS.iloadN X184.here hx rfl (hb hby d1_110) rfl ?_
    refine XS.lshl X184.here hx rfl (hb hby d1_111) rfl ?_
    show Steps p.tables e below (T184.setTop (mkF m 112 #[vR a0, vR a1, vI j66_l2_153, vI j66_l3_154, vI (2 : Int32)] [(.long ((((1 : Int64) <<< (w2 &&& 0x3f).toInt64) - (1 : Int64)) <<< (j66_l2_153 &&& 0x3f).toInt64)), (.int (2 : Int32)), (.ref b48)])) _
    refine X184.ldc2Long hx hown (mvT hZ (hw _ (List.mem_of_getElem? (i := 22) rfl))) (g := (mkF m 112 #[vR a0, vR a1, vI j66_l2_153, vI j66_l3_154, vI (2 : Int32)] [(.long ((((1 : Int64) <<< (w2 &&& 0x3f).toInt64) - (1 : Int64)) <<< (j66_l2_153 &&& 0x3f).toInt64)), (.int (2 : Int32)), (.ref b48)])) rfl (hb hby d1_112) _ ?_
    refine XS.lxor X184.here hx rfl (hb hby d1_115) rfl ?_
    exact k)
  obtain ⟨cl188, Ar188, q188, S188, M188, H188, G188⟩ := id f178_11
  have in188 : ¬ ((2 : Int32) < 0 ∨ cl188.slots.size ≤ ((2 : Int32)).toNatClampNeg) := inb_of S188 ⟨by decide, by decide⟩
  obtain ⟨T188, h188, X188, e188, W188, st188⟩ := stJ X184 hx hZ e184 Ar188 (j := (2 : Int32)) in188 (g := (mkF m 116 #[vR a0, vR a1, vI j66_l2_153, vI j66_l3_154, vI (2 : Int32)] [(.long (((((1 : Int64) <<< (w2 &&& 0x3f).toInt64) - (1 : Int64)) <<< (j66_l2_153 &&& 0x3f).toInt64) ^^^ (-1 : Int64))), (.int (2 : Int32)), (.ref b48)])) rfl rfl (hb hby d1_116)
  have pre188 : Go p.tables e below S0 T188 (mkF m 117 #[vR a0, vR a1, vI j66_l2_153, vI j66_l3_154, vI (2 : Int32)] []) := fun t k => pre187 t (st188 t k)
  obtain ⟨lo188, N188, X188⟩ : ∃ lo, Fr n0 lo ∧ Stand p l e ({ frames := 1, cells := 4, slots := 16, locals := 12 } : Room) s m #[(.ref a0), (.ref a1)] below meth c T188 lo 4 16 := ⟨_, Fr.snoc X188 N177 bo48, X188⟩
  have av188 : Arv Z h188 b48 kA48 .long (4 : Int32) [(.long (((((1 : Int64) <<< (w0 &&& 0x3f).toInt64) - (1 : Int64)) <<< ((0 : Int32) &&& 0x3f).toInt64) ^^^ (-1 : Int64))), (.long (((((1 : Int64) <<< (w1 &&& 0x3f).toInt64) - (1 : Int64)) <<< (((0 : Int32) + w0) &&& 0x3f).toInt64) ^^^ (-1 : Int64))), (.long (((((1 : Int64) <<< (w2 &&& 0x3f).toInt64) - (1 : Int64)) <<< (j66_l2_153 &&& 0x3f).toInt64) ^^^ (-1 : Int64))), (.long (0 : Int64))] (.long (0 : Int64)) := Arv.set Ar188 q188 S188 M188 H188 G188 rfl W188 2 rfl (Nat.le_of_ble_eq_true rfl)
  have f189_1 := Exa.wr W188 f178_1
  have f189_2 := Fld.other W188 f178_2 (Or.inl ne49)
  have f189_3 := Fld.other W188 f178_3 (Or.inl ne49)
  have f189_4 := Fld.other W188 f178_4 (Or.inl ne49)
  have f189_5 := Fld.other W188 f178_5 (Or.inl ne49)
  have f189_6 := Fld.other W188 f178_6 (Or.inl ne49)
  have f189_7 := Fld.other W188 f178_7 (Or.inl ne49)
  have f189_8 := f178_8.other W188 ne50
  have f189_9 := f178_9.other W188 ne51
  have f189_10 := f178_10.other W188 ne52
  have f189_11 := av177.other W188 ne53
  have zz190 : n0 ≤ h188.size := Nat.le_trans zz179 (Keep.of_wr W188).1
  have kp191 : Keep h0 h188 [a0] := kp180.wr W188 (Or.inr ol48)
  have pre192 : Go p.tables e below S0 T188 (mkF m 121 #[vR a0, vR a1, vI j66_l2_153, vI j66_l3_154, vI (2 : Int32)] [(.int (2 : Int32)), (.ref a1), (.int j66_l2_153)]) := fun t k => pre188 t (by
    refine XS.iloadN X188.here hx rfl (hb hby d1_117) rfl ?_
    refine XS.aloadN X188.here hx rfl (hb hby d1_118) rfl rfl ?_
    refine XS.iload X188.here hx rfl (hb hby d1_119) rfl ?_
    show Steps p.tables e below (T188.setTop (mkF m 121 #[vR a0, vR a1, vI j66_l2_153, vI j66_l3_154, vI (2 : Int32)] [(.int (2 : Int32)), (.ref a1), (.int j66_l2_153)])) _
    exact k)
  obtain ⟨cl193, Ar193, q193, S193, M193, H193, G193⟩ := id f189_8
  have in193 : ¬ ((2 : Int32) < 0 ∨ cl193.slots.size ≤ ((2 : Int32)).toNatClampNeg) := inb_of S193 ⟨by decide, by decide⟩
  have at193 : cl193.slots[((2 : Int32)).toNatClampNeg]? = some (.int w2) := H193.at in193 rfl
  have pre194 : Go p.tables e below S0 T188 (mkF m 46 #[vR a0, vR a1, vI (j66_l2_153 + w2), vI j66_l3_154, vI (3 : Int32)] [(.ref a1), (.int (3 : Int32))]) := fun t k => pre192 t (by
    refine X188.iaload hx (j := (2 : Int32)) (v := (.int w2)) (by rw [e188]; exact Ar193.1) (State.isArrayOf_alike hZ.alike Ar193.2.1) Ar193.2.2 in193 at193 (g := (mkF m 121 #[vR a0, vR a1, vI j66_l2_153, vI j66_l3_154, vI (2 : Int32)] [(.int (2 : Int32)), (.ref a1), (.int j66_l2_153)])) rfl rfl (hb hby d1_121) _ ?_
    refine XS.iadd X188.here hx rfl (hb hby d1_122) rfl ?_
    refine XS.istoreN X188.here hx rfl (hb hby d1_123) rfl (l' := #[vR a0, vR a1, vI (j66_l2_153 + w2), vI j66_l3_154, vI (2 : Int32)]) rfl ?_
    show Steps p.tables e below (T188.setTop (mkF m 124 #[vR a0, vR a1, vI (j66_l2_153 + w2), vI j66_l3_154, vI (2 : Int32)] [])) _
    refine XS.iinc X188.here hx rfl (hb hby d1_124) rfl (l' := #[vR a0, vR a1, vI (j66_l2_153 + w2), vI j66_l3_154, vI (3 : Int32)]) rfl ?_
    refine XS.goto X188.here hx rfl (pc0 := 127) (pc' := 43) rfl (hb hby d1_127) (by decide) (by decide) ?_
    refine XS.iload X188.here hx rfl (hb hby d1_43) rfl ?_
    show Steps p.tables e below (T188.setTop (mkF m 45 #[vR a0, vR a1, vI (j66_l2_153 + w2), vI j66_l3_154, vI (3 : Int32)] [(.int (3 : Int32))])) _
    refine XS.aloadN X188.here hx rfl (hb hby d1_45) rfl rfl ?_
    exact k)
  obtain ⟨cl195, Ar195, q195, S195, M195, H195, G195⟩ := id f189_8
  have pre196 : Go p.tables e below S0 T188 (mkF m 54 #[vR a0, vR a1, vI (j66_l2_153 + w2), vI j66_l3_154, vI (3 : Int32)] [(.int (3 : Int32)), (.ref a1), (.int (j66_l2_153 + w2))]) := fun t k => pre194 t (by
    refine X188.arraylength hx (by rw [e188]; exact Ar195.1) (State.isArrayOf_alike hZ.alike Ar195.2.1) (g := (mkF m 46 #[vR a0, vR a1, vI (j66_l2_153 + w2), vI j66_l3_154, vI (3 : Int32)] [(.ref a1), (.int (3 : Int32))])) rfl rfl (hb hby d1_46) _ ?_
    rw [len_of S195 M195]
    refine XS.icmpNo X188.here hx rfl (hb hby d1_47) rfl (tlt (by decide : (3 : Int32) < (4 : Int32))).2.1 ?_
    refine XS.iloadN X188.here hx rfl (hb hby d1_50) rfl ?_
    show Steps p.tables e below (T188.setTop (mkF m 51 #[vR a0, vR a1, vI (j66_l2_153 + w2), vI j66_l3_154, vI (3 : Int32)] [(.int (j66_l2_153 + w2))])) _
    refine XS.aloadN X188.here hx rfl (hb hby d1_51) rfl rfl ?_
    refine XS.iload X188.here hx rfl (hb hby d1_52) rfl ?_
    exact k)
  obtain ⟨cl197, Ar197, q197, S197, M197, H197, G197⟩ := id f189_8
  have in197 : ¬ ((3 : Int32) < 0 ∨ cl197.slots.size ≤ ((3 : Int32)).toNatClampNeg) := inb_of S197 ⟨by decide, by decide⟩
  have at197 : cl197.slots[((3 : Int32)).toNatClampNeg]? = some (.int w3) := H197.at in197 rfl
  have pre198 : Go p.tables e below S0 T188 (mkF m 58 #[vR a0, vR a1, vI (j66_l2_153 + w2), vI j66_l3_154, vI (3 : Int32)] [(.int (64 : Int32)), (.int ((j66_l2_153 + w2) + w3))]) := fun t k => pre196 t (by
    refine X188.iaload hx (j := (3 : Int32)) (v := (.int w3)) (by rw [e188]; exact Ar197.1) (State.isArrayOf_alike hZ.alike Ar197.2.1) Ar197.2.2 in197 at197 (g := (mkF m 54 #[vR a0, vR a1, vI (j66_l2_153 + w2), vI j66_l3_154, vI (3 : Int32)] [(.int (3 : Int32)), (.ref a1), (.int (j66_l2_153 + w2))])) rfl rfl (hb hby d1_54) _ ?_
    refine XS.iadd X188.here hx rfl (hb hby d1_55) rfl ?_
    refine XS.bipush X188.here hx rfl (hb hby d1_56) ?_
    show Steps p.tables e below (T188.setTop (mkF m 58 #[vR a0, vR a1, vI (j66_l2_153 + w2), vI j66_l3_154, vI (3 : Int32)] [(.int (64 : Int32)), (.int ((j66_l2_153 + w2) + w3))])) _
    exact k)
  refine cps (A := ∃ (j66_l2_202 : Int32) (j66_l3_203 : Int32), (j66_l3_203 = own_cur j66_l3_154 (j66_l2_153 + w2) w3 ∧ j66_l2_202 = own_u0 (j66_l2_153 + w2) w3) ∧ (Go p.tables e below S0 T188 (mkF m 66 #[vR a0, vR a1, vI j66_l2_202, vI j66_l3_203, vI (3 : Int32)] []))) (fun tail206 => ?_) ?_
  · skip
    by_cases c58_199 : (64 : Int32) < ((j66_l2_153 + w2) + w3)
    · skip
      have pre200 : Go p.tables e below S0 T188 (mkF m 66 #[vR a0, vR a1, vI (0 : Int32), vI (j66_l3_154 + (1 : Int32)), vI (3 : Int32)] []) := fun t k => pre198 t (by
        refine XS.icmpNo X188.here hx rfl (hb hby d1_58) rfl (tlt c58_199).2.2.2 ?_
        refine XS.iinc X188.here hx rfl (hb hby d1_61) rfl (l' := #[vR a0, vR a1, vI (j66_l2_153 + w2), vI (j66_l3_154 + (1 : Int32)), vI (3 : Int32)]) rfl ?_
        refine XS.iconst X188.here hx rfl (hb hby d1_64) ?_
        show Steps p.tables e below (T188.setTop (mkF m 65 #[vR a0, vR a1, vI (j66_l2_153 + w2), vI (j66_l3_154 + (1 : Int32)), vI (3 : Int32)] [(.int (0 : Int32))])) _
        refine XS.istoreN X188.here hx rfl (hb hby d1_65) rfl (l' := #[vR a0, vR a1, vI (0 : Int32), vI (j66_l3_154 + (1 : Int32)), vI (3 : Int32)]) rfl ?_
        exact k)
      exact tail206 ⟨(0 : Int32), (j66_l3_154 + (1 : Int32)), (by exact ⟨(if_pos c58_199).symm, (if_pos c58_199).symm⟩), pre200⟩
    · skip
      have pre201 : Go p.tables e below S0 T188 (mkF m 66 #[vR a0, vR a1, vI (j66_l2_153 + w2), vI j66_l3_154, vI (3 : Int32)] []) := fun t k => pre198 t (by
        refine XS.icmpYes X188.here hx rfl (pc0 := 58) (pc' := 66) rfl (hb hby d1_58) rfl (flt c58_199).2.2.2 (by decide) (by decide) ?_
        exact k)
      exact tail206 ⟨(j66_l2_153 + w2), j66_l3_154, (by exact ⟨(if_neg c58_199).symm, (if_neg c58_199).symm⟩), pre201⟩
  rintro ⟨j66_l2_202, j66_l3_203, hj66_204, pre205⟩
  have pre207 : Go p.tables e below S0 T188 (mkF m 67 #[vR a0, vR a1, vI j66_l2_202, vI j66_l3_203, vI (3 : Int32)] [(.ref a0)]) := fun t k => pre205 t (by
    refine XS.aloadN X188.here hx rfl (hb hby d1_66) rfl rfl ?_
    exact k)
  obtain ⟨T208, X208, e208, st208⟩ := getF X188 hx hZ hown (host := "") (Or.inl (hw _ (List.mem_of_getElem? (i := 14) rfl))) Via.refl e188 f189_2 (g := (mkF m 67 #[vR a0, vR a1, vI j66_l2_202, vI j66_l3_203, vI (3 : Int32)] [(.ref a0)])) rfl rfl (hb hby d1_67)
  have pre208 : Go p.tables e below S0 T208 (mkF m 70 #[vR a0, vR a1, vI j66_l2_202, vI j66_l3_203, vI (3 : Int32)] [(.ref b6)]) := fun t k => pre207 t (st208 t k)
  have pre209 : Go p.tables e below S0 T208 (mkF m 73 #[vR a0, vR a1, vI j66_l2_202, vI j66_l3_203, vI (3 : Int32)] [(.int j66_l3_203), (.int (3 : Int32)), (.ref b6)]) := fun t k => pre208 t (by
    refine XS.iload X208.here hx rfl (hb hby d1_70) rfl ?_
    refine XS.iloadN X208.here hx rfl (hb hby d1_72) rfl ?_
    exact k)
  obtain ⟨cl210, Ar210, q210, S210, M210, H210, G210⟩ := id f189_9
  have in210 : ¬ ((3 : Int32) < 0 ∨ cl210.slots.size ≤ ((3 : Int32)).toNatClampNeg) := inb_of S210 ⟨by decide, by decide⟩
  obtain ⟨T210, h210, X210, e210, W210, st210⟩ := stI X208 hx hZ e208 Ar210 (j := (3 : Int32)) in210 (g := (mkF m 73 #[vR a0, vR a1, vI j66_l2_202, vI j66_l3_203, vI (3 : Int32)] [(.int j66_l3_203), (.int (3 : Int32)), (.ref b6)])) rfl rfl (hb hby d1_73)
  have pre210 : Go p.tables e below S0 T210 (mkF m 74 #[vR a0, vR a1, vI j66_l2_202, vI j66_l3_203, vI (3 : Int32)] []) := fun t k => pre209 t (st210 t k)
  obtain ⟨lo210, N210, X210⟩ : ∃ lo, Fr n0 lo ∧ Stand p l e ({ frames := 1, cells := 4, slots := 16, locals := 12 } : Room) s m #[(.ref a0), (.ref a1)] below meth c T210 lo 4 16 := ⟨_, Fr.snoc X210 N188 bo6, X210⟩
  have av210 : Arv Z h210 b6 kA6 .int (4 : Int32) [(.int (0 : Int32)), (.int (0 : Int32)), (.int j66_l3_154), (.int j66_l3_203)] (.int (0 : Int32)) := Arv.set Ar210 q210 S210 M210 H210 G210 rfl W210 3 rfl (Nat.le_of_ble_eq_true rfl)
  have f211_1 := Exa.wr W210 f189_1
  have f211_2 := Fld.other W210 f189_2 (Or.inl ne7)
  have f211_3 := Fld.other W210 f189_3 (Or.inl ne7)
  have f211_4 := Fld.other W210 f189_4 (Or.inl ne7)
  have f211_5 := Fld.other W210 f189_5 (Or.inl ne7)
  have f211_6 := Fld.other W210 f189_6 (Or.inl ne7)
  have f211_7 := Fld.other W210 f189_7 (Or.inl ne7)
  have f211_8 := f189_8.other W210 ne8
  have f211_9 := f189_10.other W210 (Ne.symm ne22)
  have f211_10 := f189_11.other W210 (Ne.symm ne36)
  have f211_11 := av188.other W210 (Ne.symm ne51)
  have zz212 : n0 ≤ h210.size := Nat.le_trans zz190 (Keep.of_wr W210).1
  have kp213 : Keep h0 h210 [a0] := kp191.wr W210 (Or.inr ol6)
  have pre214 : Go p.tables e below S0 T210 (mkF m 75 #[vR a0, vR a1, vI j66_l2_202, vI j66_l3_203, vI (3 : Int32)] [(.ref a0)]) := fun t k => pre210 t (by
    refine XS.aloadN X210.here hx rfl (hb hby d1_74) rfl rfl ?_
    exact k)
  obtain ⟨T215, X215, e215, st215⟩ := getF X210 hx hZ hown (host := "") (Or.inl (hw _ (List.mem_of_getElem? (i := 16) rfl))) Via.refl e210 f211_3 (g := (mkF m 75 #[vR a0, vR a1, vI j66_l2_202, vI j66_l3_203, vI (3 : Int32)] [(.ref a0)])) rfl rfl (hb hby d1_75)
  have pre215 : Go p.tables e below S0 T215 (mkF m 78 #[vR a0, vR a1, vI j66_l2_202, vI j66_l3_203, vI (3 : Int32)] [(.ref b19)]) := fun t k => pre214 t (st215 t k)
  have pre216 : Go p.tables e below S0 T215 (mkF m 81 #[vR a0, vR a1, vI j66_l2_202, vI j66_l3_203, vI (3 : Int32)] [(.int j66_l2_202), (.int (3 : Int32)), (.ref b19)]) := fun t k => pre215 t (by
    refine XS.iload X215.here hx rfl (hb hby d1_78) rfl ?_
    refine XS.iloadN X215.here hx rfl (hb hby d1_80) rfl ?_
    exact k)
  obtain ⟨cl217, Ar217, q217, S217, M217, H217, G217⟩ := id f211_9
  have in217 : ¬ ((3 : Int32) < 0 ∨ cl217.slots.size ≤ ((3 : Int32)).toNatClampNeg) := inb_of S217 ⟨by decide, by decide⟩
  obtain ⟨T217, h217, X217, e217, W217, st217⟩ := stI X215 hx hZ e215 Ar217 (j := (3 : Int32)) in217 (g := (mkF m 81 #[vR a0, vR a1, vI j66_l2_202, vI j66_l3_203, vI (3 : Int32)] [(.int j66_l2_202), (.int (3 : Int32)), (.ref b19)])) rfl rfl (hb hby d1_81)
  have pre217 : Go p.tables e below S0 T217 (mkF m 82 #[vR a0, vR a1, vI j66_l2_202, vI j66_l3_203, vI (3 : Int32)] []) := fun t k => pre216 t (st217 t k)
  obtain ⟨lo217, N217, X217⟩ : ∃ lo, Fr n0 lo ∧ Stand p l e ({ frames := 1, cells := 4, slots := 16, locals := 12 } : Room) s m #[(.ref a0), (.ref a1)] below meth c T217 lo 4 16 := ⟨_, Fr.snoc X217 N210 bo19, X217⟩
  have av217 : Arv Z h217 b19 kA19 .int (4 : Int32) [(.int (0 : Int32)), (.int ((0 : Int32) + w0)), (.int j66_l2_153), (.int j66_l2_202)] (.int (0 : Int32)) := Arv.set Ar217 q217 S217 M217 H217 G217 rfl W217 3 rfl (Nat.le_of_ble_eq_true rfl)
  have f218_1 := Exa.wr W217 f211_1
  have f218_2 := Fld.other W217 f211_2 (Or.inl ne20)
  have f218_3 := Fld.other W217 f211_3 (Or.inl ne20)
  have f218_4 := Fld.other W217 f211_4 (Or.inl ne20)
  have f218_5 := Fld.other W217 f211_5 (Or.inl ne20)
  have f218_6 := Fld.other W217 f211_6 (Or.inl ne20)
  have f218_7 := Fld.other W217 f211_7 (Or.inl ne20)
  have f218_8 := f211_8.other W217 ne21
  have f218_9 := av210.other W217 ne22
  have f218_10 := f211_10.other W217 (Ne.symm ne37)
  have f218_11 := f211_11.other W217 (Ne.symm ne52)
  have zz219 : n0 ≤ h217.size := Nat.le_trans zz212 (Keep.of_wr W217).1
  have kp220 : Keep h0 h217 [a0] := kp213.wr W217 (Or.inr ol19)
  have pre221 : Go p.tables e below S0 T217 (mkF m 83 #[vR a0, vR a1, vI j66_l2_202, vI j66_l3_203, vI (3 : Int32)] [(.ref a0)]) := fun t k => pre217 t (by
    refine XS.aloadN X217.here hx rfl (hb hby d1_82) rfl rfl ?_
    exact k)
  obtain ⟨T222, X222, e222, st222⟩ := getF X217 hx hZ hown (host := "") (Or.inl (hw _ (List.mem_of_getElem? (i := 18) rfl))) Via.refl e217 f218_4 (g := (mkF m 83 #[vR a0, vR a1, vI j66_l2_202, vI j66_l3_203, vI (3 : Int32)] [(.ref a0)])) rfl rfl (hb hby d1_83)
  have pre222 : Go p.tables e below S0 T222 (mkF m 86 #[vR a0, vR a1, vI j66_l2_202, vI j66_l3_203, vI (3 : Int32)] [(.ref b33)]) := fun t k => pre221 t (st222 t k)
  have pre223 : Go p.tables e below S0 T222 (mkF m 92 #[vR a0, vR a1, vI j66_l2_202, vI j66_l3_203, vI (3 : Int32)] [(.int (3 : Int32)), (.ref a1), (.long (1 : Int64)), (.int (3 : Int32)), (.ref b33)]) := fun t k => pre222 t (by
    refine XS.iload X222.here hx rfl (hb hby d1_86) rfl ?_
    refine XS.lconst X222.here hx rfl (hb hby d1_88) ?_
    refine XS.aloadN X222.here hx rfl (hb hby d1_89) rfl rfl ?_
    show Steps p.tables e below (T222.setTop (mkF m 90 #[vR a0, vR a1, vI j66_l2_202, vI j66_l3_203, vI (3 : Int32)] [(.ref a1), (.long (1 : Int64)), (.int (3 : Int32)), (.ref b33)])) _
    refine XS.iload X222.here hx rfl (hb hby d1_90) rfl ?_
    exact k)
  obtain ⟨cl224, Ar224, q224, S224, M224, H224, G224⟩ := id f218_8
  have in224 : ¬ ((3 : Int32) < 0 ∨ cl224.slots.size ≤ ((3 : Int32)).toNatClampNeg) := inb_of S224 ⟨by decide, by decide⟩
  have at224 : cl224.slots[((3 : Int32)).toNatClampNeg]? = some (.int w3) := H224.at in224 rfl
  have pre225 : Go p.tables e below S0 T222 (mkF m 96 #[vR a0, vR a1, vI j66_l2_202, vI j66_l3_203, vI (3 : Int32)] [(.long (((1 : Int64) <<< (w3 &&& 0x3f).toInt64) - (1 : Int64))), (.int (3 : Int32)), (.ref b33)]) := fun t k => pre223 t (by
    refine X222.iaload hx (j := (3 : Int32)) (v := (.int w3)) (by rw [e222]; exact Ar224.1) (State.isArrayOf_alike hZ.alike Ar224.2.1) Ar224.2.2 in224 at224 (g := (mkF m 92 #[vR a0, vR a1, vI j66_l2_202, vI j66_l3_203, vI (3 : Int32)] [(.int (3 : Int32)), (.ref a1), (.long (1 : Int64)), (.int (3 : Int32)), (.ref b33)])) rfl rfl (hb hby d1_92) _ ?_
    refine XS.lshl X222.here hx rfl (hb hby d1_93) rfl ?_
    refine XS.lconst X222.here hx rfl (hb hby d1_94) ?_
    show Steps p.tables e below (T222.setTop (mkF m 95 #[vR a0, vR a1, vI j66_l2_202, vI j66_l3_203, vI (3 : Int32)] [(.long (1 : Int64)), (.long ((1 : Int64) <<< (w3 &&& 0x3f).toInt64)), (.int (3 : Int32)), (.ref b33)])) _
    refine XS.lsub X222.here hx rfl (hb hby d1_95) rfl ?_
    exact k)
  obtain ⟨cl226, Ar226, q226, S226, M226, H226, G226⟩ := id f218_10
  have in226 : ¬ ((3 : Int32) < 0 ∨ cl226.slots.size ≤ ((3 : Int32)).toNatClampNeg) := inb_of S226 ⟨by decide, by decide⟩
  obtain ⟨T226, h226, X226, e226, W226, st226⟩ := stJ X222 hx hZ e222 Ar226 (j := (3 : Int32)) in226 (g := (mkF m 96 #[vR a0, vR a1, vI j66_l2_202, vI j66_l3_203, vI (3 : Int32)] [(.long (((1 : Int64) <<< (w3 &&& 0x3f).toInt64) - (1 : Int64))), (.int (3 : Int32)), (.ref b33)])) rfl rfl (hb hby d1_96)
  have pre226 : Go p.tables e below S0 T226 (mkF m 97 #[vR a0, vR a1, vI j66_l2_202, vI j66_l3_203, vI (3 : Int32)] []) := fun t k => pre225 t (st226 t k)
  obtain ⟨lo226, N226, X226⟩ : ∃ lo, Fr n0 lo ∧ Stand p l e ({ frames := 1, cells := 4, slots := 16, locals := 12 } : Room) s m #[(.ref a0), (.ref a1)] below meth c T226 lo 4 16 := ⟨_, Fr.snoc X226 N217 bo33, X226⟩
  have av226 : Arv Z h226 b33 kA33 .long (4 : Int32) [(.long (((1 : Int64) <<< (w0 &&& 0x3f).toInt64) - (1 : Int64))), (.long (((1 : Int64) <<< (w1 &&& 0x3f).toInt64) - (1 : Int64))), (.long (((1 : Int64) <<< (w2 &&& 0x3f).toInt64) - (1 : Int64))), (.long (((1 : Int64) <<< (w3 &&& 0x3f).toInt64) - (1 : Int64)))] (.long (0 : Int64)) := Arv.set Ar226 q226 S226 M226 H226 G226 rfl W226 3 rfl (Nat.le_of_ble_eq_true rfl)
  have f227_1 := Exa.wr W226 f218_1
  have f227_2 := Fld.other W226 f218_2 (Or.inl ne34)
  have f227_3 := Fld.other W226 f218_3 (Or.inl ne34)
  have f227_4 := Fld.other W226 f218_4 (Or.inl ne34)
  have f227_5 := Fld.other W226 f218_5 (Or.inl ne34)
  have f227_6 := Fld.other W226 f218_6 (Or.inl ne34)
  have f227_7 := Fld.other W226 f218_7 (Or.inl ne34)
  have f227_8 := f218_8.other W226 ne35
  have f227_9 := f218_9.other W226 ne36
  have f227_10 := av217.other W226 ne37
  have f227_11 := f218_11.other W226 (Ne.symm ne53)
  have zz228 : n0 ≤ h226.size := Nat.le_trans zz219 (Keep.of_wr W226).1
  have kp229 : Keep h0 h226 [a0] := kp220.wr W226 (Or.inr ol33)
  have pre230 : Go p.tables e below S0 T226 (mkF m 98 #[vR a0, vR a1, vI j66_l2_202, vI j66_l3_203, vI (3 : Int32)] [(.ref a0)]) := fun t k => pre226 t (by
    refine XS.aloadN X226.here hx rfl (hb hby d1_97) rfl rfl ?_
    exact k)
  obtain ⟨T231, X231, e231, st231⟩ := getF X226 hx hZ hown (host := "") (Or.inl (hw _ (List.mem_of_getElem? (i := 20) rfl))) Via.refl e226 f227_5 (g := (mkF m 98 #[vR a0, vR a1, vI j66_l2_202, vI j66_l3_203, vI (3 : Int32)] [(.ref a0)])) rfl rfl (hb hby d1_98)
  have pre231 : Go p.tables e below S0 T231 (mkF m 101 #[vR a0, vR a1, vI j66_l2_202, vI j66_l3_203, vI (3 : Int32)] [(.ref b48)]) := fun t k => pre230 t (st231 t k)
  have pre232 : Go p.tables e below S0 T231 (mkF m 104 #[vR a0, vR a1, vI j66_l2_202, vI j66_l3_203, vI (3 : Int32)] [(.ref a0), (.int (3 : Int32)), (.ref b48)]) := fun t k => pre231 t (by
    refine XS.iload X231.here hx rfl (hb hby d1_101) rfl ?_
    refine XS.aloadN X231.here hx rfl (hb hby d1_103) rfl rfl ?_
    exact k)
  obtain ⟨T233, X233, e233, st233⟩ := getF X231 hx hZ hown (host := "") (Or.inl (hw _ (List.mem_of_getElem? (i := 18) rfl))) Via.refl e231 f227_4 (g := (mkF m 104 #[vR a0, vR a1, vI j66_l2_202, vI j66_l3_203, vI (3 : Int32)] [(.ref a0), (.int (3 : Int32)), (.ref b48)])) rfl rfl (hb hby d1_104)
  have pre233 : Go p.tables e below S0 T233 (mkF m 107 #[vR a0, vR a1, vI j66_l2_202, vI j66_l3_203, vI (3 : Int32)] [(.ref b33), (.int (3 : Int32)), (.ref b48)]) := fun t k => pre232 t (st233 t k)
  have pre234 : Go p.tables e below S0 T233 (mkF m 109 #[vR a0, vR a1, vI j66_l2_202, vI j66_l3_203, vI (3 : Int32)] [(.int (3 : Int32)), (.ref b33), (.int (3 : Int32)), (.ref b48)]) := fun t k => pre233 t (by
    refine XS.iload X233.here hx rfl (hb hby d1_107) rfl ?_
    exact k)
  obtain ⟨cl235, Ar235, q235, S235, M235, H235, G235⟩ := id av226
  have in235 : ¬ ((3 : Int32) < 0 ∨ cl235.slots.size ≤ ((3 : Int32)).toNatClampNeg) := inb_of S235 ⟨by decide, by decide⟩
  have at235 : cl235.slots[((3 : Int32)).toNatClampNeg]? = some (.long (((1 : Int64) <<< (w3 &&& 0x3f).toInt64) - (1 : Int64))) := H235.at in235 rfl
  have pre236 : Go p.tables e below S0 T233 (mkF m 116 #[vR a0, vR a1, vI j66_l2_202, vI j66_l3_203, vI (3 : Int32)] [(.long (((((1 : Int64) <<< (w3 &&& 0x3f).toInt64) - (1 : Int64)) <<< (j66_l2_202 &&& 0x3f).toInt64) ^^^ (-1 : Int64))), (.int (3 : Int32)), (.ref b48)]) := fun t k => pre234 t (by
    refine X233.laload hx (j := (3 : Int32)) (v := (.long (((1 : Int64) <<< (w3 &&& 0x3f).toInt64) - (1 : Int64)))) (by rw [e233]; exact Ar235.1) (State.isArrayOf_alike hZ.alike Ar235.2.1) Ar235.2.2 in235 at235 (g := (mkF m 109 #[vR a0, vR a1, vI j66_l2_202, vI j66_l3_203, vI (3 : Int32)] [(.int (3 : Int32)), (.ref b33), (.int (3 : Int32)), (.ref b48)])) rfl rfl (hb hby d1_109) _ ?_
    refine XS.iloadN X233.here hx rfl (hb hby d1_110) rfl ?_
    refine XS.lshl X233.here hx rfl (hb hby d1_111) rfl ?_
    show Steps p.tables e below (T233.setTop (mkF m 112 #[vR a0, vR a1, vI j66_l2_202, vI j66_l3_203, vI (3 : Int32)] [(.long ((((1 : Int64) <<< (w3 &&& 0x3f).toInt64) - (1 : Int64)) <<< (j66_l2_202 &&& 0x3f).toInt64)), (.int (3 : Int32)), (.ref b48)])) _
    refine X233.ldc2Long hx hown (mvT hZ (hw _ (List.mem_of_getElem? (i := 22) rfl))) (g := (mkF m 112 #[vR a0, vR a1, vI j66_l2_202, vI j66_l3_203, vI (3 : Int32)] [(.long ((((1 : Int64) <<< (w3 &&& 0x3f).toInt64) - (1 : Int64)) <<< (j66_l2_202 &&& 0x3f).toInt64)), (.int (3 : Int32)), (.ref b48)])) rfl (hb hby d1_112) _ ?_
    refine XS.lxor X233.here hx rfl (hb hby d1_115) rfl ?_
    exact k)
  obtain ⟨cl237, Ar237, q237, S237, M237, H237, G237⟩ := id f227_11
  have in237 : ¬ ((3 : Int32) < 0 ∨ cl237.slots.size ≤ ((3 : Int32)).toNatClampNeg) := inb_of S237 ⟨by decide, by decide⟩
  obtain ⟨T237, h237, X237, e237, W237, st237⟩ := stJ X233 hx hZ e233 Ar237 (j := (3 : Int32)) in237 (g := (mkF m 116 #[vR a0, vR a1, vI j66_l2_202, vI j66_l3_203, vI (3 : Int32)] [(.long (((((1 : Int64) <<< (w3 &&& 0x3f).toInt64) - (1 : Int64)) <<< (j66_l2_202 &&& 0x3f).toInt64) ^^^ (-1 : Int64))), (.int (3 : Int32)), (.ref b48)])) rfl rfl (hb hby d1_116)
  have pre237 : Go p.tables e below S0 T237 (mkF m 117 #[vR a0, vR a1, vI j66_l2_202, vI j66_l3_203, vI (3 : Int32)] []) := fun t k => pre236 t (st237 t k)
  obtain ⟨lo237, N237, X237⟩ : ∃ lo, Fr n0 lo ∧ Stand p l e ({ frames := 1, cells := 4, slots := 16, locals := 12 } : Room) s m #[(.ref a0), (.ref a1)] below meth c T237 lo 4 16 := ⟨_, Fr.snoc X237 N226 bo48, X237⟩
  have av237 : Arv Z h237 b48 kA48 .long (4 : Int32) [(.long (((((1 : Int64) <<< (w0 &&& 0x3f).toInt64) - (1 : Int64)) <<< ((0 : Int32) &&& 0x3f).toInt64) ^^^ (-1 : Int64))), (.long (((((1 : Int64) <<< (w1 &&& 0x3f).toInt64) - (1 : Int64)) <<< (((0 : Int32) + w0) &&& 0x3f).toInt64) ^^^ (-1 : Int64))), (.long (((((1 : Int64) <<< (w2 &&& 0x3f).toInt64) - (1 : Int64)) <<< (j66_l2_153 &&& 0x3f).toInt64) ^^^ (-1 : Int64))), (.long (((((1 : Int64) <<< (w3 &&& 0x3f).toInt64) - (1 : Int64)) <<< (j66_l2_202 &&& 0x3f).toInt64) ^^^ (-1 : Int64)))] (.long (0 : Int64)) := Arv.set Ar237 q237 S237 M237 H237 G237 rfl W237 3 rfl (Nat.le_of_ble_eq_true rfl)
  have f238_1 := Exa.wr W237 f227_1
  have f238_2 := Fld.other W237 f227_2 (Or.inl ne49)
  have f238_3 := Fld.other W237 f227_3 (Or.inl ne49)
  have f238_4 := Fld.other W237 f227_4 (Or.inl ne49)
  have f238_5 := Fld.other W237 f227_5 (Or.inl ne49)
  have f238_6 := Fld.other W237 f227_6 (Or.inl ne49)
  have f238_7 := Fld.other W237 f227_7 (Or.inl ne49)
  have f238_8 := f227_8.other W237 ne50
  have f238_9 := f227_9.other W237 ne51
  have f238_10 := f227_10.other W237 ne52
  have f238_11 := av226.other W237 ne53
  have zz239 : n0 ≤ h237.size := Nat.le_trans zz228 (Keep.of_wr W237).1
  have kp240 : Keep h0 h237 [a0] := kp229.wr W237 (Or.inr ol48)
  have pre241 : Go p.tables e below S0 T237 (mkF m 121 #[vR a0, vR a1, vI j66_l2_202, vI j66_l3_203, vI (3 : Int32)] [(.int (3 : Int32)), (.ref a1), (.int j66_l2_202)]) := fun t k => pre237 t (by
    refine XS.iloadN X237.here hx rfl (hb hby d1_117) rfl ?_
    refine XS.aloadN X237.here hx rfl (hb hby d1_118) rfl rfl ?_
    refine XS.iload X237.here hx rfl (hb hby d1_119) rfl ?_
    show Steps p.tables e below (T237.setTop (mkF m 121 #[vR a0, vR a1, vI j66_l2_202, vI j66_l3_203, vI (3 : Int32)] [(.int (3 : Int32)), (.ref a1), (.int j66_l2_202)])) _
    exact k)
  obtain ⟨cl242, Ar242, q242, S242, M242, H242, G242⟩ := id f238_8
  have in242 : ¬ ((3 : Int32) < 0 ∨ cl242.slots.size ≤ ((3 : Int32)).toNatClampNeg) := inb_of S242 ⟨by decide, by decide⟩
  have at242 : cl242.slots[((3 : Int32)).toNatClampNeg]? = some (.int w3) := H242.at in242 rfl
  have pre243 : Go p.tables e below S0 T237 (mkF m 46 #[vR a0, vR a1, vI (j66_l2_202 + w3), vI j66_l3_203, vI (4 : Int32)] [(.ref a1), (.int (4 : Int32))]) := fun t k => pre241 t (by
    refine X237.iaload hx (j := (3 : Int32)) (v := (.int w3)) (by rw [e237]; exact Ar242.1) (State.isArrayOf_alike hZ.alike Ar242.2.1) Ar242.2.2 in242 at242 (g := (mkF m 121 #[vR a0, vR a1, vI j66_l2_202, vI j66_l3_203, vI (3 : Int32)] [(.int (3 : Int32)), (.ref a1), (.int j66_l2_202)])) rfl rfl (hb hby d1_121) _ ?_
    refine XS.iadd X237.here hx rfl (hb hby d1_122) rfl ?_
    refine XS.istoreN X237.here hx rfl (hb hby d1_123) rfl (l' := #[vR a0, vR a1, vI (j66_l2_202 + w3), vI j66_l3_203, vI (3 : Int32)]) rfl ?_
    show Steps p.tables e below (T237.setTop (mkF m 124 #[vR a0, vR a1, vI (j66_l2_202 + w3), vI j66_l3_203, vI (3 : Int32)] [])) _
    refine XS.iinc X237.here hx rfl (hb hby d1_124) rfl (l' := #[vR a0, vR a1, vI (j66_l2_202 + w3), vI j66_l3_203, vI (4 : Int32)]) rfl ?_
    refine XS.goto X237.here hx rfl (pc0 := 127) (pc' := 43) rfl (hb hby d1_127) (by decide) (by decide) ?_
    refine XS.iload X237.here hx rfl (hb hby d1_43) rfl ?_
    show Steps p.tables e below (T237.setTop (mkF m 45 #[vR a0, vR a1, vI (j66_l2_202 + w3), vI j66_l3_203, vI (4 : Int32)] [(.int (4 : Int32))])) _
    refine XS.aloadN X237.here hx rfl (hb hby d1_45) rfl rfl ?_
    exact k)
  obtain ⟨cl244, Ar244, q244, S244, M244, H244, G244⟩ := id f238_8
  have pre245 : Go p.tables e below S0 T237 (mkF m 134 #[vR a0, vR a1, vI (j66_l2_202 + w3), vI j66_l3_203, vI (4 : Int32)] [(.int (j66_l3_203 + (1 : Int32))), (.ref a0)]) := fun t k => pre243 t (by
    refine X237.arraylength hx (by rw [e237]; exact Ar244.1) (State.isArrayOf_alike hZ.alike Ar244.2.1) (g := (mkF m 46 #[vR a0, vR a1, vI (j66_l2_202 + w3), vI j66_l3_203, vI (4 : Int32)] [(.ref a1), (.int (4 : Int32))])) rfl rfl (hb hby d1_46) _ ?_
    rw [len_of S244 M244]
    refine XS.icmpYes X237.here hx rfl (pc0 := 47) (pc' := 130) rfl (hb hby d1_47) rfl (flt (by decide : ¬ ((4 : Int32) < (4 : Int32)))).2.1 (by decide) (by decide) ?_
    refine XS.aloadN X237.here hx rfl (hb hby d1_130) rfl rfl ?_
    show Steps p.tables e below (T237.setTop (mkF m 131 #[vR a0, vR a1, vI (j66_l2_202 + w3), vI j66_l3_203, vI (4 : Int32)] [(.ref a0)])) _
    refine XS.iloadN X237.here hx rfl (hb hby d1_131) rfl ?_
    refine XS.iconst X237.here hx rfl (hb hby d1_132) ?_
    refine XS.iadd X237.here hx rfl (hb hby d1_133) rfl ?_
    show Steps p.tables e below (T237.setTop (mkF m 134 #[vR a0, vR a1, vI (j66_l2_202 + w3), vI j66_l3_203, vI (4 : Int32)] [(.int (j66_l3_203 + (1 : Int32))), (.ref a0)])) _
    exact k)
  obtain ⟨T246, h246, X246, e246, W246, st246⟩ := putF X237 hx hZ hown (host := "") (Or.inl (hw _ (List.mem_of_getElem? (i := 23) rfl))) Via.refl e237 f238_6 f238_1 (Or.inr ⟨(hw _ (List.mem_of_getElem? (i := 24) rfl)), rfl, hnm⟩) (hw _ (List.mem_of_getElem? (i := 6) rfl)) (ty := .int) (by decide) rfl rfl (g := (mkF m 134 #[vR a0, vR a1, vI (j66_l2_202 + w3), vI j66_l3_203, vI (4 : Int32)] [(.int (j66_l3_203 + (1 : Int32))), (.ref a0)])) rfl rfl (hb hby d1_134)
  have pre246 : Go p.tables e below S0 T246 (mkF m 137 #[vR a0, vR a1, vI (j66_l2_202 + w3), vI j66_l3_203, vI (4 : Int32)] []) := fun t k => pre245 t (st246 t k)
  obtain ⟨lo246, N246, X246⟩ : ∃ lo, Fr n0 lo ∧ Stand p l e ({ frames := 1, cells := 4, slots := 16, locals := 12 } : Room) s m #[(.ref a0), (.ref a1)] below meth c T246 lo 4 16 := ⟨_, Fr.snoc X246 N237 g0, X246⟩
  have fw246 : Fld Z h246 a0 "com/example/garantia/garantia/engine/StateLayout" "words" "I" (.int (j66_l3_203 + (1 : Int32))) := Fld.same W246 f238_6
  have f247_1 := Exa.wr W246 f238_1
  have f247_2 := Fld.other W246 f238_2 (Or.inr (slot_ne (Or.inr (hw _ (List.mem_of_getElem? (i := 15) rfl))) (Or.inr (hw _ (List.mem_of_getElem? (i := 24) rfl))) (by decide) (t := (.array .int)) (t' := .int) (by decide) (by decide)))
  have f247_3 := Fld.other W246 f238_3 (Or.inr (slot_ne (Or.inr (hw _ (List.mem_of_getElem? (i := 17) rfl))) (Or.inr (hw _ (List.mem_of_getElem? (i := 24) rfl))) (by decide) (t := (.array .int)) (t' := .int) (by decide) (by decide)))
  have f247_4 := Fld.other W246 f238_4 (Or.inr (slot_ne (Or.inr (hw _ (List.mem_of_getElem? (i := 19) rfl))) (Or.inr (hw _ (List.mem_of_getElem? (i := 24) rfl))) (by decide) (t := (.array .long)) (t' := .int) (by decide) (by decide)))
  have f247_5 := Fld.other W246 f238_5 (Or.inr (slot_ne (Or.inr (hw _ (List.mem_of_getElem? (i := 21) rfl))) (Or.inr (hw _ (List.mem_of_getElem? (i := 24) rfl))) (by decide) (t := (.array .long)) (t' := .int) (by decide) (by decide)))
  have f247_6 := Fld.other W246 f238_7 (Or.inr (slot_ne (Or.inr (hw _ (List.mem_of_getElem? (i := 26) rfl))) (Or.inr (hw _ (List.mem_of_getElem? (i := 24) rfl))) (by decide) (t := .boolean) (t' := .int) (by decide) (by decide)))
  have f247_7 := f238_8.other W246 xe1
  have f247_8 := f238_9.other W246 (Ne.symm ne7)
  have f247_9 := f238_10.other W246 (Ne.symm ne20)
  have f247_10 := f238_11.other W246 (Ne.symm ne34)
  have f247_11 := av237.other W246 (Ne.symm ne49)
  have zz248 : n0 ≤ h246.size := Nat.le_trans zz239 (Keep.of_wr W246).1
  have kp249 : Keep h0 h246 [a0] := kp240.wr W246 (Or.inl (List.mem_of_getElem? (i := 0) rfl))
  have pre250 : Go p.tables e below S0 T246 (mkF m 139 #[vR a0, vR a1, vI (j66_l2_202 + w3), vI j66_l3_203, vI (4 : Int32)] [(.ref a0), (.ref a0)]) := fun t k => pre246 t (by
    refine XS.aloadN X246.here hx rfl (hb hby d1_137) rfl rfl ?_
    refine XS.aloadN X246.here hx rfl (hb hby d1_138) rfl rfl ?_
    exact k)
  obtain ⟨T251, X251, e251, st251⟩ := getF X246 hx hZ hown (host := "") (Or.inl (hw _ (List.mem_of_getElem? (i := 23) rfl))) Via.refl e246 fw246 (g := (mkF m 139 #[vR a0, vR a1, vI (j66_l2_202 + w3), vI j66_l3_203, vI (4 : Int32)] [(.ref a0), (.ref a0)])) rfl rfl (hb hby d1_139)
  have pre251 : Go p.tables e below S0 T251 (mkF m 142 #[vR a0, vR a1, vI (j66_l2_202 + w3), vI j66_l3_203, vI (4 : Int32)] [(.int (j66_l3_203 + (1 : Int32))), (.ref a0)]) := fun t k => pre250 t (st251 t k)
  have pre252 : Go p.tables e below S0 T251 (mkF m 143 #[vR a0, vR a1, vI (j66_l2_202 + w3), vI j66_l3_203, vI (4 : Int32)] [(.int (1 : Int32)), (.int (j66_l3_203 + (1 : Int32))), (.ref a0)]) := fun t k => pre251 t (by
    refine XS.iconst X251.here hx rfl (hb hby d1_142) ?_
    exact k)
  by_cases c143_253 : (j66_l3_203 + (1 : Int32)) = (1 : Int32)
  · skip
    have pre254 : Go p.tables e below S0 T251 (mkF m 149 #[vR a0, vR a1, vI (j66_l2_202 + w3), vI j66_l3_203, vI (4 : Int32)] [(.int (32 : Int32)), (.int (j66_l2_202 + w3)), (.ref a0)]) := fun t k => pre252 t (by
      refine XS.icmpNo X251.here hx rfl (hb hby d1_143) rfl (teq c143_253).2 ?_
      refine XS.iloadN X251.here hx rfl (hb hby d1_146) rfl ?_
      refine XS.bipush X251.here hx rfl (hb hby d1_147) ?_
      show Steps p.tables e below (T251.setTop (mkF m 149 #[vR a0, vR a1, vI (j66_l2_202 + w3), vI j66_l3_203, vI (4 : Int32)] [(.int (32 : Int32)), (.int (j66_l2_202 + w3)), (.ref a0)])) _
      exact k)
    by_cases c149_255 : (32 : Int32) < (j66_l2_202 + w3)
    · skip
      have pre256 : Go p.tables e below S0 T251 (mkF m 157 #[vR a0, vR a1, vI (j66_l2_202 + w3), vI j66_l3_203, vI (4 : Int32)] [(.int (0 : Int32)), (.ref a0)]) := fun t k => pre254 t (by
        refine XS.icmpYes X251.here hx rfl (pc0 := 149) (pc' := 156) rfl (hb hby d1_149) rfl (tlt c149_255).2.2.1 (by decide) (by decide) ?_
        refine XS.iconst X251.here hx rfl (hb hby d1_156) ?_
        exact k)
      obtain ⟨T257, h257, X257, e257, W257, st257⟩ := putFN X251 hx hZ hown (hw _ (List.mem_of_getElem? (i := 25) rfl)) Via.refl e251 f247_6 f247_1 (Or.inr ⟨(hw _ (List.mem_of_getElem? (i := 26) rfl)), rfl, hnm⟩) (hw _ (List.mem_of_getElem? (i := 6) rfl)) (ty := .boolean) (v' := (.int (0 : Int32))) (by decide) rfl rfl (g := (mkF m 157 #[vR a0, vR a1, vI (j66_l2_202 + w3), vI j66_l3_203, vI (4 : Int32)] [(.int (0 : Int32)), (.ref a0)])) rfl rfl (hb hby d1_157)
      have pre257 : Go p.tables e below S0 T257 (mkF m 160 #[vR a0, vR a1, vI (j66_l2_202 + w3), vI j66_l3_203, vI (4 : Int32)] []) := fun t k => pre256 t (st257 t k)
      obtain ⟨lo257, N257, X257⟩ : ∃ lo, Fr n0 lo ∧ Stand p l e ({ frames := 1, cells := 4, slots := 16, locals := 12 } : Room) s m #[(.ref a0), (.ref a1)] below meth c T257 lo 4 16 := ⟨_, Fr.snoc X257 N246 g0, X257⟩
      have fw257 : Fld Z h257 a0 "com/example/garantia/garantia/engine/StateLayout" "narrow" "Z" (.int (0 : Int32)) := Fld.same W257 f247_6
      have f258_1 := Exa.wr W257 f247_1
      have f258_2 := Fld.other W257 f247_2 (Or.inr (slot_ne (Or.inr (hw _ (List.mem_of_getElem? (i := 15) rfl))) (Or.inr (hw _ (List.mem_of_getElem? (i := 26) rfl))) (by decide) (t := (.array .int)) (t' := .boolean) (by decide) (by decide)))
      have f258_3 := Fld.other W257 f247_3 (Or.inr (slot_ne (Or.inr (hw _ (List.mem_of_getElem? (i := 17) rfl))) (Or.inr (hw _ (List.mem_of_getElem? (i := 26) rfl))) (by decide) (t := (.array .int)) (t' := .boolean) (by decide) (by decide)))
      have f258_4 := Fld.other W257 f247_4 (Or.inr (slot_ne (Or.inr (hw _ (List.mem_of_getElem? (i := 19) rfl))) (Or.inr (hw _ (List.mem_of_getElem? (i := 26) rfl))) (by decide) (t := (.array .long)) (t' := .boolean) (by decide) (by decide)))
      have f258_5 := Fld.other W257 f247_5 (Or.inr (slot_ne (Or.inr (hw _ (List.mem_of_getElem? (i := 21) rfl))) (Or.inr (hw _ (List.mem_of_getElem? (i := 26) rfl))) (by decide) (t := (.array .long)) (t' := .boolean) (by decide) (by decide)))
      have f258_6 := Fld.other W257 fw246 (Or.inr (slot_ne (Or.inr (hw _ (List.mem_of_getElem? (i := 24) rfl))) (Or.inr (hw _ (List.mem_of_getElem? (i := 26) rfl))) (by decide) (t := .int) (t' := .boolean) (by decide) (by decide)))
      have f258_7 := f247_7.other W257 xe1
      have f258_8 := f247_8.other W257 (Ne.symm ne7)
      have f258_9 := f247_9.other W257 (Ne.symm ne20)
      have f258_10 := f247_10.other W257 (Ne.symm ne34)
      have f258_11 := f247_11.other W257 (Ne.symm ne49)
      have zz259 : n0 ≤ h257.size := Nat.le_trans zz248 (Keep.of_wr W257).1
      have kp260 : Keep h0 h257 [a0] := kp249.wr W257 (Or.inl (List.mem_of_getElem? (i := 0) rfl))
      obtain ⟨fs, hr, hrun, hended, hW, hsame⟩ := X257.leave (v := none) (fun _ => rfl)
      exact ⟨_, _, pre257.fin hS0 (X257.returnOut hx Bd.returns (hb hby d1_160) hr), hrun, hended, _, _, rfl, (by
        show Q1 Z a0 a1 k1 w0 w1 w2 w3 h0 n0 _ T257.heap _
        rw [e257]
        exact ⟨rfl, N257, b6, b19, b33, b48, _, _, _, _, _, _, _, _, ⟨hj66_155, hj66_204⟩, ⟨ol6, ol19, ol33, ol48⟩, ⟨ne22, ne36, ne51, ne37, ne52, ne53⟩, kp260, f258_1, f258_2, f258_3, f258_4, f258_5, f258_6, f258_8, f258_9, f258_10, f258_11⟩), ⟨_, rfl⟩, hW, hsame.mono (by decide) (by decide)⟩
    · skip
      have pre261 : Go p.tables e below S0 T251 (mkF m 157 #[vR a0, vR a1, vI (j66_l2_202 + w3), vI j66_l3_203, vI (4 : Int32)] [(.int (1 : Int32)), (.ref a0)]) := fun t k => pre254 t (by
        refine XS.icmpNo X251.here hx rfl (hb hby d1_149) rfl (flt c149_255).2.2.1 ?_
        refine XS.iconst X251.here hx rfl (hb hby d1_152) ?_
        refine XS.goto X251.here hx rfl (pc0 := 153) (pc' := 157) rfl (hb hby d1_153) (by decide) (by decide) ?_
        show Steps p.tables e below (T251.setTop (mkF m 157 #[vR a0, vR a1, vI (j66_l2_202 + w3), vI j66_l3_203, vI (4 : Int32)] [(.int (1 : Int32)), (.ref a0)])) _
        exact k)
      obtain ⟨T262, h262, X262, e262, W262, st262⟩ := putFN X251 hx hZ hown (hw _ (List.mem_of_getElem? (i := 25) rfl)) Via.refl e251 f247_6 f247_1 (Or.inr ⟨(hw _ (List.mem_of_getElem? (i := 26) rfl)), rfl, hnm⟩) (hw _ (List.mem_of_getElem? (i := 6) rfl)) (ty := .boolean) (v' := (.int (1 : Int32))) (by decide) rfl rfl (g := (mkF m 157 #[vR a0, vR a1, vI (j66_l2_202 + w3), vI j66_l3_203, vI (4 : Int32)] [(.int (1 : Int32)), (.ref a0)])) rfl rfl (hb hby d1_157)
      have pre262 : Go p.tables e below S0 T262 (mkF m 160 #[vR a0, vR a1, vI (j66_l2_202 + w3), vI j66_l3_203, vI (4 : Int32)] []) := fun t k => pre261 t (st262 t k)
      obtain ⟨lo262, N262, X262⟩ : ∃ lo, Fr n0 lo ∧ Stand p l e ({ frames := 1, cells := 4, slots := 16, locals := 12 } : Room) s m #[(.ref a0), (.ref a1)] below meth c T262 lo 4 16 := ⟨_, Fr.snoc X262 N246 g0, X262⟩
      have fw262 : Fld Z h262 a0 "com/example/garantia/garantia/engine/StateLayout" "narrow" "Z" (.int (1 : Int32)) := Fld.same W262 f247_6
      have f263_1 := Exa.wr W262 f247_1
      have f263_2 := Fld.other W262 f247_2 (Or.inr (slot_ne (Or.inr (hw _ (List.mem_of_getElem? (i := 15) rfl))) (Or.inr (hw _ (List.mem_of_getElem? (i := 26) rfl))) (by decide) (t := (.array .int)) (t' := .boolean) (by decide) (by decide)))
      have f263_3 := Fld.other W262 f247_3 (Or.inr (slot_ne (Or.inr (hw _ (List.mem_of_getElem? (i := 17) rfl))) (Or.inr (hw _ (List.mem_of_getElem? (i := 26) rfl))) (by decide) (t := (.array .int)) (t' := .boolean) (by decide) (by decide)))
      have f263_4 := Fld.other W262 f247_4 (Or.inr (slot_ne (Or.inr (hw _ (List.mem_of_getElem? (i := 19) rfl))) (Or.inr (hw _ (List.mem_of_getElem? (i := 26) rfl))) (by decide) (t := (.array .long)) (t' := .boolean) (by decide) (by decide)))
      have f263_5 := Fld.other W262 f247_5 (Or.inr (slot_ne (Or.inr (hw _ (List.mem_of_getElem? (i := 21) rfl))) (Or.inr (hw _ (List.mem_of_getElem? (i := 26) rfl))) (by decide) (t := (.array .long)) (t' := .boolean) (by decide) (by decide)))
      have f263_6 := Fld.other W262 fw246 (Or.inr (slot_ne (Or.inr (hw _ (List.mem_of_getElem? (i := 24) rfl))) (Or.inr (hw _ (List.mem_of_getElem? (i := 26) rfl))) (by decide) (t := .int) (t' := .boolean) (by decide) (by decide)))
      have f263_7 := f247_7.other W262 xe1
      have f263_8 := f247_8.other W262 (Ne.symm ne7)
      have f263_9 := f247_9.other W262 (Ne.symm ne20)
      have f263_10 := f247_10.other W262 (Ne.symm ne34)
      have f263_11 := f247_11.other W262 (Ne.symm ne49)
      have zz264 : n0 ≤ h262.size := Nat.le_trans zz248 (Keep.of_wr W262).1
      have kp265 : Keep h0 h262 [a0] := kp249.wr W262 (Or.inl (List.mem_of_getElem? (i := 0) rfl))
      obtain ⟨fs, hr, hrun, hended, hW, hsame⟩ := X262.leave (v := none) (fun _ => rfl)
      exact ⟨_, _, pre262.fin hS0 (X262.returnOut hx Bd.returns (hb hby d1_160) hr), hrun, hended, _, _, rfl, (by
        show Q1 Z a0 a1 k1 w0 w1 w2 w3 h0 n0 _ T262.heap _
        rw [e262]
        exact ⟨rfl, N262, b6, b19, b33, b48, _, _, _, _, _, _, _, _, ⟨hj66_155, hj66_204⟩, ⟨ol6, ol19, ol33, ol48⟩, ⟨ne22, ne36, ne51, ne37, ne52, ne53⟩, kp265, f263_1, f263_2, f263_3, f263_4, f263_5, f263_6, f263_8, f263_9, f263_10, f263_11⟩), ⟨_, rfl⟩, hW, hsame.mono (by decide) (by decide)⟩
  · skip
    have pre266 : Go p.tables e below S0 T251 (mkF m 157 #[vR a0, vR a1, vI (j66_l2_202 + w3), vI j66_l3_203, vI (4 : Int32)] [(.int (0 : Int32)), (.ref a0)]) := fun t k => pre252 t (by
      refine XS.icmpYes X251.here hx rfl (pc0 := 143) (pc' := 156) rfl (hb hby d1_143) rfl (feq c143_253).2 (by decide) (by decide) ?_
      refine XS.iconst X251.here hx rfl (hb hby d1_156) ?_
      exact k)
    obtain ⟨T267, h267, X267, e267, W267, st267⟩ := putFN X251 hx hZ hown (hw _ (List.mem_of_getElem? (i := 25) rfl)) Via.refl e251 f247_6 f247_1 (Or.inr ⟨(hw _ (List.mem_of_getElem? (i := 26) rfl)), rfl, hnm⟩) (hw _ (List.mem_of_getElem? (i := 6) rfl)) (ty := .boolean) (v' := (.int (0 : Int32))) (by decide) rfl rfl (g := (mkF m 157 #[vR a0, vR a1, vI (j66_l2_202 + w3), vI j66_l3_203, vI (4 : Int32)] [(.int (0 : Int32)), (.ref a0)])) rfl rfl (hb hby d1_157)
    have pre267 : Go p.tables e below S0 T267 (mkF m 160 #[vR a0, vR a1, vI (j66_l2_202 + w3), vI j66_l3_203, vI (4 : Int32)] []) := fun t k => pre266 t (st267 t k)
    obtain ⟨lo267, N267, X267⟩ : ∃ lo, Fr n0 lo ∧ Stand p l e ({ frames := 1, cells := 4, slots := 16, locals := 12 } : Room) s m #[(.ref a0), (.ref a1)] below meth c T267 lo 4 16 := ⟨_, Fr.snoc X267 N246 g0, X267⟩
    have fw267 : Fld Z h267 a0 "com/example/garantia/garantia/engine/StateLayout" "narrow" "Z" (.int (0 : Int32)) := Fld.same W267 f247_6
    have f268_1 := Exa.wr W267 f247_1
    have f268_2 := Fld.other W267 f247_2 (Or.inr (slot_ne (Or.inr (hw _ (List.mem_of_getElem? (i := 15) rfl))) (Or.inr (hw _ (List.mem_of_getElem? (i := 26) rfl))) (by decide) (t := (.array .int)) (t' := .boolean) (by decide) (by decide)))
    have f268_3 := Fld.other W267 f247_3 (Or.inr (slot_ne (Or.inr (hw _ (List.mem_of_getElem? (i := 17) rfl))) (Or.inr (hw _ (List.mem_of_getElem? (i := 26) rfl))) (by decide) (t := (.array .int)) (t' := .boolean) (by decide) (by decide)))
    have f268_4 := Fld.other W267 f247_4 (Or.inr (slot_ne (Or.inr (hw _ (List.mem_of_getElem? (i := 19) rfl))) (Or.inr (hw _ (List.mem_of_getElem? (i := 26) rfl))) (by decide) (t := (.array .long)) (t' := .boolean) (by decide) (by decide)))
    have f268_5 := Fld.other W267 f247_5 (Or.inr (slot_ne (Or.inr (hw _ (List.mem_of_getElem? (i := 21) rfl))) (Or.inr (hw _ (List.mem_of_getElem? (i := 26) rfl))) (by decide) (t := (.array .long)) (t' := .boolean) (by decide) (by decide)))
    have f268_6 := Fld.other W267 fw246 (Or.inr (slot_ne (Or.inr (hw _ (List.mem_of_getElem? (i := 24) rfl))) (Or.inr (hw _ (List.mem_of_getElem? (i := 26) rfl))) (by decide) (t := .int) (t' := .boolean) (by decide) (by decide)))
    have f268_7 := f247_7.other W267 xe1
    have f268_8 := f247_8.other W267 (Ne.symm ne7)
    have f268_9 := f247_9.other W267 (Ne.symm ne20)
    have f268_10 := f247_10.other W267 (Ne.symm ne34)
    have f268_11 := f247_11.other W267 (Ne.symm ne49)
    have zz269 : n0 ≤ h267.size := Nat.le_trans zz248 (Keep.of_wr W267).1
    have kp270 : Keep h0 h267 [a0] := kp249.wr W267 (Or.inl (List.mem_of_getElem? (i := 0) rfl))
    obtain ⟨fs, hr, hrun, hended, hW, hsame⟩ := X267.leave (v := none) (fun _ => rfl)
    exact ⟨_, _, pre267.fin hS0 (X267.returnOut hx Bd.returns (hb hby d1_160) hr), hrun, hended, _, _, rfl, (by
      show Q1 Z a0 a1 k1 w0 w1 w2 w3 h0 n0 _ T267.heap _
      rw [e267]
      exact ⟨rfl, N267, b6, b19, b33, b48, _, _, _, _, _, _, _, _, ⟨hj66_155, hj66_204⟩, ⟨ol6, ol19, ol33, ol48⟩, ⟨ne22, ne36, ne51, ne37, ne52, ne53⟩, kp270, f268_1, f268_2, f268_3, f268_4, f268_5, f268_6, f268_8, f268_9, f268_10, f268_11⟩), ⟨_, rfl⟩, hW, hsame.mono (by decide) (by decide)⟩
theorem ef_3_0 (m : MethodId) (x0 : Addr) (x1 : Addr) (x2 : Int32) (x3 : Addr) : entryFrame m #[(.ref x0), (.ref x1), (.int x2), (.ref x3)] 5 = mkF m 0 #[.val (.ref x0), .val (.ref x1), .val (.int x2), .val (.ref x3), .unset] [] := by first | (simp [entryFrame, mkF, argsToLocals, Value.category]; done) | rfl
theorem d3_0 : decode prog_46_method_8_code 0 = .ok (.iconst 0, 1) := by decide +kernel
theorem d3_1 : decode prog_46_method_8_code 1 = .ok (.istore 4, 2) := by decide +kernel
theorem d3_3 : decode prog_46_method_8_code 3 = .ok (.iload 4, 2) := by decide +kernel
theorem d3_5 : decode prog_46_method_8_code 5 = .ok (.aload_n 3, 1) := by decide +kernel
theorem d3_6 : decode prog_46_method_8_code 6 = .ok (.arraylength, 1) := by decide +kernel
theorem d3_7 : decode prog_46_method_8_code 7 = .ok (.if_icmp .ge 41, 3) := by decide +kernel
theorem d3_48 : decode prog_46_method_8_code 48 = .ok (.return_, 1) := by decide +kernel
def Q3_0 (Z : State) (a0 a1 : Addr) (p2 : Int32) (a3 : Addr) (aw as am : Addr) (kw ks km k1 k3 : ClassId) (c0 c1 c2 c3 u0 u1 u2 u3 : Int32) (m0 m1 m2 m3 x0 x1 x2 x3 : Int64) (h0 : Heap) (n0 : Nat) (v : Option Value) (h : Heap) (L : List Loc) : Prop := v = none ∧ Fr n0 L ∧ Keep h0 h [a3] ∧ (Arv Z h a3 k3 .int (0 : Int32) [] (.int (0 : Int32)))
set_option maxRecDepth 65536 in
set_option maxHeartbeats 40000000 in
theorem rm3_0 (l : Launch) (Z : State) (A0 : Array Value) (hw : ∀ d ∈ tables_1, d.before A0 Z = true) (ws : List Jvm.Cond) (a0 : Addr) (a1 : Addr) (p2 : Int32) (a3 : Addr) (aw as am : Addr) (kw ks km k1 k3 : ClassId) (c0 c1 c2 c3 u0 u1 u2 u3 : Int32) (m0 m1 m2 m3 x0 x1 x2 x3 : Int64) (h0 : Heap) (n0 : Nat) (Z0 : n0 ≤ h0.size) (Fw : Fld Z h0 a0 "com/example/garantia/garantia/engine/StateLayout" "word" "[I" (.ref aw)) (Fs : Fld Z h0 a0 "com/example/garantia/garantia/engine/StateLayout" "shift" "[I" (.ref as)) (Fm : Fld Z h0 a0 "com/example/garantia/garantia/engine/StateLayout" "mask" "[J" (.ref am)) (V1 : Arv Z h0 aw kw .int (4 : Int32) [(.int c0), (.int c1), (.int c2), (.int c3)] (.int (0 : Int32))) (V2 : Arv Z h0 as ks .int (4 : Int32) [(.int u0), (.int u1), (.int u2), (.int u3)] (.int (0 : Int32))) (V3 : Arv Z h0 am km .long (4 : Int32) [(.long m0), (.long m1), (.long m2), (.long m3)] (.long (0 : Int64))) (V4 : Arv Z h0 a1 k1 .long (4 : Int32) [(.long x0), (.long x1), (.long x2), (.long x3)] (.long (0 : Int64))) (V5 : Arv Z h0 a3 k3 .int (0 : Int32) [] (.int (0 : Int32))) (xe0 : a0 ≠ a3) (xe1 : aw ≠ a3) (xe2 : as ≠ a3) (xe3 : am ≠ a3) (xe4 : a1 ≠ a3) (g0 : n0 ≤ a3) :
    MetFree l (⟨"com/example/garantia/garantia/engine/StateLayout", "unpack", "([JI[I)V"⟩ : MethodName) (head1 (Jvm.Cond.code (⟨"com/example/garantia/garantia/engine/StateLayout", "unpack", "([JI[I)V"⟩ : MethodName) prog_46_method_8_code 5 none :: ws) ({ frames := 0, cells := 0, slots := 0, locals := 0 } : Room)) (fun a U => a = #[(.ref a0), (.ref a1), (.int p2), (.ref a3)] ∧ Z.Warmed39 U.vm ∧ U.heap = h0) (fun _ _ _ _ _ => True) (fun _ U o U' => ∃ v L, o = .returned v ∧ Q3_0 Z a0 a1 p2 a3 aw as am kw ks km k1 k3 c0 c1 c2 c3 u0 u1 u2 u3 m0 m1 m2 m3 x0 x1 x2 x3 h0 n0 v U'.heap L ∧ FrameEnd U o U' L ({ frames := 0, cells := 0, slots := 0, locals := 0 } : Room).cells ({ frames := 0, cells := 0, slots := 0, locals := 0 } : Room).slots) := by
  refine MetFree.of_bodySF (plainFor_of_name pn_1) hisR ?_
  intro p e s m args below meth c s₁ Bd hml0 hP hK
  obtain ⟨rfl, hZ, hh⟩ := hP
  have hx := Bd.exec
  have hby := Bd.bytes
  have hml : c.maxLocals = 5 := hml0
  have hown : s.vm.findClass "com/example/garantia/garantia/engine/StateLayout" = some m.cls := findClass_of_methodNamed Bd.named
  have hnm := (name_of_methodNamed Bd.named Bd.method).1
  have X0 : Stand p l e ({ frames := 0, cells := 0, slots := 0, locals := 0 } : Room) s m #[(.ref a0), (.ref a1), (.int p2), (.ref a3)] below meth c s₁ [] 0 0 := Stand.of_body Bd
  have e0 : s₁.heap = h0 := by rw [← hh, Bd.state]; rfl
  have N0 := Fr.nil n0
  have kp0 : Keep h0 h0 [a3] := Keep.refl _ _
  obtain ⟨S0, hS0⟩ : ∃ z, z = s₁.setTop (entryFrame m #[(.ref a0), (.ref a1), (.int p2), (.ref a3)] 5) := ⟨_, rfl⟩
  have pre0 : Go p.tables e below S0 s₁ (mkF m 0 #[vR a0, vR a1, vI p2, vR a3, .unset] []) := fun t k => by rw [hS0]; exact castTop (ef_3_0 m a0 a1 p2 a3) k
  have pre1 : Go p.tables e below S0 s₁ (mkF m 6 #[vR a0, vR a1, vI p2, vR a3, vI (0 : Int32)] [(.ref a3), (.int (0 : Int32))]) := fun t k => pre0 t (by
    refine XS.iconst X0.here hx rfl (hb hby d3_0) ?_
    refine XS.istore X0.here hx rfl (hb hby d3_1) rfl (l' := #[vR a0, vR a1, vI p2, vR a3, vI (0 : Int32)]) rfl ?_
    refine XS.iload X0.here hx rfl (hb hby d3_3) rfl ?_
    show Steps p.tables e below (s₁.setTop (mkF m 5 #[vR a0, vR a1, vI p2, vR a3, vI (0 : Int32)] [(.int (0 : Int32))])) _
    refine XS.aloadN X0.here hx rfl (hb hby d3_5) rfl rfl ?_
    exact k)
  obtain ⟨cl2, Ar2, q2, S2, M2, H2, G2⟩ := id V5
  have pre3 : Go p.tables e below S0 s₁ (mkF m 48 #[vR a0, vR a1, vI p2, vR a3, vI (0 : Int32)] []) := fun t k => pre1 t (by
    refine X0.arraylength hx (by rw [e0]; exact Ar2.1) (State.isArrayOf_alike hZ.alike Ar2.2.1) (g := (mkF m 6 #[vR a0, vR a1, vI p2, vR a3, vI (0 : Int32)] [(.ref a3), (.int (0 : Int32))])) rfl rfl (hb hby d3_6) _ ?_
    rw [len_of S2 M2]
    refine XS.icmpYes X0.here hx rfl (pc0 := 7) (pc' := 48) rfl (hb hby d3_7) rfl (flt (by decide : ¬ ((0 : Int32) < (0 : Int32)))).2.1 (by decide) (by decide) ?_
    exact k)
  obtain ⟨fs, hr, hrun, hended, hW, hsame⟩ := X0.leave (v := none) (fun _ => rfl)
  exact ⟨_, _, pre3.fin hS0 (X0.returnOut hx Bd.returns (hb hby d3_48) hr), hrun, hended, _, _, rfl, (by
    show Q3_0 Z a0 a1 p2 a3 aw as am kw ks km k1 k3 c0 c1 c2 c3 u0 u1 u2 u3 m0 m1 m2 m3 x0 x1 x2 x3 h0 n0 _ s₁.heap _
    rw [e0]
    exact ⟨rfl, N0, kp0, V5⟩), ⟨_, rfl⟩, hW, hsame.mono (by decide) (by decide)⟩
theorem ef_3_1 (m : MethodId) (x0 : Addr) (x1 : Addr) (x2 : Int32) (x3 : Addr) : entryFrame m #[(.ref x0), (.ref x1), (.int x2), (.ref x3)] 5 = mkF m 0 #[.val (.ref x0), .val (.ref x1), .val (.int x2), .val (.ref x3), .unset] [] := by first | (simp [entryFrame, mkF, argsToLocals, Value.category]; done) | rfl
theorem d3_10 : decode prog_46_method_8_code 10 = .ok (.aload_n 3, 1) := by decide +kernel
theorem d3_11 : decode prog_46_method_8_code 11 = .ok (.iload 4, 2) := by decide +kernel
theorem d3_13 : decode prog_46_method_8_code 13 = .ok (.aload_n 1, 1) := by decide +kernel
theorem d3_14 : decode prog_46_method_8_code 14 = .ok (.iload_n 2, 1) := by decide +kernel
theorem d3_15 : decode prog_46_method_8_code 15 = .ok (.aload_n 0, 1) := by decide +kernel
theorem d3_16 : decode prog_46_method_8_code 16 = .ok (.getfield 7, 3) := by decide +kernel
theorem d3_19 : decode prog_46_method_8_code 19 = .ok (.iload 4, 2) := by decide +kernel
theorem d3_21 : decode prog_46_method_8_code 21 = .ok (.iaload, 1) := by decide +kernel
theorem d3_22 : decode prog_46_method_8_code 22 = .ok (.iadd, 1) := by decide +kernel
theorem d3_23 : decode prog_46_method_8_code 23 = .ok (.laload, 1) := by decide +kernel
theorem d3_24 : decode prog_46_method_8_code 24 = .ok (.aload_n 0, 1) := by decide +kernel
theorem d3_25 : decode prog_46_method_8_code 25 = .ok (.getfield 13, 3) := by decide +kernel
theorem d3_28 : decode prog_46_method_8_code 28 = .ok (.iload 4, 2) := by decide +kernel
theorem d3_30 : decode prog_46_method_8_code 30 = .ok (.iaload, 1) := by decide +kernel
theorem d3_31 : decode prog_46_method_8_code 31 = .ok (.lushr, 1) := by decide +kernel
theorem d3_32 : decode prog_46_method_8_code 32 = .ok (.aload_n 0, 1) := by decide +kernel
theorem d3_33 : decode prog_46_method_8_code 33 = .ok (.getfield 16, 3) := by decide +kernel
theorem d3_36 : decode prog_46_method_8_code 36 = .ok (.iload 4, 2) := by decide +kernel
theorem d3_38 : decode prog_46_method_8_code 38 = .ok (.laload, 1) := by decide +kernel
theorem d3_39 : decode prog_46_method_8_code 39 = .ok (.land, 1) := by decide +kernel
theorem d3_40 : decode prog_46_method_8_code 40 = .ok (.l2i, 1) := by decide +kernel
theorem d3_41 : decode prog_46_method_8_code 41 = .ok (.iastore, 1) := by decide +kernel
theorem d3_42 : decode prog_46_method_8_code 42 = .ok (.iinc 4 1, 3) := by decide +kernel
theorem d3_45 : decode prog_46_method_8_code 45 = .ok (.goto (-42), 3) := by decide +kernel
def Q3_1 (Z : State) (a0 a1 : Addr) (p2 : Int32) (a3 : Addr) (aw as am : Addr) (kw ks km k1 k3 : ClassId) (c0 c1 c2 c3 u0 u1 u2 u3 : Int32) (m0 m1 m2 m3 x0 x1 x2 x3 : Int64) (y0 : Int32) (h0 : Heap) (n0 : Nat) (v : Option Value) (h : Heap) (L : List Loc) : Prop := v = none ∧ Fr n0 L ∧ ∃ (r0 : Int32), (r0 = ((((([x0, x1, x2, x3].getD (p2 + c0).toNatClampNeg 0).toUInt64 >>> (u0 &&& 0x3f).toInt64.toUInt64).toInt64) &&& m0).toInt32)) ∧ Keep h0 h [a3] ∧ (Arv Z h a3 k3 .int (1 : Int32) [(.int r0)] (.int (0 : Int32)))
set_option maxRecDepth 65536 in
set_option maxHeartbeats 40000000 in
theorem rm3_1 (l : Launch) (Z : State) (A0 : Array Value) (hw : ∀ d ∈ tables_1, d.before A0 Z = true) (ws : List Jvm.Cond) (a0 : Addr) (a1 : Addr) (p2 : Int32) (a3 : Addr) (aw as am : Addr) (kw ks km k1 k3 : ClassId) (c0 c1 c2 c3 u0 u1 u2 u3 : Int32) (m0 m1 m2 m3 x0 x1 x2 x3 : Int64) (y0 : Int32) (h0 : Heap) (n0 : Nat) (Z0 : n0 ≤ h0.size) (Fw : Fld Z h0 a0 "com/example/garantia/garantia/engine/StateLayout" "word" "[I" (.ref aw)) (Fs : Fld Z h0 a0 "com/example/garantia/garantia/engine/StateLayout" "shift" "[I" (.ref as)) (Fm : Fld Z h0 a0 "com/example/garantia/garantia/engine/StateLayout" "mask" "[J" (.ref am)) (V1 : Arv Z h0 aw kw .int (4 : Int32) [(.int c0), (.int c1), (.int c2), (.int c3)] (.int (0 : Int32))) (V2 : Arv Z h0 as ks .int (4 : Int32) [(.int u0), (.int u1), (.int u2), (.int u3)] (.int (0 : Int32))) (V3 : Arv Z h0 am km .long (4 : Int32) [(.long m0), (.long m1), (.long m2), (.long m3)] (.long (0 : Int64))) (V4 : Arv Z h0 a1 k1 .long (4 : Int32) [(.long x0), (.long x1), (.long x2), (.long x3)] (.long (0 : Int64))) (V5 : Arv Z h0 a3 k3 .int (1 : Int32) [(.int y0)] (.int (0 : Int32))) (xe0 : a0 ≠ a3) (xe1 : aw ≠ a3) (xe2 : as ≠ a3) (xe3 : am ≠ a3) (xe4 : a1 ≠ a3) (g0 : n0 ≤ a3) (hin0 : ¬ (p2 + c0) < 0 ∧ (p2 + c0) < (4 : Int32)) :
    MetFree l (⟨"com/example/garantia/garantia/engine/StateLayout", "unpack", "([JI[I)V"⟩ : MethodName) (head1 (Jvm.Cond.code (⟨"com/example/garantia/garantia/engine/StateLayout", "unpack", "([JI[I)V"⟩ : MethodName) prog_46_method_8_code 5 none :: ws) ({ frames := 0, cells := 0, slots := 0, locals := 0 } : Room)) (fun a U => a = #[(.ref a0), (.ref a1), (.int p2), (.ref a3)] ∧ Z.Warmed39 U.vm ∧ U.heap = h0) (fun _ _ _ _ _ => True) (fun _ U o U' => ∃ v L, o = .returned v ∧ Q3_1 Z a0 a1 p2 a3 aw as am kw ks km k1 k3 c0 c1 c2 c3 u0 u1 u2 u3 m0 m1 m2 m3 x0 x1 x2 x3 y0 h0 n0 v U'.heap L ∧ FrameEnd U o U' L ({ frames := 0, cells := 0, slots := 0, locals := 0 } : Room).cells ({ frames := 0, cells := 0, slots := 0, locals := 0 } : Room).slots) := by
  refine MetFree.of_bodySF (plainFor_of_name pn_1) hisR ?_
  intro p e s m args below meth c s₁ Bd hml0 hP hK
  obtain ⟨rfl, hZ, hh⟩ := hP
  have hx := Bd.exec
  have hby := Bd.bytes
  have hml : c.maxLocals = 5 := hml0
  have hown : s.vm.findClass "com/example/garantia/garantia/engine/StateLayout" = some m.cls := findClass_of_methodNamed Bd.named
  have hnm := (name_of_methodNamed Bd.named Bd.method).1
  have X0 : Stand p l e ({ frames := 0, cells := 0, slots := 0, locals := 0 } : Room) s m #[(.ref a0), (.ref a1), (.int p2), (.ref a3)] below meth c s₁ [] 0 0 := Stand.of_body Bd
  have e0 : s₁.heap = h0 := by rw [← hh, Bd.state]; rfl
  have N0 := Fr.nil n0
  have kp0 : Keep h0 h0 [a3] := Keep.refl _ _
  obtain ⟨S0, hS0⟩ : ∃ z, z = s₁.setTop (entryFrame m #[(.ref a0), (.ref a1), (.int p2), (.ref a3)] 5) := ⟨_, rfl⟩
  have pre0 : Go p.tables e below S0 s₁ (mkF m 0 #[vR a0, vR a1, vI p2, vR a3, .unset] []) := fun t k => by rw [hS0]; exact castTop (ef_3_1 m a0 a1 p2 a3) k
  have pre1 : Go p.tables e below S0 s₁ (mkF m 6 #[vR a0, vR a1, vI p2, vR a3, vI (0 : Int32)] [(.ref a3), (.int (0 : Int32))]) := fun t k => pre0 t (by
    refine XS.iconst X0.here hx rfl (hb hby d3_0) ?_
    refine XS.istore X0.here hx rfl (hb hby d3_1) rfl (l' := #[vR a0, vR a1, vI p2, vR a3, vI (0 : Int32)]) rfl ?_
    refine XS.iload X0.here hx rfl (hb hby d3_3) rfl ?_
    show Steps p.tables e below (s₁.setTop (mkF m 5 #[vR a0, vR a1, vI p2, vR a3, vI (0 : Int32)] [(.int (0 : Int32))])) _
    refine XS.aloadN X0.here hx rfl (hb hby d3_5) rfl rfl ?_
    exact k)
  obtain ⟨cl2, Ar2, q2, S2, M2, H2, G2⟩ := id V5
  have pre3 : Go p.tables e below S0 s₁ (mkF m 16 #[vR a0, vR a1, vI p2, vR a3, vI (0 : Int32)] [(.ref a0), (.int p2), (.ref a1), (.int (0 : Int32)), (.ref a3)]) := fun t k => pre1 t (by
    refine X0.arraylength hx (by rw [e0]; exact Ar2.1) (State.isArrayOf_alike hZ.alike Ar2.2.1) (g := (mkF m 6 #[vR a0, vR a1, vI p2, vR a3, vI (0 : Int32)] [(.ref a3), (.int (0 : Int32))])) rfl rfl (hb hby d3_6) _ ?_
    rw [len_of S2 M2]
    refine XS.icmpNo X0.here hx rfl (hb hby d3_7) rfl (tlt (by decide : (0 : Int32) < (1 : Int32))).2.1 ?_
    refine XS.aloadN X0.here hx rfl (hb hby d3_10) rfl rfl ?_
    show Steps p.tables e below (s₁.setTop (mkF m 11 #[vR a0, vR a1, vI p2, vR a3, vI (0 : Int32)] [(.ref a3)])) _
    refine XS.iload X0.here hx rfl (hb hby d3_11) rfl ?_
    refine XS.aloadN X0.here hx rfl (hb hby d3_13) rfl rfl ?_
    refine XS.iloadN X0.here hx rfl (hb hby d3_14) rfl ?_
    show Steps p.tables e below (s₁.setTop (mkF m 15 #[vR a0, vR a1, vI p2, vR a3, vI (0 : Int32)] [(.int p2), (.ref a1), (.int (0 : Int32)), (.ref a3)])) _
    refine XS.aloadN X0.here hx rfl (hb hby d3_15) rfl rfl ?_
    exact k)
  obtain ⟨T4, X4, e4, st4⟩ := getF X0 hx hZ hown (host := "") (Or.inl (hw _ (List.mem_of_getElem? (i := 14) rfl))) Via.refl e0 Fw (g := (mkF m 16 #[vR a0, vR a1, vI p2, vR a3, vI (0 : Int32)] [(.ref a0), (.int p2), (.ref a1), (.int (0 : Int32)), (.ref a3)])) rfl rfl (hb hby d3_16)
  have pre4 : Go p.tables e below S0 T4 (mkF m 19 #[vR a0, vR a1, vI p2, vR a3, vI (0 : Int32)] [(.ref aw), (.int p2), (.ref a1), (.int (0 : Int32)), (.ref a3)]) := fun t k => pre3 t (st4 t k)
  have pre5 : Go p.tables e below S0 T4 (mkF m 21 #[vR a0, vR a1, vI p2, vR a3, vI (0 : Int32)] [(.int (0 : Int32)), (.ref aw), (.int p2), (.ref a1), (.int (0 : Int32)), (.ref a3)]) := fun t k => pre4 t (by
    refine XS.iload X4.here hx rfl (hb hby d3_19) rfl ?_
    exact k)
  obtain ⟨cl6, Ar6, q6, S6, M6, H6, G6⟩ := id V1
  have in6 : ¬ ((0 : Int32) < 0 ∨ cl6.slots.size ≤ ((0 : Int32)).toNatClampNeg) := inb_of S6 ⟨by decide, by decide⟩
  have at6 : cl6.slots[((0 : Int32)).toNatClampNeg]? = some (.int c0) := H6.at in6 rfl
  have pre7 : Go p.tables e below S0 T4 (mkF m 23 #[vR a0, vR a1, vI p2, vR a3, vI (0 : Int32)] [(.int (p2 + c0)), (.ref a1), (.int (0 : Int32)), (.ref a3)]) := fun t k => pre5 t (by
    refine X4.iaload hx (j := (0 : Int32)) (v := (.int c0)) (by rw [e4]; exact Ar6.1) (State.isArrayOf_alike hZ.alike Ar6.2.1) Ar6.2.2 in6 at6 (g := (mkF m 21 #[vR a0, vR a1, vI p2, vR a3, vI (0 : Int32)] [(.int (0 : Int32)), (.ref aw), (.int p2), (.ref a1), (.int (0 : Int32)), (.ref a3)])) rfl rfl (hb hby d3_21) _ ?_
    refine XS.iadd X4.here hx rfl (hb hby d3_22) rfl ?_
    exact k)
  obtain ⟨cl8, Ar8, q8, S8, M8, H8, G8⟩ := id V4
  have in8 : ¬ ((p2 + c0) < 0 ∨ cl8.slots.size ≤ ((p2 + c0)).toNatClampNeg) := inb_of S8 hin0
  have at8 : cl8.slots[((p2 + c0)).toNatClampNeg]? = some (.long ([x0, x1, x2, x3].getD ((p2 + c0)).toNatClampNeg 0)) := H8.at in8 (own_getJ [x0, x1, x2, x3] _)
  have pre9 : Go p.tables e below S0 T4 (mkF m 25 #[vR a0, vR a1, vI p2, vR a3, vI (0 : Int32)] [(.ref a0), (.long ([x0, x1, x2, x3].getD ((p2 + c0)).toNatClampNeg 0)), (.int (0 : Int32)), (.ref a3)]) := fun t k => pre7 t (by
    refine X4.laload hx (j := (p2 + c0)) (v := (.long ([x0, x1, x2, x3].getD ((p2 + c0)).toNatClampNeg 0))) (by rw [e4]; exact Ar8.1) (State.isArrayOf_alike hZ.alike Ar8.2.1) Ar8.2.2 in8 at8 (g := (mkF m 23 #[vR a0, vR a1, vI p2, vR a3, vI (0 : Int32)] [(.int (p2 + c0)), (.ref a1), (.int (0 : Int32)), (.ref a3)])) rfl rfl (hb hby d3_23) _ ?_
    refine XS.aloadN X4.here hx rfl (hb hby d3_24) rfl rfl ?_
    exact k)
  obtain ⟨T10, X10, e10, st10⟩ := getF X4 hx hZ hown (host := "") (Or.inl (hw _ (List.mem_of_getElem? (i := 16) rfl))) Via.refl e4 Fs (g := (mkF m 25 #[vR a0, vR a1, vI p2, vR a3, vI (0 : Int32)] [(.ref a0), (.long ([x0, x1, x2, x3].getD ((p2 + c0)).toNatClampNeg 0)), (.int (0 : Int32)), (.ref a3)])) rfl rfl (hb hby d3_25)
  have pre10 : Go p.tables e below S0 T10 (mkF m 28 #[vR a0, vR a1, vI p2, vR a3, vI (0 : Int32)] [(.ref as), (.long ([x0, x1, x2, x3].getD ((p2 + c0)).toNatClampNeg 0)), (.int (0 : Int32)), (.ref a3)]) := fun t k => pre9 t (st10 t k)
  have pre11 : Go p.tables e below S0 T10 (mkF m 30 #[vR a0, vR a1, vI p2, vR a3, vI (0 : Int32)] [(.int (0 : Int32)), (.ref as), (.long ([x0, x1, x2, x3].getD ((p2 + c0)).toNatClampNeg 0)), (.int (0 : Int32)), (.ref a3)]) := fun t k => pre10 t (by
    refine XS.iload X10.here hx rfl (hb hby d3_28) rfl ?_
    exact k)
  obtain ⟨cl12, Ar12, q12, S12, M12, H12, G12⟩ := id V2
  have in12 : ¬ ((0 : Int32) < 0 ∨ cl12.slots.size ≤ ((0 : Int32)).toNatClampNeg) := inb_of S12 ⟨by decide, by decide⟩
  have at12 : cl12.slots[((0 : Int32)).toNatClampNeg]? = some (.int u0) := H12.at in12 rfl
  have pre13 : Go p.tables e below S0 T10 (mkF m 33 #[vR a0, vR a1, vI p2, vR a3, vI (0 : Int32)] [(.ref a0), (.long ((([x0, x1, x2, x3].getD ((p2 + c0)).toNatClampNeg 0).toUInt64 >>> (u0 &&& 0x3f).toInt64.toUInt64).toInt64)), (.int (0 : Int32)), (.ref a3)]) := fun t k => pre11 t (by
    refine X10.iaload hx (j := (0 : Int32)) (v := (.int u0)) (by rw [e10]; exact Ar12.1) (State.isArrayOf_alike hZ.alike Ar12.2.1) Ar12.2.2 in12 at12 (g := (mkF m 30 #[vR a0, vR a1, vI p2, vR a3, vI (0 : Int32)] [(.int (0 : Int32)), (.ref as), (.long ([x0, x1, x2, x3].getD ((p2 + c0)).toNatClampNeg 0)), (.int (0 : Int32)), (.ref a3)])) rfl rfl (hb hby d3_30) _ ?_
    refine XS.lushr X10.here hx rfl (hb hby d3_31) rfl ?_
    refine XS.aloadN X10.here hx rfl (hb hby d3_32) rfl rfl ?_
    show Steps p.tables e below (T10.setTop (mkF m 33 #[vR a0, vR a1, vI p2, vR a3, vI (0 : Int32)] [(.ref a0), (.long ((([x0, x1, x2, x3].getD ((p2 + c0)).toNatClampNeg 0).toUInt64 >>> (u0 &&& 0x3f).toInt64.toUInt64).toInt64)), (.int (0 : Int32)), (.ref a3)])) _
    exact k)
  obtain ⟨T14, X14, e14, st14⟩ := getF X10 hx hZ hown (host := "") (Or.inl (hw _ (List.mem_of_getElem? (i := 18) rfl))) Via.refl e10 Fm (g := (mkF m 33 #[vR a0, vR a1, vI p2, vR a3, vI (0 : Int32)] [(.ref a0), (.long ((([x0, x1, x2, x3].getD ((p2 + c0)).toNatClampNeg 0).toUInt64 >>> (u0 &&& 0x3f).toInt64.toUInt64).toInt64)), (.int (0 : Int32)), (.ref a3)])) rfl rfl (hb hby d3_33)
  have pre14 : Go p.tables e below S0 T14 (mkF m 36 #[vR a0, vR a1, vI p2, vR a3, vI (0 : Int32)] [(.ref am), (.long ((([x0, x1, x2, x3].getD ((p2 + c0)).toNatClampNeg 0).toUInt64 >>> (u0 &&& 0x3f).toInt64.toUInt64).toInt64)), (.int (0 : Int32)), (.ref a3)]) := fun t k => pre13 t (st14 t k)
  have pre15 : Go p.tables e below S0 T14 (mkF m 38 #[vR a0, vR a1, vI p2, vR a3, vI (0 : Int32)] [(.int (0 : Int32)), (.ref am), (.long ((([x0, x1, x2, x3].getD ((p2 + c0)).toNatClampNeg 0).toUInt64 >>> (u0 &&& 0x3f).toInt64.toUInt64).toInt64)), (.int (0 : Int32)), (.ref a3)]) := fun t k => pre14 t (by
    refine XS.iload X14.here hx rfl (hb hby d3_36) rfl ?_
    exact k)
  obtain ⟨cl16, Ar16, q16, S16, M16, H16, G16⟩ := id V3
  have in16 : ¬ ((0 : Int32) < 0 ∨ cl16.slots.size ≤ ((0 : Int32)).toNatClampNeg) := inb_of S16 ⟨by decide, by decide⟩
  have at16 : cl16.slots[((0 : Int32)).toNatClampNeg]? = some (.long m0) := H16.at in16 rfl
  have pre17 : Go p.tables e below S0 T14 (mkF m 41 #[vR a0, vR a1, vI p2, vR a3, vI (0 : Int32)] [(.int ((((([x0, x1, x2, x3].getD ((p2 + c0)).toNatClampNeg 0).toUInt64 >>> (u0 &&& 0x3f).toInt64.toUInt64).toInt64) &&& m0).toInt32)), (.int (0 : Int32)), (.ref a3)]) := fun t k => pre15 t (by
    refine X14.laload hx (j := (0 : Int32)) (v := (.long m0)) (by rw [e14]; exact Ar16.1) (State.isArrayOf_alike hZ.alike Ar16.2.1) Ar16.2.2 in16 at16 (g := (mkF m 38 #[vR a0, vR a1, vI p2, vR a3, vI (0 : Int32)] [(.int (0 : Int32)), (.ref am), (.long ((([x0, x1, x2, x3].getD ((p2 + c0)).toNatClampNeg 0).toUInt64 >>> (u0 &&& 0x3f).toInt64.toUInt64).toInt64)), (.int (0 : Int32)), (.ref a3)])) rfl rfl (hb hby d3_38) _ ?_
    refine XS.land X14.here hx rfl (hb hby d3_39) rfl ?_
    refine XS.l2i X14.here hx rfl (hb hby d3_40) rfl ?_
    show Steps p.tables e below (T14.setTop (mkF m 41 #[vR a0, vR a1, vI p2, vR a3, vI (0 : Int32)] [(.int ((((([x0, x1, x2, x3].getD ((p2 + c0)).toNatClampNeg 0).toUInt64 >>> (u0 &&& 0x3f).toInt64.toUInt64).toInt64) &&& m0).toInt32)), (.int (0 : Int32)), (.ref a3)])) _
    exact k)
  obtain ⟨cl18, Ar18, q18, S18, M18, H18, G18⟩ := id V5
  have in18 : ¬ ((0 : Int32) < 0 ∨ cl18.slots.size ≤ ((0 : Int32)).toNatClampNeg) := inb_of S18 ⟨by decide, by decide⟩
  obtain ⟨T18, h18, X18, e18, W18, st18⟩ := stI X14 hx hZ e14 Ar18 (j := (0 : Int32)) in18 (g := (mkF m 41 #[vR a0, vR a1, vI p2, vR a3, vI (0 : Int32)] [(.int ((((([x0, x1, x2, x3].getD ((p2 + c0)).toNatClampNeg 0).toUInt64 >>> (u0 &&& 0x3f).toInt64.toUInt64).toInt64) &&& m0).toInt32)), (.int (0 : Int32)), (.ref a3)])) rfl rfl (hb hby d3_41)
  have pre18 : Go p.tables e below S0 T18 (mkF m 42 #[vR a0, vR a1, vI p2, vR a3, vI (0 : Int32)] []) := fun t k => pre17 t (st18 t k)
  obtain ⟨lo18, N18, X18⟩ : ∃ lo, Fr n0 lo ∧ Stand p l e ({ frames := 0, cells := 0, slots := 0, locals := 0 } : Room) s m #[(.ref a0), (.ref a1), (.int p2), (.ref a3)] below meth c T18 lo 0 0 := ⟨_, Fr.snoc X18 N0 g0, X18⟩
  have av18 : Arv Z h18 a3 k3 .int (1 : Int32) [(.int ((((([x0, x1, x2, x3].getD ((p2 + c0)).toNatClampNeg 0).toUInt64 >>> (u0 &&& 0x3f).toInt64.toUInt64).toInt64) &&& m0).toInt32))] (.int (0 : Int32)) := Arv.set Ar18 q18 S18 M18 H18 G18 rfl W18 0 rfl (Nat.le_of_ble_eq_true rfl)
  have f19_1 := Fld.other W18 Fw (Or.inl xe0)
  have f19_2 := Fld.other W18 Fs (Or.inl xe0)
  have f19_3 := Fld.other W18 Fm (Or.inl xe0)
  have f19_4 := V1.other W18 xe1
  have f19_5 := V2.other W18 xe2
  have f19_6 := V3.other W18 xe3
  have f19_7 := V4.other W18 xe4
  have zz20 : n0 ≤ h18.size := Nat.le_trans Z0 (Keep.of_wr W18).1
  have kp21 : Keep h0 h18 [a3] := kp0.wr W18 (Or.inl (List.mem_of_getElem? (i := 0) rfl))
  have pre22 : Go p.tables e below S0 T18 (mkF m 6 #[vR a0, vR a1, vI p2, vR a3, vI (1 : Int32)] [(.ref a3), (.int (1 : Int32))]) := fun t k => pre18 t (by
    refine XS.iinc X18.here hx rfl (hb hby d3_42) rfl (l' := #[vR a0, vR a1, vI p2, vR a3, vI (1 : Int32)]) rfl ?_
    refine XS.goto X18.here hx rfl (pc0 := 45) (pc' := 3) rfl (hb hby d3_45) (by decide) (by decide) ?_
    refine XS.iload X18.here hx rfl (hb hby d3_3) rfl ?_
    show Steps p.tables e below (T18.setTop (mkF m 5 #[vR a0, vR a1, vI p2, vR a3, vI (1 : Int32)] [(.int (1 : Int32))])) _
    refine XS.aloadN X18.here hx rfl (hb hby d3_5) rfl rfl ?_
    exact k)
  obtain ⟨cl23, Ar23, q23, S23, M23, H23, G23⟩ := id av18
  have pre24 : Go p.tables e below S0 T18 (mkF m 48 #[vR a0, vR a1, vI p2, vR a3, vI (1 : Int32)] []) := fun t k => pre22 t (by
    refine X18.arraylength hx (by rw [e18]; exact Ar23.1) (State.isArrayOf_alike hZ.alike Ar23.2.1) (g := (mkF m 6 #[vR a0, vR a1, vI p2, vR a3, vI (1 : Int32)] [(.ref a3), (.int (1 : Int32))])) rfl rfl (hb hby d3_6) _ ?_
    rw [len_of S23 M23]
    refine XS.icmpYes X18.here hx rfl (pc0 := 7) (pc' := 48) rfl (hb hby d3_7) rfl (flt (by decide : ¬ ((1 : Int32) < (1 : Int32)))).2.1 (by decide) (by decide) ?_
    exact k)
  obtain ⟨fs, hr, hrun, hended, hW, hsame⟩ := X18.leave (v := none) (fun _ => rfl)
  exact ⟨_, _, pre24.fin hS0 (X18.returnOut hx Bd.returns (hb hby d3_48) hr), hrun, hended, _, _, rfl, (by
    show Q3_1 Z a0 a1 p2 a3 aw as am kw ks km k1 k3 c0 c1 c2 c3 u0 u1 u2 u3 m0 m1 m2 m3 x0 x1 x2 x3 y0 h0 n0 _ T18.heap _
    rw [e18]
    exact ⟨rfl, N18, _, rfl, kp21, av18⟩), ⟨_, rfl⟩, hW, hsame.mono (by decide) (by decide)⟩
theorem ef_3_2 (m : MethodId) (x0 : Addr) (x1 : Addr) (x2 : Int32) (x3 : Addr) : entryFrame m #[(.ref x0), (.ref x1), (.int x2), (.ref x3)] 5 = mkF m 0 #[.val (.ref x0), .val (.ref x1), .val (.int x2), .val (.ref x3), .unset] [] := by first | (simp [entryFrame, mkF, argsToLocals, Value.category]; done) | rfl
def Q3_2 (Z : State) (a0 a1 : Addr) (p2 : Int32) (a3 : Addr) (aw as am : Addr) (kw ks km k1 k3 : ClassId) (c0 c1 c2 c3 u0 u1 u2 u3 : Int32) (m0 m1 m2 m3 x0 x1 x2 x3 : Int64) (y0 y1 : Int32) (h0 : Heap) (n0 : Nat) (v : Option Value) (h : Heap) (L : List Loc) : Prop := v = none ∧ Fr n0 L ∧ ∃ (r0 r1 : Int32), (r0 = ((((([x0, x1, x2, x3].getD (p2 + c0).toNatClampNeg 0).toUInt64 >>> (u0 &&& 0x3f).toInt64.toUInt64).toInt64) &&& m0).toInt32) ∧ r1 = ((((([x0, x1, x2, x3].getD (p2 + c1).toNatClampNeg 0).toUInt64 >>> (u1 &&& 0x3f).toInt64.toUInt64).toInt64) &&& m1).toInt32)) ∧ Keep h0 h [a3] ∧ (Arv Z h a3 k3 .int (2 : Int32) [(.int r0), (.int r1)] (.int (0 : Int32)))
set_option maxRecDepth 65536 in
set_option maxHeartbeats 40000000 in
theorem rm3_2 (l : Launch) (Z : State) (A0 : Array Value) (hw : ∀ d ∈ tables_1, d.before A0 Z = true) (ws : List Jvm.Cond) (a0 : Addr) (a1 : Addr) (p2 : Int32) (a3 : Addr) (aw as am : Addr) (kw ks km k1 k3 : ClassId) (c0 c1 c2 c3 u0 u1 u2 u3 : Int32) (m0 m1 m2 m3 x0 x1 x2 x3 : Int64) (y0 y1 : Int32) (h0 : Heap) (n0 : Nat) (Z0 : n0 ≤ h0.size) (Fw : Fld Z h0 a0 "com/example/garantia/garantia/engine/StateLayout" "word" "[I" (.ref aw)) (Fs : Fld Z h0 a0 "com/example/garantia/garantia/engine/StateLayout" "shift" "[I" (.ref as)) (Fm : Fld Z h0 a0 "com/example/garantia/garantia/engine/StateLayout" "mask" "[J" (.ref am)) (V1 : Arv Z h0 aw kw .int (4 : Int32) [(.int c0), (.int c1), (.int c2), (.int c3)] (.int (0 : Int32))) (V2 : Arv Z h0 as ks .int (4 : Int32) [(.int u0), (.int u1), (.int u2), (.int u3)] (.int (0 : Int32))) (V3 : Arv Z h0 am km .long (4 : Int32) [(.long m0), (.long m1), (.long m2), (.long m3)] (.long (0 : Int64))) (V4 : Arv Z h0 a1 k1 .long (4 : Int32) [(.long x0), (.long x1), (.long x2), (.long x3)] (.long (0 : Int64))) (V5 : Arv Z h0 a3 k3 .int (2 : Int32) [(.int y0), (.int y1)] (.int (0 : Int32))) (xe0 : a0 ≠ a3) (xe1 : aw ≠ a3) (xe2 : as ≠ a3) (xe3 : am ≠ a3) (xe4 : a1 ≠ a3) (g0 : n0 ≤ a3) (hin0 : ¬ (p2 + c0) < 0 ∧ (p2 + c0) < (4 : Int32)) (hin1 : ¬ (p2 + c1) < 0 ∧ (p2 + c1) < (4 : Int32)) :
    MetFree l (⟨"com/example/garantia/garantia/engine/StateLayout", "unpack", "([JI[I)V"⟩ : MethodName) (head1 (Jvm.Cond.code (⟨"com/example/garantia/garantia/engine/StateLayout", "unpack", "([JI[I)V"⟩ : MethodName) prog_46_method_8_code 5 none :: ws) ({ frames := 0, cells := 0, slots := 0, locals := 0 } : Room)) (fun a U => a = #[(.ref a0), (.ref a1), (.int p2), (.ref a3)] ∧ Z.Warmed39 U.vm ∧ U.heap = h0) (fun _ _ _ _ _ => True) (fun _ U o U' => ∃ v L, o = .returned v ∧ Q3_2 Z a0 a1 p2 a3 aw as am kw ks km k1 k3 c0 c1 c2 c3 u0 u1 u2 u3 m0 m1 m2 m3 x0 x1 x2 x3 y0 y1 h0 n0 v U'.heap L ∧ FrameEnd U o U' L ({ frames := 0, cells := 0, slots := 0, locals := 0 } : Room).cells ({ frames := 0, cells := 0, slots := 0, locals := 0 } : Room).slots) := by
  refine MetFree.of_bodySF (plainFor_of_name pn_1) hisR ?_
  intro p e s m args below meth c s₁ Bd hml0 hP hK
  obtain ⟨rfl, hZ, hh⟩ := hP
  have hx := Bd.exec
  have hby := Bd.bytes
  have hml : c.maxLocals = 5 := hml0
  have hown : s.vm.findClass "com/example/garantia/garantia/engine/StateLayout" = some m.cls := findClass_of_methodNamed Bd.named
  have hnm := (name_of_methodNamed Bd.named Bd.method).1
  have X0 : Stand p l e ({ frames := 0, cells := 0, slots := 0, locals := 0 } : Room) s m #[(.ref a0), (.ref a1), (.int p2), (.ref a3)] below meth c s₁ [] 0 0 := Stand.of_body Bd
  have e0 : s₁.heap = h0 := by rw [← hh, Bd.state]; rfl
  have N0 := Fr.nil n0
  have kp0 : Keep h0 h0 [a3] := Keep.refl _ _
  obtain ⟨S0, hS0⟩ : ∃ z, z = s₁.setTop (entryFrame m #[(.ref a0), (.ref a1), (.int p2), (.ref a3)] 5) := ⟨_, rfl⟩
  have pre0 : Go p.tables e below S0 s₁ (mkF m 0 #[vR a0, vR a1, vI p2, vR a3, .unset] []) := fun t k => by rw [hS0]; exact castTop (ef_3_2 m a0 a1 p2 a3) k
  have pre1 : Go p.tables e below S0 s₁ (mkF m 6 #[vR a0, vR a1, vI p2, vR a3, vI (0 : Int32)] [(.ref a3), (.int (0 : Int32))]) := fun t k => pre0 t (by
    refine XS.iconst X0.here hx rfl (hb hby d3_0) ?_
    refine XS.istore X0.here hx rfl (hb hby d3_1) rfl (l' := #[vR a0, vR a1, vI p2, vR a3, vI (0 : Int32)]) rfl ?_
    refine XS.iload X0.here hx rfl (hb hby d3_3) rfl ?_
    show Steps p.tables e below (s₁.setTop (mkF m 5 #[vR a0, vR a1, vI p2, vR a3, vI (0 : Int32)] [(.int (0 : Int32))])) _
    refine XS.aloadN X0.here hx rfl (hb hby d3_5) rfl rfl ?_
    exact k)
  obtain ⟨cl2, Ar2, q2, S2, M2, H2, G2⟩ := id V5
  have pre3 : Go p.tables e below S0 s₁ (mkF m 16 #[vR a0, vR a1, vI p2, vR a3, vI (0 : Int32)] [(.ref a0), (.int p2), (.ref a1), (.int (0 : Int32)), (.ref a3)]) := fun t k => pre1 t (by
    refine X0.arraylength hx (by rw [e0]; exact Ar2.1) (State.isArrayOf_alike hZ.alike Ar2.2.1) (g := (mkF m 6 #[vR a0, vR a1, vI p2, vR a3, vI (0 : Int32)] [(.ref a3), (.int (0 : Int32))])) rfl rfl (hb hby d3_6) _ ?_
    rw [len_of S2 M2]
    refine XS.icmpNo X0.here hx rfl (hb hby d3_7) rfl (tlt (by decide : (0 : Int32) < (2 : Int32))).2.1 ?_
    refine XS.aloadN X0.here hx rfl (hb hby d3_10) rfl rfl ?_
    show Steps p.tables e below (s₁.setTop (mkF m 11 #[vR a0, vR a1, vI p2, vR a3, vI (0 : Int32)] [(.ref a3)])) _
    refine XS.iload X0.here hx rfl (hb hby d3_11) rfl ?_
    refine XS.aloadN X0.here hx rfl (hb hby d3_13) rfl rfl ?_
    refine XS.iloadN X0.here hx rfl (hb hby d3_14) rfl ?_
    show Steps p.tables e below (s₁.setTop (mkF m 15 #[vR a0, vR a1, vI p2, vR a3, vI (0 : Int32)] [(.int p2), (.ref a1), (.int (0 : Int32)), (.ref a3)])) _
    refine XS.aloadN X0.here hx rfl (hb hby d3_15) rfl rfl ?_
    exact k)
  obtain ⟨T4, X4, e4, st4⟩ := getF X0 hx hZ hown (host := "") (Or.inl (hw _ (List.mem_of_getElem? (i := 14) rfl))) Via.refl e0 Fw (g := (mkF m 16 #[vR a0, vR a1, vI p2, vR a3, vI (0 : Int32)] [(.ref a0), (.int p2), (.ref a1), (.int (0 : Int32)), (.ref a3)])) rfl rfl (hb hby d3_16)
  have pre4 : Go p.tables e below S0 T4 (mkF m 19 #[vR a0, vR a1, vI p2, vR a3, vI (0 : Int32)] [(.ref aw), (.int p2), (.ref a1), (.int (0 : Int32)), (.ref a3)]) := fun t k => pre3 t (st4 t k)
  have pre5 : Go p.tables e below S0 T4 (mkF m 21 #[vR a0, vR a1, vI p2, vR a3, vI (0 : Int32)] [(.int (0 : Int32)), (.ref aw), (.int p2), (.ref a1), (.int (0 : Int32)), (.ref a3)]) := fun t k => pre4 t (by
    refine XS.iload X4.here hx rfl (hb hby d3_19) rfl ?_
    exact k)
  obtain ⟨cl6, Ar6, q6, S6, M6, H6, G6⟩ := id V1
  have in6 : ¬ ((0 : Int32) < 0 ∨ cl6.slots.size ≤ ((0 : Int32)).toNatClampNeg) := inb_of S6 ⟨by decide, by decide⟩
  have at6 : cl6.slots[((0 : Int32)).toNatClampNeg]? = some (.int c0) := H6.at in6 rfl
  have pre7 : Go p.tables e below S0 T4 (mkF m 23 #[vR a0, vR a1, vI p2, vR a3, vI (0 : Int32)] [(.int (p2 + c0)), (.ref a1), (.int (0 : Int32)), (.ref a3)]) := fun t k => pre5 t (by
    refine X4.iaload hx (j := (0 : Int32)) (v := (.int c0)) (by rw [e4]; exact Ar6.1) (State.isArrayOf_alike hZ.alike Ar6.2.1) Ar6.2.2 in6 at6 (g := (mkF m 21 #[vR a0, vR a1, vI p2, vR a3, vI (0 : Int32)] [(.int (0 : Int32)), (.ref aw), (.int p2), (.ref a1), (.int (0 : Int32)), (.ref a3)])) rfl rfl (hb hby d3_21) _ ?_
    refine XS.iadd X4.here hx rfl (hb hby d3_22) rfl ?_
    exact k)
  obtain ⟨cl8, Ar8, q8, S8, M8, H8, G8⟩ := id V4
  have in8 : ¬ ((p2 + c0) < 0 ∨ cl8.slots.size ≤ ((p2 + c0)).toNatClampNeg) := inb_of S8 hin0
  have at8 : cl8.slots[((p2 + c0)).toNatClampNeg]? = some (.long ([x0, x1, x2, x3].getD ((p2 + c0)).toNatClampNeg 0)) := H8.at in8 (own_getJ [x0, x1, x2, x3] _)
  have pre9 : Go p.tables e below S0 T4 (mkF m 25 #[vR a0, vR a1, vI p2, vR a3, vI (0 : Int32)] [(.ref a0), (.long ([x0, x1, x2, x3].getD ((p2 + c0)).toNatClampNeg 0)), (.int (0 : Int32)), (.ref a3)]) := fun t k => pre7 t (by
    refine X4.laload hx (j := (p2 + c0)) (v := (.long ([x0, x1, x2, x3].getD ((p2 + c0)).toNatClampNeg 0))) (by rw [e4]; exact Ar8.1) (State.isArrayOf_alike hZ.alike Ar8.2.1) Ar8.2.2 in8 at8 (g := (mkF m 23 #[vR a0, vR a1, vI p2, vR a3, vI (0 : Int32)] [(.int (p2 + c0)), (.ref a1), (.int (0 : Int32)), (.ref a3)])) rfl rfl (hb hby d3_23) _ ?_
    refine XS.aloadN X4.here hx rfl (hb hby d3_24) rfl rfl ?_
    exact k)
  obtain ⟨T10, X10, e10, st10⟩ := getF X4 hx hZ hown (host := "") (Or.inl (hw _ (List.mem_of_getElem? (i := 16) rfl))) Via.refl e4 Fs (g := (mkF m 25 #[vR a0, vR a1, vI p2, vR a3, vI (0 : Int32)] [(.ref a0), (.long ([x0, x1, x2, x3].getD ((p2 + c0)).toNatClampNeg 0)), (.int (0 : Int32)), (.ref a3)])) rfl rfl (hb hby d3_25)
  have pre10 : Go p.tables e below S0 T10 (mkF m 28 #[vR a0, vR a1, vI p2, vR a3, vI (0 : Int32)] [(.ref as), (.long ([x0, x1, x2, x3].getD ((p2 + c0)).toNatClampNeg 0)), (.int (0 : Int32)), (.ref a3)]) := fun t k => pre9 t (st10 t k)
  have pre11 : Go p.tables e below S0 T10 (mkF m 30 #[vR a0, vR a1, vI p2, vR a3, vI (0 : Int32)] [(.int (0 : Int32)), (.ref as), (.long ([x0, x1, x2, x3].getD ((p2 + c0)).toNatClampNeg 0)), (.int (0 : Int32)), (.ref a3)]) := fun t k => pre10 t (by
    refine XS.iload X10.here hx rfl (hb hby d3_28) rfl ?_
    exact k)
  obtain ⟨cl12, Ar12, q12, S12, M12, H12, G12⟩ := id V2
  have in12 : ¬ ((0 : Int32) < 0 ∨ cl12.slots.size ≤ ((0 : Int32)).toNatClampNeg) := inb_of S12 ⟨by decide, by decide⟩
  have at12 : cl12.slots[((0 : Int32)).toNatClampNeg]? = some (.int u0) := H12.at in12 rfl
  have pre13 : Go p.tables e below S0 T10 (mkF m 33 #[vR a0, vR a1, vI p2, vR a3, vI (0 : Int32)] [(.ref a0), (.long ((([x0, x1, x2, x3].getD ((p2 + c0)).toNatClampNeg 0).toUInt64 >>> (u0 &&& 0x3f).toInt64.toUInt64).toInt64)), (.int (0 : Int32)), (.ref a3)]) := fun t k => pre11 t (by
    refine X10.iaload hx (j := (0 : Int32)) (v := (.int u0)) (by rw [e10]; exact Ar12.1) (State.isArrayOf_alike hZ.alike Ar12.2.1) Ar12.2.2 in12 at12 (g := (mkF m 30 #[vR a0, vR a1, vI p2, vR a3, vI (0 : Int32)] [(.int (0 : Int32)), (.ref as), (.long ([x0, x1, x2, x3].getD ((p2 + c0)).toNatClampNeg 0)), (.int (0 : Int32)), (.ref a3)])) rfl rfl (hb hby d3_30) _ ?_
    refine XS.lushr X10.here hx rfl (hb hby d3_31) rfl ?_
    refine XS.aloadN X10.here hx rfl (hb hby d3_32) rfl rfl ?_
    show Steps p.tables e below (T10.setTop (mkF m 33 #[vR a0, vR a1, vI p2, vR a3, vI (0 : Int32)] [(.ref a0), (.long ((([x0, x1, x2, x3].getD ((p2 + c0)).toNatClampNeg 0).toUInt64 >>> (u0 &&& 0x3f).toInt64.toUInt64).toInt64)), (.int (0 : Int32)), (.ref a3)])) _
    exact k)
  obtain ⟨T14, X14, e14, st14⟩ := getF X10 hx hZ hown (host := "") (Or.inl (hw _ (List.mem_of_getElem? (i := 18) rfl))) Via.refl e10 Fm (g := (mkF m 33 #[vR a0, vR a1, vI p2, vR a3, vI (0 : Int32)] [(.ref a0), (.long ((([x0, x1, x2, x3].getD ((p2 + c0)).toNatClampNeg 0).toUInt64 >>> (u0 &&& 0x3f).toInt64.toUInt64).toInt64)), (.int (0 : Int32)), (.ref a3)])) rfl rfl (hb hby d3_33)
  have pre14 : Go p.tables e below S0 T14 (mkF m 36 #[vR a0, vR a1, vI p2, vR a3, vI (0 : Int32)] [(.ref am), (.long ((([x0, x1, x2, x3].getD ((p2 + c0)).toNatClampNeg 0).toUInt64 >>> (u0 &&& 0x3f).toInt64.toUInt64).toInt64)), (.int (0 : Int32)), (.ref a3)]) := fun t k => pre13 t (st14 t k)
  have pre15 : Go p.tables e below S0 T14 (mkF m 38 #[vR a0, vR a1, vI p2, vR a3, vI (0 : Int32)] [(.int (0 : Int32)), (.ref am), (.long ((([x0, x1, x2, x3].getD ((p2 + c0)).toNatClampNeg 0).toUInt64 >>> (u0 &&& 0x3f).toInt64.toUInt64).toInt64)), (.int (0 : Int32)), (.ref a3)]) := fun t k => pre14 t (by
    refine XS.iload X14.here hx rfl (hb hby d3_36) rfl ?_
    exact k)
  obtain ⟨cl16, Ar16, q16, S16, M16, H16, G16⟩ := id V3
  have in16 : ¬ ((0 : Int32) < 0 ∨ cl16.slots.size ≤ ((0 : Int32)).toNatClampNeg) := inb_of S16 ⟨by decide, by decide⟩
  have at16 : cl16.slots[((0 : Int32)).toNatClampNeg]? = some (.long m0) := H16.at in16 rfl
  have pre17 : Go p.tables e below S0 T14 (mkF m 41 #[vR a0, vR a1, vI p2, vR a3, vI (0 : Int32)] [(.int ((((([x0, x1, x2, x3].getD ((p2 + c0)).toNatClampNeg 0).toUInt64 >>> (u0 &&& 0x3f).toInt64.toUInt64).toInt64) &&& m0).toInt32)), (.int (0 : Int32)), (.ref a3)]) := fun t k => pre15 t (by
    refine X14.laload hx (j := (0 : Int32)) (v := (.long m0)) (by rw [e14]; exact Ar16.1) (State.isArrayOf_alike hZ.alike Ar16.2.1) Ar16.2.2 in16 at16 (g := (mkF m 38 #[vR a0, vR a1, vI p2, vR a3, vI (0 : Int32)] [(.int (0 : Int32)), (.ref am), (.long ((([x0, x1, x2, x3].getD ((p2 + c0)).toNatClampNeg 0).toUInt64 >>> (u0 &&& 0x3f).toInt64.toUInt64).toInt64)), (.int (0 : Int32)), (.ref a3)])) rfl rfl (hb hby d3_38) _ ?_
    refine XS.land X14.here hx rfl (hb hby d3_39) rfl ?_
    refine XS.l2i X14.here hx rfl (hb hby d3_40) rfl ?_
    show Steps p.tables e below (T14.setTop (mkF m 41 #[vR a0, vR a1, vI p2, vR a3, vI (0 : Int32)] [(.int ((((([x0, x1, x2, x3].getD ((p2 + c0)).toNatClampNeg 0).toUInt64 >>> (u0 &&& 0x3f).toInt64.toUInt64).toInt64) &&& m0).toInt32)), (.int (0 : Int32)), (.ref a3)])) _
    exact k)
  obtain ⟨cl18, Ar18, q18, S18, M18, H18, G18⟩ := id V5
  have in18 : ¬ ((0 : Int32) < 0 ∨ cl18.slots.size ≤ ((0 : Int32)).toNatClampNeg) := inb_of S18 ⟨by decide, by decide⟩
  obtain ⟨T18, h18, X18, e18, W18, st18⟩ := stI X14 hx hZ e14 Ar18 (j := (0 : Int32)) in18 (g := (mkF m 41 #[vR a0, vR a1, vI p2, vR a3, vI (0 : Int32)] [(.int ((((([x0, x1, x2, x3].getD ((p2 + c0)).toNatClampNeg 0).toUInt64 >>> (u0 &&& 0x3f).toInt64.toUInt64).toInt64) &&& m0).toInt32)), (.int (0 : Int32)), (.ref a3)])) rfl rfl (hb hby d3_41)
  have pre18 : Go p.tables e below S0 T18 (mkF m 42 #[vR a0, vR a1, vI p2, vR a3, vI (0 : Int32)] []) := fun t k => pre17 t (st18 t k)
  obtain ⟨lo18, N18, X18⟩ : ∃ lo, Fr n0 lo ∧ Stand p l e ({ frames := 0, cells := 0, slots := 0, locals := 0 } : Room) s m #[(.ref a0), (.ref a1), (.int p2), (.ref a3)] below meth c T18 lo 0 0 := ⟨_, Fr.snoc X18 N0 g0, X18⟩
  have av18 : Arv Z h18 a3 k3 .int (2 : Int32) [(.int ((((([x0, x1, x2, x3].getD ((p2 + c0)).toNatClampNeg 0).toUInt64 >>> (u0 &&& 0x3f).toInt64.toUInt64).toInt64) &&& m0).toInt32)), (.int y1)] (.int (0 : Int32)) := Arv.set Ar18 q18 S18 M18 H18 G18 rfl W18 0 rfl (Nat.le_of_ble_eq_true rfl)
  have f19_1 := Fld.other W18 Fw (Or.inl xe0)
  have f19_2 := Fld.other W18 Fs (Or.inl xe0)
  have f19_3 := Fld.other W18 Fm (Or.inl xe0)
  have f19_4 := V1.other W18 xe1
  have f19_5 := V2.other W18 xe2
  have f19_6 := V3.other W18 xe3
  have f19_7 := V4.other W18 xe4
  have zz20 : n0 ≤ h18.size := Nat.le_trans Z0 (Keep.of_wr W18).1
  have kp21 : Keep h0 h18 [a3] := kp0.wr W18 (Or.inl (List.mem_of_getElem? (i := 0) rfl))
  have pre22 : Go p.tables e below S0 T18 (mkF m 6 #[vR a0, vR a1, vI p2, vR a3, vI (1 : Int32)] [(.ref a3), (.int (1 : Int32))]) := fun t k => pre18 t (by
    refine XS.iinc X18.here hx rfl (hb hby d3_42) rfl (l' := #[vR a0, vR a1, vI p2, vR a3, vI (1 : Int32)]) rfl ?_
    refine XS.goto X18.here hx rfl (pc0 := 45) (pc' := 3) rfl (hb hby d3_45) (by decide) (by decide) ?_
    refine XS.iload X18.here hx rfl (hb hby d3_3) rfl ?_
    show Steps p.tables e below (T18.setTop (mkF m 5 #[vR a0, vR a1, vI p2, vR a3, vI (1 : Int32)] [(.int (1 : Int32))])) _
    refine XS.aloadN X18.here hx rfl (hb hby d3_5) rfl rfl ?_
    exact k)
  obtain ⟨cl23, Ar23, q23, S23, M23, H23, G23⟩ := id av18
  have pre24 : Go p.tables e below S0 T18 (mkF m 16 #[vR a0, vR a1, vI p2, vR a3, vI (1 : Int32)] [(.ref a0), (.int p2), (.ref a1), (.int (1 : Int32)), (.ref a3)]) := fun t k => pre22 t (by
    refine X18.arraylength hx (by rw [e18]; exact Ar23.1) (State.isArrayOf_alike hZ.alike Ar23.2.1) (g := (mkF m 6 #[vR a0, vR a1, vI p2, vR a3, vI (1 : Int32)] [(.ref a3), (.int (1 : Int32))])) rfl rfl (hb hby d3_6) _ ?_
    rw [len_of S23 M23]
    refine XS.icmpNo X18.here hx rfl (hb hby d3_7) rfl (tlt (by decide : (1 : Int32) < (2 : Int32))).2.1 ?_
    refine XS.aloadN X18.here hx rfl (hb hby d3_10) rfl rfl ?_
    show Steps p.tables e below (T18.setTop (mkF m 11 #[vR a0, vR a1, vI p2, vR a3, vI (1 : Int32)] [(.ref a3)])) _
    refine XS.iload X18.here hx rfl (hb hby d3_11) rfl ?_
    refine XS.aloadN X18.here hx rfl (hb hby d3_13) rfl rfl ?_
    refine XS.iloadN X18.here hx rfl (hb hby d3_14) rfl ?_
    show Steps p.tables e below (T18.setTop (mkF m 15 #[vR a0, vR a1, vI p2, vR a3, vI (1 : Int32)] [(.int p2), (.ref a1), (.int (1 : Int32)), (.ref a3)])) _
    refine XS.aloadN X18.here hx rfl (hb hby d3_15) rfl rfl ?_
    exact k)
  obtain ⟨T25, X25, e25, st25⟩ := getF X18 hx hZ hown (host := "") (Or.inl (hw _ (List.mem_of_getElem? (i := 14) rfl))) Via.refl e18 f19_1 (g := (mkF m 16 #[vR a0, vR a1, vI p2, vR a3, vI (1 : Int32)] [(.ref a0), (.int p2), (.ref a1), (.int (1 : Int32)), (.ref a3)])) rfl rfl (hb hby d3_16)
  have pre25 : Go p.tables e below S0 T25 (mkF m 19 #[vR a0, vR a1, vI p2, vR a3, vI (1 : Int32)] [(.ref aw), (.int p2), (.ref a1), (.int (1 : Int32)), (.ref a3)]) := fun t k => pre24 t (st25 t k)
  have pre26 : Go p.tables e below S0 T25 (mkF m 21 #[vR a0, vR a1, vI p2, vR a3, vI (1 : Int32)] [(.int (1 : Int32)), (.ref aw), (.int p2), (.ref a1), (.int (1 : Int32)), (.ref a3)]) := fun t k => pre25 t (by
    refine XS.iload X25.here hx rfl (hb hby d3_19) rfl ?_
    exact k)
  obtain ⟨cl27, Ar27, q27, S27, M27, H27, G27⟩ := id f19_4
  have in27 : ¬ ((1 : Int32) < 0 ∨ cl27.slots.size ≤ ((1 : Int32)).toNatClampNeg) := inb_of S27 ⟨by decide, by decide⟩
  have at27 : cl27.slots[((1 : Int32)).toNatClampNeg]? = some (.int c1) := H27.at in27 rfl
  have pre28 : Go p.tables e below S0 T25 (mkF m 23 #[vR a0, vR a1, vI p2, vR a3, vI (1 : Int32)] [(.int (p2 + c1)), (.ref a1), (.int (1 : Int32)), (.ref a3)]) := fun t k => pre26 t (by
    refine X25.iaload hx (j := (1 : Int32)) (v := (.int c1)) (by rw [e25]; exact Ar27.1) (State.isArrayOf_alike hZ.alike Ar27.2.1) Ar27.2.2 in27 at27 (g := (mkF m 21 #[vR a0, vR a1, vI p2, vR a3, vI (1 : Int32)] [(.int (1 : Int32)), (.ref aw), (.int p2), (.ref a1), (.int (1 : Int32)), (.ref a3)])) rfl rfl (hb hby d3_21) _ ?_
    refine XS.iadd X25.here hx rfl (hb hby d3_22) rfl ?_
    exact k)
  obtain ⟨cl29, Ar29, q29, S29, M29, H29, G29⟩ := id f19_7
  have in29 : ¬ ((p2 + c1) < 0 ∨ cl29.slots.size ≤ ((p2 + c1)).toNatClampNeg) := inb_of S29 hin1
  have at29 : cl29.slots[((p2 + c1)).toNatClampNeg]? = some (.long ([x0, x1, x2, x3].getD ((p2 + c1)).toNatClampNeg 0)) := H29.at in29 (own_getJ [x0, x1, x2, x3] _)
  have pre30 : Go p.tables e below S0 T25 (mkF m 25 #[vR a0, vR a1, vI p2, vR a3, vI (1 : Int32)] [(.ref a0), (.long ([x0, x1, x2, x3].getD ((p2 + c1)).toNatClampNeg 0)), (.int (1 : Int32)), (.ref a3)]) := fun t k => pre28 t (by
    refine X25.laload hx (j := (p2 + c1)) (v := (.long ([x0, x1, x2, x3].getD ((p2 + c1)).toNatClampNeg 0))) (by rw [e25]; exact Ar29.1) (State.isArrayOf_alike hZ.alike Ar29.2.1) Ar29.2.2 in29 at29 (g := (mkF m 23 #[vR a0, vR a1, vI p2, vR a3, vI (1 : Int32)] [(.int (p2 + c1)), (.ref a1), (.int (1 : Int32)), (.ref a3)])) rfl rfl (hb hby d3_23) _ ?_
    refine XS.aloadN X25.here hx rfl (hb hby d3_24) rfl rfl ?_
    exact k)
  obtain ⟨T31, X31, e31, st31⟩ := getF X25 hx hZ hown (host := "") (Or.inl (hw _ (List.mem_of_getElem? (i := 16) rfl))) Via.refl e25 f19_2 (g := (mkF m 25 #[vR a0, vR a1, vI p2, vR a3, vI (1 : Int32)] [(.ref a0), (.long ([x0, x1, x2, x3].getD ((p2 + c1)).toNatClampNeg 0)), (.int (1 : Int32)), (.ref a3)])) rfl rfl (hb hby d3_25)
  have pre31 : Go p.tables e below S0 T31 (mkF m 28 #[vR a0, vR a1, vI p2, vR a3, vI (1 : Int32)] [(.ref as), (.long ([x0, x1, x2, x3].getD ((p2 + c1)).toNatClampNeg 0)), (.int (1 : Int32)), (.ref a3)]) := fun t k => pre30 t (st31 t k)
  have pre32 : Go p.tables e below S0 T31 (mkF m 30 #[vR a0, vR a1, vI p2, vR a3, vI (1 : Int32)] [(.int (1 : Int32)), (.ref as), (.long ([x0, x1, x2, x3].getD ((p2 + c1)).toNatClampNeg 0)), (.int (1 : Int32)), (.ref a3)]) := fun t k => pre31 t (by
    refine XS.iload X31.here hx rfl (hb hby d3_28) rfl ?_
    exact k)
  obtain ⟨cl33, Ar33, q33, S33, M33, H33, G33⟩ := id f19_5
  have in33 : ¬ ((1 : Int32) < 0 ∨ cl33.slots.size ≤ ((1 : Int32)).toNatClampNeg) := inb_of S33 ⟨by decide, by decide⟩
  have at33 : cl33.slots[((1 : Int32)).toNatClampNeg]? = some (.int u1) := H33.at in33 rfl
  have pre34 : Go p.tables e below S0 T31 (mkF m 33 #[vR a0, vR a1, vI p2, vR a3, vI (1 : Int32)] [(.ref a0), (.long ((([x0, x1, x2, x3].getD ((p2 + c1)).toNatClampNeg 0).toUInt64 >>> (u1 &&& 0x3f).toInt64.toUInt64).toInt64)), (.int (1 : Int32)), (.ref a3)]) := fun t k => pre32 t (by
    refine X31.iaload hx (j := (1 : Int32)) (v := (.int u1)) (by rw [e31]; exact Ar33.1) (State.isArrayOf_alike hZ.alike Ar33.2.1) Ar33.2.2 in33 at33 (g := (mkF m 30 #[vR a0, vR a1, vI p2, vR a3, vI (1 : Int32)] [(.int (1 : Int32)), (.ref as), (.long ([x0, x1, x2, x3].getD ((p2 + c1)).toNatClampNeg 0)), (.int (1 : Int32)), (.ref a3)])) rfl rfl (hb hby d3_30) _ ?_
    refine XS.lushr X31.here hx rfl (hb hby d3_31) rfl ?_
    refine XS.aloadN X31.here hx rfl (hb hby d3_32) rfl rfl ?_
    show Steps p.tables e below (T31.setTop (mkF m 33 #[vR a0, vR a1, vI p2, vR a3, vI (1 : Int32)] [(.ref a0), (.long ((([x0, x1, x2, x3].getD ((p2 + c1)).toNatClampNeg 0).toUInt64 >>> (u1 &&& 0x3f).toInt64.toUInt64).toInt64)), (.int (1 : Int32)), (.ref a3)])) _
    exact k)
  obtain ⟨T35, X35, e35, st35⟩ := getF X31 hx hZ hown (host := "") (Or.inl (hw _ (List.mem_of_getElem? (i := 18) rfl))) Via.refl e31 f19_3 (g := (mkF m 33 #[vR a0, vR a1, vI p2, vR a3, vI (1 : Int32)] [(.ref a0), (.long ((([x0, x1, x2, x3].getD ((p2 + c1)).toNatClampNeg 0).toUInt64 >>> (u1 &&& 0x3f).toInt64.toUInt64).toInt64)), (.int (1 : Int32)), (.ref a3)])) rfl rfl (hb hby d3_33)
  have pre35 : Go p.tables e below S0 T35 (mkF m 36 #[vR a0, vR a1, vI p2, vR a3, vI (1 : Int32)] [(.ref am), (.long ((([x0, x1, x2, x3].getD ((p2 + c1)).toNatClampNeg 0).toUInt64 >>> (u1 &&& 0x3f).toInt64.toUInt64).toInt64)), (.int (1 : Int32)), (.ref a3)]) := fun t k => pre34 t (st35 t k)
  have pre36 : Go p.tables e below S0 T35 (mkF m 38 #[vR a0, vR a1, vI p2, vR a3, vI (1 : Int32)] [(.int (1 : Int32)), (.ref am), (.long ((([x0, x1, x2, x3].getD ((p2 + c1)).toNatClampNeg 0).toUInt64 >>> (u1 &&& 0x3f).toInt64.toUInt64).toInt64)), (.int (1 : Int32)), (.ref a3)]) := fun t k => pre35 t (by
    refine XS.iload X35.here hx rfl (hb hby d3_36) rfl ?_
    exact k)
  obtain ⟨cl37, Ar37, q37, S37, M37, H37, G37⟩ := id f19_6
  have in37 : ¬ ((1 : Int32) < 0 ∨ cl37.slots.size ≤ ((1 : Int32)).toNatClampNeg) := inb_of S37 ⟨by decide, by decide⟩
  have at37 : cl37.slots[((1 : Int32)).toNatClampNeg]? = some (.long m1) := H37.at in37 rfl
  have pre38 : Go p.tables e below S0 T35 (mkF m 41 #[vR a0, vR a1, vI p2, vR a3, vI (1 : Int32)] [(.int ((((([x0, x1, x2, x3].getD ((p2 + c1)).toNatClampNeg 0).toUInt64 >>> (u1 &&& 0x3f).toInt64.toUInt64).toInt64) &&& m1).toInt32)), (.int (1 : Int32)), (.ref a3)]) := fun t k => pre36 t (by
    refine X35.laload hx (j := (1 : Int32)) (v := (.long m1)) (by rw [e35]; exact Ar37.1) (State.isArrayOf_alike hZ.alike Ar37.2.1) Ar37.2.2 in37 at37 (g := (mkF m 38 #[vR a0, vR a1, vI p2, vR a3, vI (1 : Int32)] [(.int (1 : Int32)), (.ref am), (.long ((([x0, x1, x2, x3].getD ((p2 + c1)).toNatClampNeg 0).toUInt64 >>> (u1 &&& 0x3f).toInt64.toUInt64).toInt64)), (.int (1 : Int32)), (.ref a3)])) rfl rfl (hb hby d3_38) _ ?_
    refine XS.land X35.here hx rfl (hb hby d3_39) rfl ?_
    refine XS.l2i X35.here hx rfl (hb hby d3_40) rfl ?_
    show Steps p.tables e below (T35.setTop (mkF m 41 #[vR a0, vR a1, vI p2, vR a3, vI (1 : Int32)] [(.int ((((([x0, x1, x2, x3].getD ((p2 + c1)).toNatClampNeg 0).toUInt64 >>> (u1 &&& 0x3f).toInt64.toUInt64).toInt64) &&& m1).toInt32)), (.int (1 : Int32)), (.ref a3)])) _
    exact k)
  obtain ⟨cl39, Ar39, q39, S39, M39, H39, G39⟩ := id av18
  have in39 : ¬ ((1 : Int32) < 0 ∨ cl39.slots.size ≤ ((1 : Int32)).toNatClampNeg) := inb_of S39 ⟨by decide, by decide⟩
  obtain ⟨T39, h39, X39, e39, W39, st39⟩ := stI X35 hx hZ e35 Ar39 (j := (1 : Int32)) in39 (g := (mkF m 41 #[vR a0, vR a1, vI p2, vR a3, vI (1 : Int32)] [(.int ((((([x0, x1, x2, x3].getD ((p2 + c1)).toNatClampNeg 0).toUInt64 >>> (u1 &&& 0x3f).toInt64.toUInt64).toInt64) &&& m1).toInt32)), (.int (1 : Int32)), (.ref a3)])) rfl rfl (hb hby d3_41)
  have pre39 : Go p.tables e below S0 T39 (mkF m 42 #[vR a0, vR a1, vI p2, vR a3, vI (1 : Int32)] []) := fun t k => pre38 t (st39 t k)
  obtain ⟨lo39, N39, X39⟩ : ∃ lo, Fr n0 lo ∧ Stand p l e ({ frames := 0, cells := 0, slots := 0, locals := 0 } : Room) s m #[(.ref a0), (.ref a1), (.int p2), (.ref a3)] below meth c T39 lo 0 0 := ⟨_, Fr.snoc X39 N18 g0, X39⟩
  have av39 : Arv Z h39 a3 k3 .int (2 : Int32) [(.int ((((([x0, x1, x2, x3].getD ((p2 + c0)).toNatClampNeg 0).toUInt64 >>> (u0 &&& 0x3f).toInt64.toUInt64).toInt64) &&& m0).toInt32)), (.int ((((([x0, x1, x2, x3].getD ((p2 + c1)).toNatClampNeg 0).toUInt64 >>> (u1 &&& 0x3f).toInt64.toUInt64).toInt64) &&& m1).toInt32))] (.int (0 : Int32)) := Arv.set Ar39 q39 S39 M39 H39 G39 rfl W39 1 rfl (Nat.le_of_ble_eq_true rfl)
  have f40_1 := Fld.other W39 f19_1 (Or.inl xe0)
  have f40_2 := Fld.other W39 f19_2 (Or.inl xe0)
  have f40_3 := Fld.other W39 f19_3 (Or.inl xe0)
  have f40_4 := f19_4.other W39 xe1
  have f40_5 := f19_5.other W39 xe2
  have f40_6 := f19_6.other W39 xe3
  have f40_7 := f19_7.other W39 xe4
  have zz41 : n0 ≤ h39.size := Nat.le_trans zz20 (Keep.of_wr W39).1
  have kp42 : Keep h0 h39 [a3] := kp21.wr W39 (Or.inl (List.mem_of_getElem? (i := 0) rfl))
  have pre43 : Go p.tables e below S0 T39 (mkF m 6 #[vR a0, vR a1, vI p2, vR a3, vI (2 : Int32)] [(.ref a3), (.int (2 : Int32))]) := fun t k => pre39 t (by
    refine XS.iinc X39.here hx rfl (hb hby d3_42) rfl (l' := #[vR a0, vR a1, vI p2, vR a3, vI (2 : Int32)]) rfl ?_
    refine XS.goto X39.here hx rfl (pc0 := 45) (pc' := 3) rfl (hb hby d3_45) (by decide) (by decide) ?_
    refine XS.iload X39.here hx rfl (hb hby d3_3) rfl ?_
    show Steps p.tables e below (T39.setTop (mkF m 5 #[vR a0, vR a1, vI p2, vR a3, vI (2 : Int32)] [(.int (2 : Int32))])) _
    refine XS.aloadN X39.here hx rfl (hb hby d3_5) rfl rfl ?_
    exact k)
  obtain ⟨cl44, Ar44, q44, S44, M44, H44, G44⟩ := id av39
  have pre45 : Go p.tables e below S0 T39 (mkF m 48 #[vR a0, vR a1, vI p2, vR a3, vI (2 : Int32)] []) := fun t k => pre43 t (by
    refine X39.arraylength hx (by rw [e39]; exact Ar44.1) (State.isArrayOf_alike hZ.alike Ar44.2.1) (g := (mkF m 6 #[vR a0, vR a1, vI p2, vR a3, vI (2 : Int32)] [(.ref a3), (.int (2 : Int32))])) rfl rfl (hb hby d3_6) _ ?_
    rw [len_of S44 M44]
    refine XS.icmpYes X39.here hx rfl (pc0 := 7) (pc' := 48) rfl (hb hby d3_7) rfl (flt (by decide : ¬ ((2 : Int32) < (2 : Int32)))).2.1 (by decide) (by decide) ?_
    exact k)
  obtain ⟨fs, hr, hrun, hended, hW, hsame⟩ := X39.leave (v := none) (fun _ => rfl)
  exact ⟨_, _, pre45.fin hS0 (X39.returnOut hx Bd.returns (hb hby d3_48) hr), hrun, hended, _, _, rfl, (by
    show Q3_2 Z a0 a1 p2 a3 aw as am kw ks km k1 k3 c0 c1 c2 c3 u0 u1 u2 u3 m0 m1 m2 m3 x0 x1 x2 x3 y0 y1 h0 n0 _ T39.heap _
    rw [e39]
    exact ⟨rfl, N39, _, _, ⟨rfl, rfl⟩, kp42, av39⟩), ⟨_, rfl⟩, hW, hsame.mono (by decide) (by decide)⟩
theorem ef_3_3 (m : MethodId) (x0 : Addr) (x1 : Addr) (x2 : Int32) (x3 : Addr) : entryFrame m #[(.ref x0), (.ref x1), (.int x2), (.ref x3)] 5 = mkF m 0 #[.val (.ref x0), .val (.ref x1), .val (.int x2), .val (.ref x3), .unset] [] := by first | (simp [entryFrame, mkF, argsToLocals, Value.category]; done) | rfl
def Q3_3 (Z : State) (a0 a1 : Addr) (p2 : Int32) (a3 : Addr) (aw as am : Addr) (kw ks km k1 k3 : ClassId) (c0 c1 c2 c3 u0 u1 u2 u3 : Int32) (m0 m1 m2 m3 x0 x1 x2 x3 : Int64) (y0 y1 y2 : Int32) (h0 : Heap) (n0 : Nat) (v : Option Value) (h : Heap) (L : List Loc) : Prop := v = none ∧ Fr n0 L ∧ ∃ (r0 r1 r2 : Int32), (r0 = ((((([x0, x1, x2, x3].getD (p2 + c0).toNatClampNeg 0).toUInt64 >>> (u0 &&& 0x3f).toInt64.toUInt64).toInt64) &&& m0).toInt32) ∧ r1 = ((((([x0, x1, x2, x3].getD (p2 + c1).toNatClampNeg 0).toUInt64 >>> (u1 &&& 0x3f).toInt64.toUInt64).toInt64) &&& m1).toInt32) ∧ r2 = ((((([x0, x1, x2, x3].getD (p2 + c2).toNatClampNeg 0).toUInt64 >>> (u2 &&& 0x3f).toInt64.toUInt64).toInt64) &&& m2).toInt32)) ∧ Keep h0 h [a3] ∧ (Arv Z h a3 k3 .int (3 : Int32) [(.int r0), (.int r1), (.int r2)] (.int (0 : Int32)))
set_option maxRecDepth 65536 in
set_option maxHeartbeats 40000000 in
theorem rm3_3 (l : Launch) (Z : State) (A0 : Array Value) (hw : ∀ d ∈ tables_1, d.before A0 Z = true) (ws : List Jvm.Cond) (a0 : Addr) (a1 : Addr) (p2 : Int32) (a3 : Addr) (aw as am : Addr) (kw ks km k1 k3 : ClassId) (c0 c1 c2 c3 u0 u1 u2 u3 : Int32) (m0 m1 m2 m3 x0 x1 x2 x3 : Int64) (y0 y1 y2 : Int32) (h0 : Heap) (n0 : Nat) (Z0 : n0 ≤ h0.size) (Fw : Fld Z h0 a0 "com/example/garantia/garantia/engine/StateLayout" "word" "[I" (.ref aw)) (Fs : Fld Z h0 a0 "com/example/garantia/garantia/engine/StateLayout" "shift" "[I" (.ref as)) (Fm : Fld Z h0 a0 "com/example/garantia/garantia/engine/StateLayout" "mask" "[J" (.ref am)) (V1 : Arv Z h0 aw kw .int (4 : Int32) [(.int c0), (.int c1), (.int c2), (.int c3)] (.int (0 : Int32))) (V2 : Arv Z h0 as ks .int (4 : Int32) [(.int u0), (.int u1), (.int u2), (.int u3)] (.int (0 : Int32))) (V3 : Arv Z h0 am km .long (4 : Int32) [(.long m0), (.long m1), (.long m2), (.long m3)] (.long (0 : Int64))) (V4 : Arv Z h0 a1 k1 .long (4 : Int32) [(.long x0), (.long x1), (.long x2), (.long x3)] (.long (0 : Int64))) (V5 : Arv Z h0 a3 k3 .int (3 : Int32) [(.int y0), (.int y1), (.int y2)] (.int (0 : Int32))) (xe0 : a0 ≠ a3) (xe1 : aw ≠ a3) (xe2 : as ≠ a3) (xe3 : am ≠ a3) (xe4 : a1 ≠ a3) (g0 : n0 ≤ a3) (hin0 : ¬ (p2 + c0) < 0 ∧ (p2 + c0) < (4 : Int32)) (hin1 : ¬ (p2 + c1) < 0 ∧ (p2 + c1) < (4 : Int32)) (hin2 : ¬ (p2 + c2) < 0 ∧ (p2 + c2) < (4 : Int32)) :
    MetFree l (⟨"com/example/garantia/garantia/engine/StateLayout", "unpack", "([JI[I)V"⟩ : MethodName) (head1 (Jvm.Cond.code (⟨"com/example/garantia/garantia/engine/StateLayout", "unpack", "([JI[I)V"⟩ : MethodName) prog_46_method_8_code 5 none :: ws) ({ frames := 0, cells := 0, slots := 0, locals := 0 } : Room)) (fun a U => a = #[(.ref a0), (.ref a1), (.int p2), (.ref a3)] ∧ Z.Warmed39 U.vm ∧ U.heap = h0) (fun _ _ _ _ _ => True) (fun _ U o U' => ∃ v L, o = .returned v ∧ Q3_3 Z a0 a1 p2 a3 aw as am kw ks km k1 k3 c0 c1 c2 c3 u0 u1 u2 u3 m0 m1 m2 m3 x0 x1 x2 x3 y0 y1 y2 h0 n0 v U'.heap L ∧ FrameEnd U o U' L ({ frames := 0, cells := 0, slots := 0, locals := 0 } : Room).cells ({ frames := 0, cells := 0, slots := 0, locals := 0 } : Room).slots) := by
  refine MetFree.of_bodySF (plainFor_of_name pn_1) hisR ?_
  intro p e s m args below meth c s₁ Bd hml0 hP hK
  obtain ⟨rfl, hZ, hh⟩ := hP
  have hx := Bd.exec
  have hby := Bd.bytes
  have hml : c.maxLocals = 5 := hml0
  have hown : s.vm.findClass "com/example/garantia/garantia/engine/StateLayout" = some m.cls := findClass_of_methodNamed Bd.named
  have hnm := (name_of_methodNamed Bd.named Bd.method).1
  have X0 : Stand p l e ({ frames := 0, cells := 0, slots := 0, locals := 0 } : Room) s m #[(.ref a0), (.ref a1), (.int p2), (.ref a3)] below meth c s₁ [] 0 0 := Stand.of_body Bd
  have e0 : s₁.heap = h0 := by rw [← hh, Bd.state]; rfl
  have N0 := Fr.nil n0
  have kp0 : Keep h0 h0 [a3] := Keep.refl _ _
  obtain ⟨S0, hS0⟩ : ∃ z, z = s₁.setTop (entryFrame m #[(.ref a0), (.ref a1), (.int p2), (.ref a3)] 5) := ⟨_, rfl⟩
  have pre0 : Go p.tables e below S0 s₁ (mkF m 0 #[vR a0, vR a1, vI p2, vR a3, .unset] []) := fun t k => by rw [hS0]; exact castTop (ef_3_3 m a0 a1 p2 a3) k
  have pre1 : Go p.tables e below S0 s₁ (mkF m 6 #[vR a0, vR a1, vI p2, vR a3, vI (0 : Int32)] [(.ref a3), (.int (0 : Int32))]) := fun t k => pre0 t (by
    refine XS.iconst X0.here hx rfl (hb hby d3_0) ?_
    refine XS.istore X0.here hx rfl (hb hby d3_1) rfl (l' := #[vR a0, vR a1, vI p2, vR a3, vI (0 : Int32)]) rfl ?_
    refine XS.iload X0.here hx rfl (hb hby d3_3) rfl ?_
    show Steps p.tables e below (s₁.setTop (mkF m 5 #[vR a0, vR a1, vI p2, vR a3, vI (0 : Int32)] [(.int (0 : Int32))])) _
    refine XS.aloadN X0.here hx rfl (hb hby d3_5) rfl rfl ?_
    exact k)
  obtain ⟨cl2, Ar2, q2, S2, M2, H2, G2⟩ := id V5
  have pre3 : Go p.tables e below S0 s₁ (mkF m 16 #[vR a0, vR a1, vI p2, vR a3, vI (0 : Int32)] [(.ref a0), (.int p2), (.ref a1), (.int (0 : Int32)), (.ref a3)]) := fun t k => pre1 t (by
    refine X0.arraylength hx (by rw [e0]; exact Ar2.1) (State.isArrayOf_alike hZ.alike Ar2.2.1) (g := (mkF m 6 #[vR a0, vR a1, vI p2, vR a3, vI (0 : Int32)] [(.ref a3), (.int (0 : Int32))])) rfl rfl (hb hby d3_6) _ ?_
    rw [len_of S2 M2]
    refine XS.icmpNo X0.here hx rfl (hb hby d3_7) rfl (tlt (by decide : (0 : Int32) < (3 : Int32))).2.1 ?_
    refine XS.aloadN X0.here hx rfl (hb hby d3_10) rfl rfl ?_
    show Steps p.tables e below (s₁.setTop (mkF m 11 #[vR a0, vR a1, vI p2, vR a3, vI (0 : Int32)] [(.ref a3)])) _
    refine XS.iload X0.here hx rfl (hb hby d3_11) rfl ?_
    refine XS.aloadN X0.here hx rfl (hb hby d3_13) rfl rfl ?_
    refine XS.iloadN X0.here hx rfl (hb hby d3_14) rfl ?_
    show Steps p.tables e below (s₁.setTop (mkF m 15 #[vR a0, vR a1, vI p2, vR a3, vI (0 : Int32)] [(.int p2), (.ref a1), (.int (0 : Int32)), (.ref a3)])) _
    refine XS.aloadN X0.here hx rfl (hb hby d3_15) rfl rfl ?_
    exact k)
  obtain ⟨T4, X4, e4, st4⟩ := getF X0 hx hZ hown (host := "") (Or.inl (hw _ (List.mem_of_getElem? (i := 14) rfl))) Via.refl e0 Fw (g := (mkF m 16 #[vR a0, vR a1, vI p2, vR a3, vI (0 : Int32)] [(.ref a0), (.int p2), (.ref a1), (.int (0 : Int32)), (.ref a3)])) rfl rfl (hb hby d3_16)
  have pre4 : Go p.tables e below S0 T4 (mkF m 19 #[vR a0, vR a1, vI p2, vR a3, vI (0 : Int32)] [(.ref aw), (.int p2), (.ref a1), (.int (0 : Int32)), (.ref a3)]) := fun t k => pre3 t (st4 t k)
  have pre5 : Go p.tables e below S0 T4 (mkF m 21 #[vR a0, vR a1, vI p2, vR a3, vI (0 : Int32)] [(.int (0 : Int32)), (.ref aw), (.int p2), (.ref a1), (.int (0 : Int32)), (.ref a3)]) := fun t k => pre4 t (by
    refine XS.iload X4.here hx rfl (hb hby d3_19) rfl ?_
    exact k)
  obtain ⟨cl6, Ar6, q6, S6, M6, H6, G6⟩ := id V1
  have in6 : ¬ ((0 : Int32) < 0 ∨ cl6.slots.size ≤ ((0 : Int32)).toNatClampNeg) := inb_of S6 ⟨by decide, by decide⟩
  have at6 : cl6.slots[((0 : Int32)).toNatClampNeg]? = some (.int c0) := H6.at in6 rfl
  have pre7 : Go p.tables e below S0 T4 (mkF m 23 #[vR a0, vR a1, vI p2, vR a3, vI (0 : Int32)] [(.int (p2 + c0)), (.ref a1), (.int (0 : Int32)), (.ref a3)]) := fun t k => pre5 t (by
    refine X4.iaload hx (j := (0 : Int32)) (v := (.int c0)) (by rw [e4]; exact Ar6.1) (State.isArrayOf_alike hZ.alike Ar6.2.1) Ar6.2.2 in6 at6 (g := (mkF m 21 #[vR a0, vR a1, vI p2, vR a3, vI (0 : Int32)] [(.int (0 : Int32)), (.ref aw), (.int p2), (.ref a1), (.int (0 : Int32)), (.ref a3)])) rfl rfl (hb hby d3_21) _ ?_
    refine XS.iadd X4.here hx rfl (hb hby d3_22) rfl ?_
    exact k)
  obtain ⟨cl8, Ar8, q8, S8, M8, H8, G8⟩ := id V4
  have in8 : ¬ ((p2 + c0) < 0 ∨ cl8.slots.size ≤ ((p2 + c0)).toNatClampNeg) := inb_of S8 hin0
  have at8 : cl8.slots[((p2 + c0)).toNatClampNeg]? = some (.long ([x0, x1, x2, x3].getD ((p2 + c0)).toNatClampNeg 0)) := H8.at in8 (own_getJ [x0, x1, x2, x3] _)
  have pre9 : Go p.tables e below S0 T4 (mkF m 25 #[vR a0, vR a1, vI p2, vR a3, vI (0 : Int32)] [(.ref a0), (.long ([x0, x1, x2, x3].getD ((p2 + c0)).toNatClampNeg 0)), (.int (0 : Int32)), (.ref a3)]) := fun t k => pre7 t (by
    refine X4.laload hx (j := (p2 + c0)) (v := (.long ([x0, x1, x2, x3].getD ((p2 + c0)).toNatClampNeg 0))) (by rw [e4]; exact Ar8.1) (State.isArrayOf_alike hZ.alike Ar8.2.1) Ar8.2.2 in8 at8 (g := (mkF m 23 #[vR a0, vR a1, vI p2, vR a3, vI (0 : Int32)] [(.int (p2 + c0)), (.ref a1), (.int (0 : Int32)), (.ref a3)])) rfl rfl (hb hby d3_23) _ ?_
    refine XS.aloadN X4.here hx rfl (hb hby d3_24) rfl rfl ?_
    exact k)
  obtain ⟨T10, X10, e10, st10⟩ := getF X4 hx hZ hown (host := "") (Or.inl (hw _ (List.mem_of_getElem? (i := 16) rfl))) Via.refl e4 Fs (g := (mkF m 25 #[vR a0, vR a1, vI p2, vR a3, vI (0 : Int32)] [(.ref a0), (.long ([x0, x1, x2, x3].getD ((p2 + c0)).toNatClampNeg 0)), (.int (0 : Int32)), (.ref a3)])) rfl rfl (hb hby d3_25)
  have pre10 : Go p.tables e below S0 T10 (mkF m 28 #[vR a0, vR a1, vI p2, vR a3, vI (0 : Int32)] [(.ref as), (.long ([x0, x1, x2, x3].getD ((p2 + c0)).toNatClampNeg 0)), (.int (0 : Int32)), (.ref a3)]) := fun t k => pre9 t (st10 t k)
  have pre11 : Go p.tables e below S0 T10 (mkF m 30 #[vR a0, vR a1, vI p2, vR a3, vI (0 : Int32)] [(.int (0 : Int32)), (.ref as), (.long ([x0, x1, x2, x3].getD ((p2 + c0)).toNatClampNeg 0)), (.int (0 : Int32)), (.ref a3)]) := fun t k => pre10 t (by
    refine XS.iload X10.here hx rfl (hb hby d3_28) rfl ?_
    exact k)
  obtain ⟨cl12, Ar12, q12, S12, M12, H12, G12⟩ := id V2
  have in12 : ¬ ((0 : Int32) < 0 ∨ cl12.slots.size ≤ ((0 : Int32)).toNatClampNeg) := inb_of S12 ⟨by decide, by decide⟩
  have at12 : cl12.slots[((0 : Int32)).toNatClampNeg]? = some (.int u0) := H12.at in12 rfl
  have pre13 : Go p.tables e below S0 T10 (mkF m 33 #[vR a0, vR a1, vI p2, vR a3, vI (0 : Int32)] [(.ref a0), (.long ((([x0, x1, x2, x3].getD ((p2 + c0)).toNatClampNeg 0).toUInt64 >>> (u0 &&& 0x3f).toInt64.toUInt64).toInt64)), (.int (0 : Int32)), (.ref a3)]) := fun t k => pre11 t (by
    refine X10.iaload hx (j := (0 : Int32)) (v := (.int u0)) (by rw [e10]; exact Ar12.1) (State.isArrayOf_alike hZ.alike Ar12.2.1) Ar12.2.2 in12 at12 (g := (mkF m 30 #[vR a0, vR a1, vI p2, vR a3, vI (0 : Int32)] [(.int (0 : Int32)), (.ref as), (.long ([x0, x1, x2, x3].getD ((p2 + c0)).toNatClampNeg 0)), (.int (0 : Int32)), (.ref a3)])) rfl rfl (hb hby d3_30) _ ?_
    refine XS.lushr X10.here hx rfl (hb hby d3_31) rfl ?_
    refine XS.aloadN X10.here hx rfl (hb hby d3_32) rfl rfl ?_
    show Steps p.tables e below (T10.setTop (mkF m 33 #[vR a0, vR a1, vI p2, vR a3, vI (0 : Int32)] [(.ref a0), (.long ((([x0, x1, x2, x3].getD ((p2 + c0)).toNatClampNeg 0).toUInt64 >>> (u0 &&& 0x3f).toInt64.toUInt64).toInt64)), (.int (0 : Int32)), (.ref a3)])) _
    exact k)
  obtain ⟨T14, X14, e14, st14⟩ := getF X10 hx hZ hown (host := "") (Or.inl (hw _ (List.mem_of_getElem? (i := 18) rfl))) Via.refl e10 Fm (g := (mkF m 33 #[vR a0, vR a1, vI p2, vR a3, vI (0 : Int32)] [(.ref a0), (.long ((([x0, x1, x2, x3].getD ((p2 + c0)).toNatClampNeg 0).toUInt64 >>> (u0 &&& 0x3f).toInt64.toUInt64).toInt64)), (.int (0 : Int32)), (.ref a3)])) rfl rfl (hb hby d3_33)
  have pre14 : Go p.tables e below S0 T14 (mkF m 36 #[vR a0, vR a1, vI p2, vR a3, vI (0 : Int32)] [(.ref am), (.long ((([x0, x1, x2, x3].getD ((p2 + c0)).toNatClampNeg 0).toUInt64 >>> (u0 &&& 0x3f).toInt64.toUInt64).toInt64)), (.int (0 : Int32)), (.ref a3)]) := fun t k => pre13 t (st14 t k)
  have pre15 : Go p.tables e below S0 T14 (mkF m 38 #[vR a0, vR a1, vI p2, vR a3, vI (0 : Int32)] [(.int (0 : Int32)), (.ref am), (.long ((([x0, x1, x2, x3].getD ((p2 + c0)).toNatClampNeg 0).toUInt64 >>> (u0 &&& 0x3f).toInt64.toUInt64).toInt64)), (.int (0 : Int32)), (.ref a3)]) := fun t k => pre14 t (by
    refine XS.iload X14.here hx rfl (hb hby d3_36) rfl ?_
    exact k)
  obtain ⟨cl16, Ar16, q16, S16, M16, H16, G16⟩ := id V3
  have in16 : ¬ ((0 : Int32) < 0 ∨ cl16.slots.size ≤ ((0 : Int32)).toNatClampNeg) := inb_of S16 ⟨by decide, by decide⟩
  have at16 : cl16.slots[((0 : Int32)).toNatClampNeg]? = some (.long m0) := H16.at in16 rfl
  have pre17 : Go p.tables e below S0 T14 (mkF m 41 #[vR a0, vR a1, vI p2, vR a3, vI (0 : Int32)] [(.int ((((([x0, x1, x2, x3].getD ((p2 + c0)).toNatClampNeg 0).toUInt64 >>> (u0 &&& 0x3f).toInt64.toUInt64).toInt64) &&& m0).toInt32)), (.int (0 : Int32)), (.ref a3)]) := fun t k => pre15 t (by
    refine X14.laload hx (j := (0 : Int32)) (v := (.long m0)) (by rw [e14]; exact Ar16.1) (State.isArrayOf_alike hZ.alike Ar16.2.1) Ar16.2.2 in16 at16 (g := (mkF m 38 #[vR a0, vR a1, vI p2, vR a3, vI (0 : Int32)] [(.int (0 : Int32)), (.ref am), (.long ((([x0, x1, x2, x3].getD ((p2 + c0)).toNatClampNeg 0).toUInt64 >>> (u0 &&& 0x3f).toInt64.toUInt64).toInt64)), (.int (0 : Int32)), (.ref a3)])) rfl rfl (hb hby d3_38) _ ?_
    refine XS.land X14.here hx rfl (hb hby d3_39) rfl ?_
    refine XS.l2i X14.here hx rfl (hb hby d3_40) rfl ?_
    show Steps p.tables e below (T14.setTop (mkF m 41 #[vR a0, vR a1, vI p2, vR a3, vI (0 : Int32)] [(.int ((((([x0, x1, x2, x3].getD ((p2 + c0)).toNatClampNeg 0).toUInt64 >>> (u0 &&& 0x3f).toInt64.toUInt64).toInt64) &&& m0).toInt32)), (.int (0 : Int32)), (.ref a3)])) _
    exact k)
  obtain ⟨cl18, Ar18, q18, S18, M18, H18, G18⟩ := id V5
  have in18 : ¬ ((0 : Int32) < 0 ∨ cl18.slots.size ≤ ((0 : Int32)).toNatClampNeg) := inb_of S18 ⟨by decide, by decide⟩
  obtain ⟨T18, h18, X18, e18, W18, st18⟩ := stI X14 hx hZ e14 Ar18 (j := (0 : Int32)) in18 (g := (mkF m 41 #[vR a0, vR a1, vI p2, vR a3, vI (0 : Int32)] [(.int ((((([x0, x1, x2, x3].getD ((p2 + c0)).toNatClampNeg 0).toUInt64 >>> (u0 &&& 0x3f).toInt64.toUInt64).toInt64) &&& m0).toInt32)), (.int (0 : Int32)), (.ref a3)])) rfl rfl (hb hby d3_41)
  have pre18 : Go p.tables e below S0 T18 (mkF m 42 #[vR a0, vR a1, vI p2, vR a3, vI (0 : Int32)] []) := fun t k => pre17 t (st18 t k)
  obtain ⟨lo18, N18, X18⟩ : ∃ lo, Fr n0 lo ∧ Stand p l e ({ frames := 0, cells := 0, slots := 0, locals := 0 } : Room) s m #[(.ref a0), (.ref a1), (.int p2), (.ref a3)] below meth c T18 lo 0 0 := ⟨_, Fr.snoc X18 N0 g0, X18⟩
  have av18 : Arv Z h18 a3 k3 .int (3 : Int32) [(.int ((((([x0, x1, x2, x3].getD ((p2 + c0)).toNatClampNeg 0).toUInt64 >>> (u0 &&& 0x3f).toInt64.toUInt64).toInt64) &&& m0).toInt32)), (.int y1), (.int y2)] (.int (0 : Int32)) := Arv.set Ar18 q18 S18 M18 H18 G18 rfl W18 0 rfl (Nat.le_of_ble_eq_true rfl)
  have f19_1 := Fld.other W18 Fw (Or.inl xe0)
  have f19_2 := Fld.other W18 Fs (Or.inl xe0)
  have f19_3 := Fld.other W18 Fm (Or.inl xe0)
  have f19_4 := V1.other W18 xe1
  have f19_5 := V2.other W18 xe2
  have f19_6 := V3.other W18 xe3
  have f19_7 := V4.other W18 xe4
  have zz20 : n0 ≤ h18.size := Nat.le_trans Z0 (Keep.of_wr W18).1
  have kp21 : Keep h0 h18 [a3] := kp0.wr W18 (Or.inl (List.mem_of_getElem? (i := 0) rfl))
  have pre22 : Go p.tables e below S0 T18 (mkF m 6 #[vR a0, vR a1, vI p2, vR a3, vI (1 : Int32)] [(.ref a3), (.int (1 : Int32))]) := fun t k => pre18 t (by
    refine XS.iinc X18.here hx rfl (hb hby d3_42) rfl (l' := #[vR a0, vR a1, vI p2, vR a3, vI (1 : Int32)]) rfl ?_
    refine XS.goto X18.here hx rfl (pc0 := 45) (pc' := 3) rfl (hb hby d3_45) (by decide) (by decide) ?_
    refine XS.iload X18.here hx rfl (hb hby d3_3) rfl ?_
    show Steps p.tables e below (T18.setTop (mkF m 5 #[vR a0, vR a1, vI p2, vR a3, vI (1 : Int32)] [(.int (1 : Int32))])) _
    refine XS.aloadN X18.here hx rfl (hb hby d3_5) rfl rfl ?_
    exact k)
  obtain ⟨cl23, Ar23, q23, S23, M23, H23, G23⟩ := id av18
  have pre24 : Go p.tables e below S0 T18 (mkF m 16 #[vR a0, vR a1, vI p2, vR a3, vI (1 : Int32)] [(.ref a0), (.int p2), (.ref a1), (.int (1 : Int32)), (.ref a3)]) := fun t k => pre22 t (by
    refine X18.arraylength hx (by rw [e18]; exact Ar23.1) (State.isArrayOf_alike hZ.alike Ar23.2.1) (g := (mkF m 6 #[vR a0, vR a1, vI p2, vR a3, vI (1 : Int32)] [(.ref a3), (.int (1 : Int32))])) rfl rfl (hb hby d3_6) _ ?_
    rw [len_of S23 M23]
    refine XS.icmpNo X18.here hx rfl (hb hby d3_7) rfl (tlt (by decide : (1 : Int32) < (3 : Int32))).2.1 ?_
    refine XS.aloadN X18.here hx rfl (hb hby d3_10) rfl rfl ?_
    show Steps p.tables e below (T18.setTop (mkF m 11 #[vR a0, vR a1, vI p2, vR a3, vI (1 : Int32)] [(.ref a3)])) _
    refine XS.iload X18.here hx rfl (hb hby d3_11) rfl ?_
    refine XS.aloadN X18.here hx rfl (hb hby d3_13) rfl rfl ?_
    refine XS.iloadN X18.here hx rfl (hb hby d3_14) rfl ?_
    show Steps p.tables e below (T18.setTop (mkF m 15 #[vR a0, vR a1, vI p2, vR a3, vI (1 : Int32)] [(.int p2), (.ref a1), (.int (1 : Int32)), (.ref a3)])) _
    refine XS.aloadN X18.here hx rfl (hb hby d3_15) rfl rfl ?_
    exact k)
  obtain ⟨T25, X25, e25, st25⟩ := getF X18 hx hZ hown (host := "") (Or.inl (hw _ (List.mem_of_getElem? (i := 14) rfl))) Via.refl e18 f19_1 (g := (mkF m 16 #[vR a0, vR a1, vI p2, vR a3, vI (1 : Int32)] [(.ref a0), (.int p2), (.ref a1), (.int (1 : Int32)), (.ref a3)])) rfl rfl (hb hby d3_16)
  have pre25 : Go p.tables e below S0 T25 (mkF m 19 #[vR a0, vR a1, vI p2, vR a3, vI (1 : Int32)] [(.ref aw), (.int p2), (.ref a1), (.int (1 : Int32)), (.ref a3)]) := fun t k => pre24 t (st25 t k)
  have pre26 : Go p.tables e below S0 T25 (mkF m 21 #[vR a0, vR a1, vI p2, vR a3, vI (1 : Int32)] [(.int (1 : Int32)), (.ref aw), (.int p2), (.ref a1), (.int (1 : Int32)), (.ref a3)]) := fun t k => pre25 t (by
    refine XS.iload X25.here hx rfl (hb hby d3_19) rfl ?_
    exact k)
  obtain ⟨cl27, Ar27, q27, S27, M27, H27, G27⟩ := id f19_4
  have in27 : ¬ ((1 : Int32) < 0 ∨ cl27.slots.size ≤ ((1 : Int32)).toNatClampNeg) := inb_of S27 ⟨by decide, by decide⟩
  have at27 : cl27.slots[((1 : Int32)).toNatClampNeg]? = some (.int c1) := H27.at in27 rfl
  have pre28 : Go p.tables e below S0 T25 (mkF m 23 #[vR a0, vR a1, vI p2, vR a3, vI (1 : Int32)] [(.int (p2 + c1)), (.ref a1), (.int (1 : Int32)), (.ref a3)]) := fun t k => pre26 t (by
    refine X25.iaload hx (j := (1 : Int32)) (v := (.int c1)) (by rw [e25]; exact Ar27.1) (State.isArrayOf_alike hZ.alike Ar27.2.1) Ar27.2.2 in27 at27 (g := (mkF m 21 #[vR a0, vR a1, vI p2, vR a3, vI (1 : Int32)] [(.int (1 : Int32)), (.ref aw), (.int p2), (.ref a1), (.int (1 : Int32)), (.ref a3)])) rfl rfl (hb hby d3_21) _ ?_
    refine XS.iadd X25.here hx rfl (hb hby d3_22) rfl ?_
    exact k)
  obtain ⟨cl29, Ar29, q29, S29, M29, H29, G29⟩ := id f19_7
  have in29 : ¬ ((p2 + c1) < 0 ∨ cl29.slots.size ≤ ((p2 + c1)).toNatClampNeg) := inb_of S29 hin1
  have at29 : cl29.slots[((p2 + c1)).toNatClampNeg]? = some (.long ([x0, x1, x2, x3].getD ((p2 + c1)).toNatClampNeg 0)) := H29.at in29 (own_getJ [x0, x1, x2, x3] _)
  have pre30 : Go p.tables e below S0 T25 (mkF m 25 #[vR a0, vR a1, vI p2, vR a3, vI (1 : Int32)] [(.ref a0), (.long ([x0, x1, x2, x3].getD ((p2 + c1)).toNatClampNeg 0)), (.int (1 : Int32)), (.ref a3)]) := fun t k => pre28 t (by
    refine X25.laload hx (j := (p2 + c1)) (v := (.long ([x0, x1, x2, x3].getD ((p2 + c1)).toNatClampNeg 0))) (by rw [e25]; exact Ar29.1) (State.isArrayOf_alike hZ.alike Ar29.2.1) Ar29.2.2 in29 at29 (g := (mkF m 23 #[vR a0, vR a1, vI p2, vR a3, vI (1 : Int32)] [(.int (p2 + c1)), (.ref a1), (.int (1 : Int32)), (.ref a3)])) rfl rfl (hb hby d3_23) _ ?_
    refine XS.aloadN X25.here hx rfl (hb hby d3_24) rfl rfl ?_
    exact k)
  obtain ⟨T31, X31, e31, st31⟩ := getF X25 hx hZ hown (host := "") (Or.inl (hw _ (List.mem_of_getElem? (i := 16) rfl))) Via.refl e25 f19_2 (g := (mkF m 25 #[vR a0, vR a1, vI p2, vR a3, vI (1 : Int32)] [(.ref a0), (.long ([x0, x1, x2, x3].getD ((p2 + c1)).toNatClampNeg 0)), (.int (1 : Int32)), (.ref a3)])) rfl rfl (hb hby d3_25)
  have pre31 : Go p.tables e below S0 T31 (mkF m 28 #[vR a0, vR a1, vI p2, vR a3, vI (1 : Int32)] [(.ref as), (.long ([x0, x1, x2, x3].getD ((p2 + c1)).toNatClampNeg 0)), (.int (1 : Int32)), (.ref a3)]) := fun t k => pre30 t (st31 t k)
  have pre32 : Go p.tables e below S0 T31 (mkF m 30 #[vR a0, vR a1, vI p2, vR a3, vI (1 : Int32)] [(.int (1 : Int32)), (.ref as), (.long ([x0, x1, x2, x3].getD ((p2 + c1)).toNatClampNeg 0)), (.int (1 : Int32)), (.ref a3)]) := fun t k => pre31 t (by
    refine XS.iload X31.here hx rfl (hb hby d3_28) rfl ?_
    exact k)
  obtain ⟨cl33, Ar33, q33, S33, M33, H33, G33⟩ := id f19_5
  have in33 : ¬ ((1 : Int32) < 0 ∨ cl33.slots.size ≤ ((1 : Int32)).toNatClampNeg) := inb_of S33 ⟨by decide, by decide⟩
  have at33 : cl33.slots[((1 : Int32)).toNatClampNeg]? = some (.int u1) := H33.at in33 rfl
  have pre34 : Go p.tables e below S0 T31 (mkF m 33 #[vR a0, vR a1, vI p2, vR a3, vI (1 : Int32)] [(.ref a0), (.long ((([x0, x1, x2, x3].getD ((p2 + c1)).toNatClampNeg 0).toUInt64 >>> (u1 &&& 0x3f).toInt64.toUInt64).toInt64)), (.int (1 : Int32)), (.ref a3)]) := fun t k => pre32 t (by
    refine X31.iaload hx (j := (1 : Int32)) (v := (.int u1)) (by rw [e31]; exact Ar33.1) (State.isArrayOf_alike hZ.alike Ar33.2.1) Ar33.2.2 in33 at33 (g := (mkF m 30 #[vR a0, vR a1, vI p2, vR a3, vI (1 : Int32)] [(.int (1 : Int32)), (.ref as), (.long ([x0, x1, x2, x3].getD ((p2 + c1)).toNatClampNeg 0)), (.int (1 : Int32)), (.ref a3)])) rfl rfl (hb hby d3_30) _ ?_
    refine XS.lushr X31.here hx rfl (hb hby d3_31) rfl ?_
    refine XS.aloadN X31.here hx rfl (hb hby d3_32) rfl rfl ?_
    show Steps p.tables e below (T31.setTop (mkF m 33 #[vR a0, vR a1, vI p2, vR a3, vI (1 : Int32)] [(.ref a0), (.long ((([x0, x1, x2, x3].getD ((p2 + c1)).toNatClampNeg 0).toUInt64 >>> (u1 &&& 0x3f).toInt64.toUInt64).toInt64)), (.int (1 : Int32)), (.ref a3)])) _
    exact k)
  obtain ⟨T35, X35, e35, st35⟩ := getF X31 hx hZ hown (host := "") (Or.inl (hw _ (List.mem_of_getElem? (i := 18) rfl))) Via.refl e31 f19_3 (g := (mkF m 33 #[vR a0, vR a1, vI p2, vR a3, vI (1 : Int32)] [(.ref a0), (.long ((([x0, x1, x2, x3].getD ((p2 + c1)).toNatClampNeg 0).toUInt64 >>> (u1 &&& 0x3f).toInt64.toUInt64).toInt64)), (.int (1 : Int32)), (.ref a3)])) rfl rfl (hb hby d3_33)
  have pre35 : Go p.tables e below S0 T35 (mkF m 36 #[vR a0, vR a1, vI p2, vR a3, vI (1 : Int32)] [(.ref am), (.long ((([x0, x1, x2, x3].getD ((p2 + c1)).toNatClampNeg 0).toUInt64 >>> (u1 &&& 0x3f).toInt64.toUInt64).toInt64)), (.int (1 : Int32)), (.ref a3)]) := fun t k => pre34 t (st35 t k)
  have pre36 : Go p.tables e below S0 T35 (mkF m 38 #[vR a0, vR a1, vI p2, vR a3, vI (1 : Int32)] [(.int (1 : Int32)), (.ref am), (.long ((([x0, x1, x2, x3].getD ((p2 + c1)).toNatClampNeg 0).toUInt64 >>> (u1 &&& 0x3f).toInt64.toUInt64).toInt64)), (.int (1 : Int32)), (.ref a3)]) := fun t k => pre35 t (by
    refine XS.iload X35.here hx rfl (hb hby d3_36) rfl ?_
    exact k)
  obtain ⟨cl37, Ar37, q37, S37, M37, H37, G37⟩ := id f19_6
  have in37 : ¬ ((1 : Int32) < 0 ∨ cl37.slots.size ≤ ((1 : Int32)).toNatClampNeg) := inb_of S37 ⟨by decide, by decide⟩
  have at37 : cl37.slots[((1 : Int32)).toNatClampNeg]? = some (.long m1) := H37.at in37 rfl
  have pre38 : Go p.tables e below S0 T35 (mkF m 41 #[vR a0, vR a1, vI p2, vR a3, vI (1 : Int32)] [(.int ((((([x0, x1, x2, x3].getD ((p2 + c1)).toNatClampNeg 0).toUInt64 >>> (u1 &&& 0x3f).toInt64.toUInt64).toInt64) &&& m1).toInt32)), (.int (1 : Int32)), (.ref a3)]) := fun t k => pre36 t (by
    refine X35.laload hx (j := (1 : Int32)) (v := (.long m1)) (by rw [e35]; exact Ar37.1) (State.isArrayOf_alike hZ.alike Ar37.2.1) Ar37.2.2 in37 at37 (g := (mkF m 38 #[vR a0, vR a1, vI p2, vR a3, vI (1 : Int32)] [(.int (1 : Int32)), (.ref am), (.long ((([x0, x1, x2, x3].getD ((p2 + c1)).toNatClampNeg 0).toUInt64 >>> (u1 &&& 0x3f).toInt64.toUInt64).toInt64)), (.int (1 : Int32)), (.ref a3)])) rfl rfl (hb hby d3_38) _ ?_
    refine XS.land X35.here hx rfl (hb hby d3_39) rfl ?_
    refine XS.l2i X35.here hx rfl (hb hby d3_40) rfl ?_
    show Steps p.tables e below (T35.setTop (mkF m 41 #[vR a0, vR a1, vI p2, vR a3, vI (1 : Int32)] [(.int ((((([x0, x1, x2, x3].getD ((p2 + c1)).toNatClampNeg 0).toUInt64 >>> (u1 &&& 0x3f).toInt64.toUInt64).toInt64) &&& m1).toInt32)), (.int (1 : Int32)), (.ref a3)])) _
    exact k)
  obtain ⟨cl39, Ar39, q39, S39, M39, H39, G39⟩ := id av18
  have in39 : ¬ ((1 : Int32) < 0 ∨ cl39.slots.size ≤ ((1 : Int32)).toNatClampNeg) := inb_of S39 ⟨by decide, by decide⟩
  obtain ⟨T39, h39, X39, e39, W39, st39⟩ := stI X35 hx hZ e35 Ar39 (j := (1 : Int32)) in39 (g := (mkF m 41 #[vR a0, vR a1, vI p2, vR a3, vI (1 : Int32)] [(.int ((((([x0, x1, x2, x3].getD ((p2 + c1)).toNatClampNeg 0).toUInt64 >>> (u1 &&& 0x3f).toInt64.toUInt64).toInt64) &&& m1).toInt32)), (.int (1 : Int32)), (.ref a3)])) rfl rfl (hb hby d3_41)
  have pre39 : Go p.tables e below S0 T39 (mkF m 42 #[vR a0, vR a1, vI p2, vR a3, vI (1 : Int32)] []) := fun t k => pre38 t (st39 t k)
  obtain ⟨lo39, N39, X39⟩ : ∃ lo, Fr n0 lo ∧ Stand p l e ({ frames := 0, cells := 0, slots := 0, locals := 0 } : Room) s m #[(.ref a0), (.ref a1), (.int p2), (.ref a3)] below meth c T39 lo 0 0 := ⟨_, Fr.snoc X39 N18 g0, X39⟩
  have av39 : Arv Z h39 a3 k3 .int (3 : Int32) [(.int ((((([x0, x1, x2, x3].getD ((p2 + c0)).toNatClampNeg 0).toUInt64 >>> (u0 &&& 0x3f).toInt64.toUInt64).toInt64) &&& m0).toInt32)), (.int ((((([x0, x1, x2, x3].getD ((p2 + c1)).toNatClampNeg 0).toUInt64 >>> (u1 &&& 0x3f).toInt64.toUInt64).toInt64) &&& m1).toInt32)), (.int y2)] (.int (0 : Int32)) := Arv.set Ar39 q39 S39 M39 H39 G39 rfl W39 1 rfl (Nat.le_of_ble_eq_true rfl)
  have f40_1 := Fld.other W39 f19_1 (Or.inl xe0)
  have f40_2 := Fld.other W39 f19_2 (Or.inl xe0)
  have f40_3 := Fld.other W39 f19_3 (Or.inl xe0)
  have f40_4 := f19_4.other W39 xe1
  have f40_5 := f19_5.other W39 xe2
  have f40_6 := f19_6.other W39 xe3
  have f40_7 := f19_7.other W39 xe4
  have zz41 : n0 ≤ h39.size := Nat.le_trans zz20 (Keep.of_wr W39).1
  have kp42 : Keep h0 h39 [a3] := kp21.wr W39 (Or.inl (List.mem_of_getElem? (i := 0) rfl))
  have pre43 : Go p.tables e below S0 T39 (mkF m 6 #[vR a0, vR a1, vI p2, vR a3, vI (2 : Int32)] [(.ref a3), (.int (2 : Int32))]) := fun t k => pre39 t (by
    refine XS.iinc X39.here hx rfl (hb hby d3_42) rfl (l' := #[vR a0, vR a1, vI p2, vR a3, vI (2 : Int32)]) rfl ?_
    refine XS.goto X39.here hx rfl (pc0 := 45) (pc' := 3) rfl (hb hby d3_45) (by decide) (by decide) ?_
    refine XS.iload X39.here hx rfl (hb hby d3_3) rfl ?_
    show Steps p.tables e below (T39.setTop (mkF m 5 #[vR a0, vR a1, vI p2, vR a3, vI (2 : Int32)] [(.int (2 : Int32))])) _
    refine XS.aloadN X39.here hx rfl (hb hby d3_5) rfl rfl ?_
    exact k)
  obtain ⟨cl44, Ar44, q44, S44, M44, H44, G44⟩ := id av39
  have pre45 : Go p.tables e below S0 T39 (mkF m 16 #[vR a0, vR a1, vI p2, vR a3, vI (2 : Int32)] [(.ref a0), (.int p2), (.ref a1), (.int (2 : Int32)), (.ref a3)]) := fun t k => pre43 t (by
    refine X39.arraylength hx (by rw [e39]; exact Ar44.1) (State.isArrayOf_alike hZ.alike Ar44.2.1) (g := (mkF m 6 #[vR a0, vR a1, vI p2, vR a3, vI (2 : Int32)] [(.ref a3), (.int (2 : Int32))])) rfl rfl (hb hby d3_6) _ ?_
    rw [len_of S44 M44]
    refine XS.icmpNo X39.here hx rfl (hb hby d3_7) rfl (tlt (by decide : (2 : Int32) < (3 : Int32))).2.1 ?_
    refine XS.aloadN X39.here hx rfl (hb hby d3_10) rfl rfl ?_
    show Steps p.tables e below (T39.setTop (mkF m 11 #[vR a0, vR a1, vI p2, vR a3, vI (2 : Int32)] [(.ref a3)])) _
    refine XS.iload X39.here hx rfl (hb hby d3_11) rfl ?_
    refine XS.aloadN X39.here hx rfl (hb hby d3_13) rfl rfl ?_
    refine XS.iloadN X39.here hx rfl (hb hby d3_14) rfl ?_
    show Steps p.tables e below (T39.setTop (mkF m 15 #[vR a0, vR a1, vI p2, vR a3, vI (2 : Int32)] [(.int p2), (.ref a1), (.int (2 : Int32)), (.ref a3)])) _
    refine XS.aloadN X39.here hx rfl (hb hby d3_15) rfl rfl ?_
    exact k)
  obtain ⟨T46, X46, e46, st46⟩ := getF X39 hx hZ hown (host := "") (Or.inl (hw _ (List.mem_of_getElem? (i := 14) rfl))) Via.refl e39 f40_1 (g := (mkF m 16 #[vR a0, vR a1, vI p2, vR a3, vI (2 : Int32)] [(.ref a0), (.int p2), (.ref a1), (.int (2 : Int32)), (.ref a3)])) rfl rfl (hb hby d3_16)
  have pre46 : Go p.tables e below S0 T46 (mkF m 19 #[vR a0, vR a1, vI p2, vR a3, vI (2 : Int32)] [(.ref aw), (.int p2), (.ref a1), (.int (2 : Int32)), (.ref a3)]) := fun t k => pre45 t (st46 t k)
  have pre47 : Go p.tables e below S0 T46 (mkF m 21 #[vR a0, vR a1, vI p2, vR a3, vI (2 : Int32)] [(.int (2 : Int32)), (.ref aw), (.int p2), (.ref a1), (.int (2 : Int32)), (.ref a3)]) := fun t k => pre46 t (by
    refine XS.iload X46.here hx rfl (hb hby d3_19) rfl ?_
    exact k)
  obtain ⟨cl48, Ar48, q48, S48, M48, H48, G48⟩ := id f40_4
  have in48 : ¬ ((2 : Int32) < 0 ∨ cl48.slots.size ≤ ((2 : Int32)).toNatClampNeg) := inb_of S48 ⟨by decide, by decide⟩
  have at48 : cl48.slots[((2 : Int32)).toNatClampNeg]? = some (.int c2) := H48.at in48 rfl
  have pre49 : Go p.tables e below S0 T46 (mkF m 23 #[vR a0, vR a1, vI p2, vR a3, vI (2 : Int32)] [(.int (p2 + c2)), (.ref a1), (.int (2 : Int32)), (.ref a3)]) := fun t k => pre47 t (by
    refine X46.iaload hx (j := (2 : Int32)) (v := (.int c2)) (by rw [e46]; exact Ar48.1) (State.isArrayOf_alike hZ.alike Ar48.2.1) Ar48.2.2 in48 at48 (g := (mkF m 21 #[vR a0, vR a1, vI p2, vR a3, vI (2 : Int32)] [(.int (2 : Int32)), (.ref aw), (.int p2), (.ref a1), (.int (2 : Int32)), (.ref a3)])) rfl rfl (hb hby d3_21) _ ?_
    refine XS.iadd X46.here hx rfl (hb hby d3_22) rfl ?_
    exact k)
  obtain ⟨cl50, Ar50, q50, S50, M50, H50, G50⟩ := id f40_7
  have in50 : ¬ ((p2 + c2) < 0 ∨ cl50.slots.size ≤ ((p2 + c2)).toNatClampNeg) := inb_of S50 hin2
  have at50 : cl50.slots[((p2 + c2)).toNatClampNeg]? = some (.long ([x0, x1, x2, x3].getD ((p2 + c2)).toNatClampNeg 0)) := H50.at in50 (own_getJ [x0, x1, x2, x3] _)
  have pre51 : Go p.tables e below S0 T46 (mkF m 25 #[vR a0, vR a1, vI p2, vR a3, vI (2 : Int32)] [(.ref a0), (.long ([x0, x1, x2, x3].getD ((p2 + c2)).toNatClampNeg 0)), (.int (2 : Int32)), (.ref a3)]) := fun t k => pre49 t (by
    refine X46.laload hx (j := (p2 + c2)) (v := (.long ([x0, x1, x2, x3].getD ((p2 + c2)).toNatClampNeg 0))) (by rw [e46]; exact Ar50.1) (State.isArrayOf_alike hZ.alike Ar50.2.1) Ar50.2.2 in50 at50 (g := (mkF m 23 #[vR a0, vR a1, vI p2, vR a3, vI (2 : Int32)] [(.int (p2 + c2)), (.ref a1), (.int (2 : Int32)), (.ref a3)])) rfl rfl (hb hby d3_23) _ ?_
    refine XS.aloadN X46.here hx rfl (hb hby d3_24) rfl rfl ?_
    exact k)
  obtain ⟨T52, X52, e52, st52⟩ := getF X46 hx hZ hown (host := "") (Or.inl (hw _ (List.mem_of_getElem? (i := 16) rfl))) Via.refl e46 f40_2 (g := (mkF m 25 #[vR a0, vR a1, vI p2, vR a3, vI (2 : Int32)] [(.ref a0), (.long ([x0, x1, x2, x3].getD ((p2 + c2)).toNatClampNeg 0)), (.int (2 : Int32)), (.ref a3)])) rfl rfl (hb hby d3_25)
  have pre52 : Go p.tables e below S0 T52 (mkF m 28 #[vR a0, vR a1, vI p2, vR a3, vI (2 : Int32)] [(.ref as), (.long ([x0, x1, x2, x3].getD ((p2 + c2)).toNatClampNeg 0)), (.int (2 : Int32)), (.ref a3)]) := fun t k => pre51 t (st52 t k)
  have pre53 : Go p.tables e below S0 T52 (mkF m 30 #[vR a0, vR a1, vI p2, vR a3, vI (2 : Int32)] [(.int (2 : Int32)), (.ref as), (.long ([x0, x1, x2, x3].getD ((p2 + c2)).toNatClampNeg 0)), (.int (2 : Int32)), (.ref a3)]) := fun t k => pre52 t (by
    refine XS.iload X52.here hx rfl (hb hby d3_28) rfl ?_
    exact k)
  obtain ⟨cl54, Ar54, q54, S54, M54, H54, G54⟩ := id f40_5
  have in54 : ¬ ((2 : Int32) < 0 ∨ cl54.slots.size ≤ ((2 : Int32)).toNatClampNeg) := inb_of S54 ⟨by decide, by decide⟩
  have at54 : cl54.slots[((2 : Int32)).toNatClampNeg]? = some (.int u2) := H54.at in54 rfl
  have pre55 : Go p.tables e below S0 T52 (mkF m 33 #[vR a0, vR a1, vI p2, vR a3, vI (2 : Int32)] [(.ref a0), (.long ((([x0, x1, x2, x3].getD ((p2 + c2)).toNatClampNeg 0).toUInt64 >>> (u2 &&& 0x3f).toInt64.toUInt64).toInt64)), (.int (2 : Int32)), (.ref a3)]) := fun t k => pre53 t (by
    refine X52.iaload hx (j := (2 : Int32)) (v := (.int u2)) (by rw [e52]; exact Ar54.1) (State.isArrayOf_alike hZ.alike Ar54.2.1) Ar54.2.2 in54 at54 (g := (mkF m 30 #[vR a0, vR a1, vI p2, vR a3, vI (2 : Int32)] [(.int (2 : Int32)), (.ref as), (.long ([x0, x1, x2, x3].getD ((p2 + c2)).toNatClampNeg 0)), (.int (2 : Int32)), (.ref a3)])) rfl rfl (hb hby d3_30) _ ?_
    refine XS.lushr X52.here hx rfl (hb hby d3_31) rfl ?_
    refine XS.aloadN X52.here hx rfl (hb hby d3_32) rfl rfl ?_
    show Steps p.tables e below (T52.setTop (mkF m 33 #[vR a0, vR a1, vI p2, vR a3, vI (2 : Int32)] [(.ref a0), (.long ((([x0, x1, x2, x3].getD ((p2 + c2)).toNatClampNeg 0).toUInt64 >>> (u2 &&& 0x3f).toInt64.toUInt64).toInt64)), (.int (2 : Int32)), (.ref a3)])) _
    exact k)
  obtain ⟨T56, X56, e56, st56⟩ := getF X52 hx hZ hown (host := "") (Or.inl (hw _ (List.mem_of_getElem? (i := 18) rfl))) Via.refl e52 f40_3 (g := (mkF m 33 #[vR a0, vR a1, vI p2, vR a3, vI (2 : Int32)] [(.ref a0), (.long ((([x0, x1, x2, x3].getD ((p2 + c2)).toNatClampNeg 0).toUInt64 >>> (u2 &&& 0x3f).toInt64.toUInt64).toInt64)), (.int (2 : Int32)), (.ref a3)])) rfl rfl (hb hby d3_33)
  have pre56 : Go p.tables e below S0 T56 (mkF m 36 #[vR a0, vR a1, vI p2, vR a3, vI (2 : Int32)] [(.ref am), (.long ((([x0, x1, x2, x3].getD ((p2 + c2)).toNatClampNeg 0).toUInt64 >>> (u2 &&& 0x3f).toInt64.toUInt64).toInt64)), (.int (2 : Int32)), (.ref a3)]) := fun t k => pre55 t (st56 t k)
  have pre57 : Go p.tables e below S0 T56 (mkF m 38 #[vR a0, vR a1, vI p2, vR a3, vI (2 : Int32)] [(.int (2 : Int32)), (.ref am), (.long ((([x0, x1, x2, x3].getD ((p2 + c2)).toNatClampNeg 0).toUInt64 >>> (u2 &&& 0x3f).toInt64.toUInt64).toInt64)), (.int (2 : Int32)), (.ref a3)]) := fun t k => pre56 t (by
    refine XS.iload X56.here hx rfl (hb hby d3_36) rfl ?_
    exact k)
  obtain ⟨cl58, Ar58, q58, S58, M58, H58, G58⟩ := id f40_6
  have in58 : ¬ ((2 : Int32) < 0 ∨ cl58.slots.size ≤ ((2 : Int32)).toNatClampNeg) := inb_of S58 ⟨by decide, by decide⟩
  have at58 : cl58.slots[((2 : Int32)).toNatClampNeg]? = some (.long m2) := H58.at in58 rfl
  have pre59 : Go p.tables e below S0 T56 (mkF m 41 #[vR a0, vR a1, vI p2, vR a3, vI (2 : Int32)] [(.int ((((([x0, x1, x2, x3].getD ((p2 + c2)).toNatClampNeg 0).toUInt64 >>> (u2 &&& 0x3f).toInt64.toUInt64).toInt64) &&& m2).toInt32)), (.int (2 : Int32)), (.ref a3)]) := fun t k => pre57 t (by
    refine X56.laload hx (j := (2 : Int32)) (v := (.long m2)) (by rw [e56]; exact Ar58.1) (State.isArrayOf_alike hZ.alike Ar58.2.1) Ar58.2.2 in58 at58 (g := (mkF m 38 #[vR a0, vR a1, vI p2, vR a3, vI (2 : Int32)] [(.int (2 : Int32)), (.ref am), (.long ((([x0, x1, x2, x3].getD ((p2 + c2)).toNatClampNeg 0).toUInt64 >>> (u2 &&& 0x3f).toInt64.toUInt64).toInt64)), (.int (2 : Int32)), (.ref a3)])) rfl rfl (hb hby d3_38) _ ?_
    refine XS.land X56.here hx rfl (hb hby d3_39) rfl ?_
    refine XS.l2i X56.here hx rfl (hb hby d3_40) rfl ?_
    show Steps p.tables e below (T56.setTop (mkF m 41 #[vR a0, vR a1, vI p2, vR a3, vI (2 : Int32)] [(.int ((((([x0, x1, x2, x3].getD ((p2 + c2)).toNatClampNeg 0).toUInt64 >>> (u2 &&& 0x3f).toInt64.toUInt64).toInt64) &&& m2).toInt32)), (.int (2 : Int32)), (.ref a3)])) _
    exact k)
  obtain ⟨cl60, Ar60, q60, S60, M60, H60, G60⟩ := id av39
  have in60 : ¬ ((2 : Int32) < 0 ∨ cl60.slots.size ≤ ((2 : Int32)).toNatClampNeg) := inb_of S60 ⟨by decide, by decide⟩
  obtain ⟨T60, h60, X60, e60, W60, st60⟩ := stI X56 hx hZ e56 Ar60 (j := (2 : Int32)) in60 (g := (mkF m 41 #[vR a0, vR a1, vI p2, vR a3, vI (2 : Int32)] [(.int ((((([x0, x1, x2, x3].getD ((p2 + c2)).toNatClampNeg 0).toUInt64 >>> (u2 &&& 0x3f).toInt64.toUInt64).toInt64) &&& m2).toInt32)), (.int (2 : Int32)), (.ref a3)])) rfl rfl (hb hby d3_41)
  have pre60 : Go p.tables e below S0 T60 (mkF m 42 #[vR a0, vR a1, vI p2, vR a3, vI (2 : Int32)] []) := fun t k => pre59 t (st60 t k)
  obtain ⟨lo60, N60, X60⟩ : ∃ lo, Fr n0 lo ∧ Stand p l e ({ frames := 0, cells := 0, slots := 0, locals := 0 } : Room) s m #[(.ref a0), (.ref a1), (.int p2), (.ref a3)] below meth c T60 lo 0 0 := ⟨_, Fr.snoc X60 N39 g0, X60⟩
  have av60 : Arv Z h60 a3 k3 .int (3 : Int32) [(.int ((((([x0, x1, x2, x3].getD ((p2 + c0)).toNatClampNeg 0).toUInt64 >>> (u0 &&& 0x3f).toInt64.toUInt64).toInt64) &&& m0).toInt32)), (.int ((((([x0, x1, x2, x3].getD ((p2 + c1)).toNatClampNeg 0).toUInt64 >>> (u1 &&& 0x3f).toInt64.toUInt64).toInt64) &&& m1).toInt32)), (.int ((((([x0, x1, x2, x3].getD ((p2 + c2)).toNatClampNeg 0).toUInt64 >>> (u2 &&& 0x3f).toInt64.toUInt64).toInt64) &&& m2).toInt32))] (.int (0 : Int32)) := Arv.set Ar60 q60 S60 M60 H60 G60 rfl W60 2 rfl (Nat.le_of_ble_eq_true rfl)
  have f61_1 := Fld.other W60 f40_1 (Or.inl xe0)
  have f61_2 := Fld.other W60 f40_2 (Or.inl xe0)
  have f61_3 := Fld.other W60 f40_3 (Or.inl xe0)
  have f61_4 := f40_4.other W60 xe1
  have f61_5 := f40_5.other W60 xe2
  have f61_6 := f40_6.other W60 xe3
  have f61_7 := f40_7.other W60 xe4
  have zz62 : n0 ≤ h60.size := Nat.le_trans zz41 (Keep.of_wr W60).1
  have kp63 : Keep h0 h60 [a3] := kp42.wr W60 (Or.inl (List.mem_of_getElem? (i := 0) rfl))
  have pre64 : Go p.tables e below S0 T60 (mkF m 6 #[vR a0, vR a1, vI p2, vR a3, vI (3 : Int32)] [(.ref a3), (.int (3 : Int32))]) := fun t k => pre60 t (by
    refine XS.iinc X60.here hx rfl (hb hby d3_42) rfl (l' := #[vR a0, vR a1, vI p2, vR a3, vI (3 : Int32)]) rfl ?_
    refine XS.goto X60.here hx rfl (pc0 := 45) (pc' := 3) rfl (hb hby d3_45) (by decide) (by decide) ?_
    refine XS.iload X60.here hx rfl (hb hby d3_3) rfl ?_
    show Steps p.tables e below (T60.setTop (mkF m 5 #[vR a0, vR a1, vI p2, vR a3, vI (3 : Int32)] [(.int (3 : Int32))])) _
    refine XS.aloadN X60.here hx rfl (hb hby d3_5) rfl rfl ?_
    exact k)
  obtain ⟨cl65, Ar65, q65, S65, M65, H65, G65⟩ := id av60
  have pre66 : Go p.tables e below S0 T60 (mkF m 48 #[vR a0, vR a1, vI p2, vR a3, vI (3 : Int32)] []) := fun t k => pre64 t (by
    refine X60.arraylength hx (by rw [e60]; exact Ar65.1) (State.isArrayOf_alike hZ.alike Ar65.2.1) (g := (mkF m 6 #[vR a0, vR a1, vI p2, vR a3, vI (3 : Int32)] [(.ref a3), (.int (3 : Int32))])) rfl rfl (hb hby d3_6) _ ?_
    rw [len_of S65 M65]
    refine XS.icmpYes X60.here hx rfl (pc0 := 7) (pc' := 48) rfl (hb hby d3_7) rfl (flt (by decide : ¬ ((3 : Int32) < (3 : Int32)))).2.1 (by decide) (by decide) ?_
    exact k)
  obtain ⟨fs, hr, hrun, hended, hW, hsame⟩ := X60.leave (v := none) (fun _ => rfl)
  exact ⟨_, _, pre66.fin hS0 (X60.returnOut hx Bd.returns (hb hby d3_48) hr), hrun, hended, _, _, rfl, (by
    show Q3_3 Z a0 a1 p2 a3 aw as am kw ks km k1 k3 c0 c1 c2 c3 u0 u1 u2 u3 m0 m1 m2 m3 x0 x1 x2 x3 y0 y1 y2 h0 n0 _ T60.heap _
    rw [e60]
    exact ⟨rfl, N60, _, _, _, ⟨rfl, rfl, rfl⟩, kp63, av60⟩), ⟨_, rfl⟩, hW, hsame.mono (by decide) (by decide)⟩
theorem ef_3_4 (m : MethodId) (x0 : Addr) (x1 : Addr) (x2 : Int32) (x3 : Addr) : entryFrame m #[(.ref x0), (.ref x1), (.int x2), (.ref x3)] 5 = mkF m 0 #[.val (.ref x0), .val (.ref x1), .val (.int x2), .val (.ref x3), .unset] [] := by first | (simp [entryFrame, mkF, argsToLocals, Value.category]; done) | rfl
def Q3_4 (Z : State) (a0 a1 : Addr) (p2 : Int32) (a3 : Addr) (aw as am : Addr) (kw ks km k1 k3 : ClassId) (c0 c1 c2 c3 u0 u1 u2 u3 : Int32) (m0 m1 m2 m3 x0 x1 x2 x3 : Int64) (y0 y1 y2 y3 : Int32) (h0 : Heap) (n0 : Nat) (v : Option Value) (h : Heap) (L : List Loc) : Prop := v = none ∧ Fr n0 L ∧ ∃ (r0 r1 r2 r3 : Int32), (r0 = ((((([x0, x1, x2, x3].getD (p2 + c0).toNatClampNeg 0).toUInt64 >>> (u0 &&& 0x3f).toInt64.toUInt64).toInt64) &&& m0).toInt32) ∧ r1 = ((((([x0, x1, x2, x3].getD (p2 + c1).toNatClampNeg 0).toUInt64 >>> (u1 &&& 0x3f).toInt64.toUInt64).toInt64) &&& m1).toInt32) ∧ r2 = ((((([x0, x1, x2, x3].getD (p2 + c2).toNatClampNeg 0).toUInt64 >>> (u2 &&& 0x3f).toInt64.toUInt64).toInt64) &&& m2).toInt32) ∧ r3 = ((((([x0, x1, x2, x3].getD (p2 + c3).toNatClampNeg 0).toUInt64 >>> (u3 &&& 0x3f).toInt64.toUInt64).toInt64) &&& m3).toInt32)) ∧ Keep h0 h [a3] ∧ (Arv Z h a3 k3 .int (4 : Int32) [(.int r0), (.int r1), (.int r2), (.int r3)] (.int (0 : Int32)))
set_option maxRecDepth 65536 in
set_option maxHeartbeats 40000000 in
theorem rm3_4 (l : Launch) (Z : State) (A0 : Array Value) (hw : ∀ d ∈ tables_1, d.before A0 Z = true) (ws : List Jvm.Cond) (a0 : Addr) (a1 : Addr) (p2 : Int32) (a3 : Addr) (aw as am : Addr) (kw ks km k1 k3 : ClassId) (c0 c1 c2 c3 u0 u1 u2 u3 : Int32) (m0 m1 m2 m3 x0 x1 x2 x3 : Int64) (y0 y1 y2 y3 : Int32) (h0 : Heap) (n0 : Nat) (Z0 : n0 ≤ h0.size) (Fw : Fld Z h0 a0 "com/example/garantia/garantia/engine/StateLayout" "word" "[I" (.ref aw)) (Fs : Fld Z h0 a0 "com/example/garantia/garantia/engine/StateLayout" "shift" "[I" (.ref as)) (Fm : Fld Z h0 a0 "com/example/garantia/garantia/engine/StateLayout" "mask" "[J" (.ref am)) (V1 : Arv Z h0 aw kw .int (4 : Int32) [(.int c0), (.int c1), (.int c2), (.int c3)] (.int (0 : Int32))) (V2 : Arv Z h0 as ks .int (4 : Int32) [(.int u0), (.int u1), (.int u2), (.int u3)] (.int (0 : Int32))) (V3 : Arv Z h0 am km .long (4 : Int32) [(.long m0), (.long m1), (.long m2), (.long m3)] (.long (0 : Int64))) (V4 : Arv Z h0 a1 k1 .long (4 : Int32) [(.long x0), (.long x1), (.long x2), (.long x3)] (.long (0 : Int64))) (V5 : Arv Z h0 a3 k3 .int (4 : Int32) [(.int y0), (.int y1), (.int y2), (.int y3)] (.int (0 : Int32))) (xe0 : a0 ≠ a3) (xe1 : aw ≠ a3) (xe2 : as ≠ a3) (xe3 : am ≠ a3) (xe4 : a1 ≠ a3) (g0 : n0 ≤ a3) (hin0 : ¬ (p2 + c0) < 0 ∧ (p2 + c0) < (4 : Int32)) (hin1 : ¬ (p2 + c1) < 0 ∧ (p2 + c1) < (4 : Int32)) (hin2 : ¬ (p2 + c2) < 0 ∧ (p2 + c2) < (4 : Int32)) (hin3 : ¬ (p2 + c3) < 0 ∧ (p2 + c3) < (4 : Int32)) :
    MetFree l (⟨"com/example/garantia/garantia/engine/StateLayout", "unpack", "([JI[I)V"⟩ : MethodName) (head1 (Jvm.Cond.code (⟨"com/example/garantia/garantia/engine/StateLayout", "unpack", "([JI[I)V"⟩ : MethodName) prog_46_method_8_code 5 none :: ws) ({ frames := 0, cells := 0, slots := 0, locals := 0 } : Room)) (fun a U => a = #[(.ref a0), (.ref a1), (.int p2), (.ref a3)] ∧ Z.Warmed39 U.vm ∧ U.heap = h0) (fun _ _ _ _ _ => True) (fun _ U o U' => ∃ v L, o = .returned v ∧ Q3_4 Z a0 a1 p2 a3 aw as am kw ks km k1 k3 c0 c1 c2 c3 u0 u1 u2 u3 m0 m1 m2 m3 x0 x1 x2 x3 y0 y1 y2 y3 h0 n0 v U'.heap L ∧ FrameEnd U o U' L ({ frames := 0, cells := 0, slots := 0, locals := 0 } : Room).cells ({ frames := 0, cells := 0, slots := 0, locals := 0 } : Room).slots) := by
  refine MetFree.of_bodySF (plainFor_of_name pn_1) hisR ?_
  intro p e s m args below meth c s₁ Bd hml0 hP hK
  obtain ⟨rfl, hZ, hh⟩ := hP
  have hx := Bd.exec
  have hby := Bd.bytes
  have hml : c.maxLocals = 5 := hml0
  have hown : s.vm.findClass "com/example/garantia/garantia/engine/StateLayout" = some m.cls := findClass_of_methodNamed Bd.named
  have hnm := (name_of_methodNamed Bd.named Bd.method).1
  have X0 : Stand p l e ({ frames := 0, cells := 0, slots := 0, locals := 0 } : Room) s m #[(.ref a0), (.ref a1), (.int p2), (.ref a3)] below meth c s₁ [] 0 0 := Stand.of_body Bd
  have e0 : s₁.heap = h0 := by rw [← hh, Bd.state]; rfl
  have N0 := Fr.nil n0
  have kp0 : Keep h0 h0 [a3] := Keep.refl _ _
  obtain ⟨S0, hS0⟩ : ∃ z, z = s₁.setTop (entryFrame m #[(.ref a0), (.ref a1), (.int p2), (.ref a3)] 5) := ⟨_, rfl⟩
  have pre0 : Go p.tables e below S0 s₁ (mkF m 0 #[vR a0, vR a1, vI p2, vR a3, .unset] []) := fun t k => by rw [hS0]; exact castTop (ef_3_4 m a0 a1 p2 a3) k
  have pre1 : Go p.tables e below S0 s₁ (mkF m 6 #[vR a0, vR a1, vI p2, vR a3, vI (0 : Int32)] [(.ref a3), (.int (0 : Int32))]) := fun t k => pre0 t (by
    refine XS.iconst X0.here hx rfl (hb hby d3_0) ?_
    refine XS.istore X0.here hx rfl (hb hby d3_1) rfl (l' := #[vR a0, vR a1, vI p2, vR a3, vI (0 : Int32)]) rfl ?_
    refine XS.iload X0.here hx rfl (hb hby d3_3) rfl ?_
    show Steps p.tables e below (s₁.setTop (mkF m 5 #[vR a0, vR a1, vI p2, vR a3, vI (0 : Int32)] [(.int (0 : Int32))])) _
    refine XS.aloadN X0.here hx rfl (hb hby d3_5) rfl rfl ?_
    exact k)
  obtain ⟨cl2, Ar2, q2, S2, M2, H2, G2⟩ := id V5
  have pre3 : Go p.tables e below S0 s₁ (mkF m 16 #[vR a0, vR a1, vI p2, vR a3, vI (0 : Int32)] [(.ref a0), (.int p2), (.ref a1), (.int (0 : Int32)), (.ref a3)]) := fun t k => pre1 t (by
    refine X0.arraylength hx (by rw [e0]; exact Ar2.1) (State.isArrayOf_alike hZ.alike Ar2.2.1) (g := (mkF m 6 #[vR a0, vR a1, vI p2, vR a3, vI (0 : Int32)] [(.ref a3), (.int (0 : Int32))])) rfl rfl (hb hby d3_6) _ ?_
    rw [len_of S2 M2]
    refine XS.icmpNo X0.here hx rfl (hb hby d3_7) rfl (tlt (by decide : (0 : Int32) < (4 : Int32))).2.1 ?_
    refine XS.aloadN X0.here hx rfl (hb hby d3_10) rfl rfl ?_
    show Steps p.tables e below (s₁.setTop (mkF m 11 #[vR a0, vR a1, vI p2, vR a3, vI (0 : Int32)] [(.ref a3)])) _
    refine XS.iload X0.here hx rfl (hb hby d3_11) rfl ?_
    refine XS.aloadN X0.here hx rfl (hb hby d3_13) rfl rfl ?_
    refine XS.iloadN X0.here hx rfl (hb hby d3_14) rfl ?_
    show Steps p.tables e below (s₁.setTop (mkF m 15 #[vR a0, vR a1, vI p2, vR a3, vI (0 : Int32)] [(.int p2), (.ref a1), (.int (0 : Int32)), (.ref a3)])) _
    refine XS.aloadN X0.here hx rfl (hb hby d3_15) rfl rfl ?_
    exact k)
  obtain ⟨T4, X4, e4, st4⟩ := getF X0 hx hZ hown (host := "") (Or.inl (hw _ (List.mem_of_getElem? (i := 14) rfl))) Via.refl e0 Fw (g := (mkF m 16 #[vR a0, vR a1, vI p2, vR a3, vI (0 : Int32)] [(.ref a0), (.int p2), (.ref a1), (.int (0 : Int32)), (.ref a3)])) rfl rfl (hb hby d3_16)
  have pre4 : Go p.tables e below S0 T4 (mkF m 19 #[vR a0, vR a1, vI p2, vR a3, vI (0 : Int32)] [(.ref aw), (.int p2), (.ref a1), (.int (0 : Int32)), (.ref a3)]) := fun t k => pre3 t (st4 t k)
  have pre5 : Go p.tables e below S0 T4 (mkF m 21 #[vR a0, vR a1, vI p2, vR a3, vI (0 : Int32)] [(.int (0 : Int32)), (.ref aw), (.int p2), (.ref a1), (.int (0 : Int32)), (.ref a3)]) := fun t k => pre4 t (by
    refine XS.iload X4.here hx rfl (hb hby d3_19) rfl ?_
    exact k)
  obtain ⟨cl6, Ar6, q6, S6, M6, H6, G6⟩ := id V1
  have in6 : ¬ ((0 : Int32) < 0 ∨ cl6.slots.size ≤ ((0 : Int32)).toNatClampNeg) := inb_of S6 ⟨by decide, by decide⟩
  have at6 : cl6.slots[((0 : Int32)).toNatClampNeg]? = some (.int c0) := H6.at in6 rfl
  have pre7 : Go p.tables e below S0 T4 (mkF m 23 #[vR a0, vR a1, vI p2, vR a3, vI (0 : Int32)] [(.int (p2 + c0)), (.ref a1), (.int (0 : Int32)), (.ref a3)]) := fun t k => pre5 t (by
    refine X4.iaload hx (j := (0 : Int32)) (v := (.int c0)) (by rw [e4]; exact Ar6.1) (State.isArrayOf_alike hZ.alike Ar6.2.1) Ar6.2.2 in6 at6 (g := (mkF m 21 #[vR a0, vR a1, vI p2, vR a3, vI (0 : Int32)] [(.int (0 : Int32)), (.ref aw), (.int p2), (.ref a1), (.int (0 : Int32)), (.ref a3)])) rfl rfl (hb hby d3_21) _ ?_
    refine XS.iadd X4.here hx rfl (hb hby d3_22) rfl ?_
    exact k)
  obtain ⟨cl8, Ar8, q8, S8, M8, H8, G8⟩ := id V4
  have in8 : ¬ ((p2 + c0) < 0 ∨ cl8.slots.size ≤ ((p2 + c0)).toNatClampNeg) := inb_of S8 hin0
  have at8 : cl8.slots[((p2 + c0)).toNatClampNeg]? = some (.long ([x0, x1, x2, x3].getD ((p2 + c0)).toNatClampNeg 0)) := H8.at in8 (own_getJ [x0, x1, x2, x3] _)
  have pre9 : Go p.tables e below S0 T4 (mkF m 25 #[vR a0, vR a1, vI p2, vR a3, vI (0 : Int32)] [(.ref a0), (.long ([x0, x1, x2, x3].getD ((p2 + c0)).toNatClampNeg 0)), (.int (0 : Int32)), (.ref a3)]) := fun t k => pre7 t (by
    refine X4.laload hx (j := (p2 + c0)) (v := (.long ([x0, x1, x2, x3].getD ((p2 + c0)).toNatClampNeg 0))) (by rw [e4]; exact Ar8.1) (State.isArrayOf_alike hZ.alike Ar8.2.1) Ar8.2.2 in8 at8 (g := (mkF m 23 #[vR a0, vR a1, vI p2, vR a3, vI (0 : Int32)] [(.int (p2 + c0)), (.ref a1), (.int (0 : Int32)), (.ref a3)])) rfl rfl (hb hby d3_23) _ ?_
    refine XS.aloadN X4.here hx rfl (hb hby d3_24) rfl rfl ?_
    exact k)
  obtain ⟨T10, X10, e10, st10⟩ := getF X4 hx hZ hown (host := "") (Or.inl (hw _ (List.mem_of_getElem? (i := 16) rfl))) Via.refl e4 Fs (g := (mkF m 25 #[vR a0, vR a1, vI p2, vR a3, vI (0 : Int32)] [(.ref a0), (.long ([x0, x1, x2, x3].getD ((p2 + c0)).toNatClampNeg 0)), (.int (0 : Int32)), (.ref a3)])) rfl rfl (hb hby d3_25)
  have pre10 : Go p.tables e below S0 T10 (mkF m 28 #[vR a0, vR a1, vI p2, vR a3, vI (0 : Int32)] [(.ref as), (.long ([x0, x1, x2, x3].getD ((p2 + c0)).toNatClampNeg 0)), (.int (0 : Int32)), (.ref a3)]) := fun t k => pre9 t (st10 t k)
  have pre11 : Go p.tables e below S0 T10 (mkF m 30 #[vR a0, vR a1, vI p2, vR a3, vI (0 : Int32)] [(.int (0 : Int32)), (.ref as), (.long ([x0, x1, x2, x3].getD ((p2 + c0)).toNatClampNeg 0)), (.int (0 : Int32)), (.ref a3)]) := fun t k => pre10 t (by
    refine XS.iload X10.here hx rfl (hb hby d3_28) rfl ?_
    exact k)
  obtain ⟨cl12, Ar12, q12, S12, M12, H12, G12⟩ := id V2
  have in12 : ¬ ((0 : Int32) < 0 ∨ cl12.slots.size ≤ ((0 : Int32)).toNatClampNeg) := inb_of S12 ⟨by decide, by decide⟩
  have at12 : cl12.slots[((0 : Int32)).toNatClampNeg]? = some (.int u0) := H12.at in12 rfl
  have pre13 : Go p.tables e below S0 T10 (mkF m 33 #[vR a0, vR a1, vI p2, vR a3, vI (0 : Int32)] [(.ref a0), (.long ((([x0, x1, x2, x3].getD ((p2 + c0)).toNatClampNeg 0).toUInt64 >>> (u0 &&& 0x3f).toInt64.toUInt64).toInt64)), (.int (0 : Int32)), (.ref a3)]) := fun t k => pre11 t (by
    refine X10.iaload hx (j := (0 : Int32)) (v := (.int u0)) (by rw [e10]; exact Ar12.1) (State.isArrayOf_alike hZ.alike Ar12.2.1) Ar12.2.2 in12 at12 (g := (mkF m 30 #[vR a0, vR a1, vI p2, vR a3, vI (0 : Int32)] [(.int (0 : Int32)), (.ref as), (.long ([x0, x1, x2, x3].getD ((p2 + c0)).toNatClampNeg 0)), (.int (0 : Int32)), (.ref a3)])) rfl rfl (hb hby d3_30) _ ?_
    refine XS.lushr X10.here hx rfl (hb hby d3_31) rfl ?_
    refine XS.aloadN X10.here hx rfl (hb hby d3_32) rfl rfl ?_
    show Steps p.tables e below (T10.setTop (mkF m 33 #[vR a0, vR a1, vI p2, vR a3, vI (0 : Int32)] [(.ref a0), (.long ((([x0, x1, x2, x3].getD ((p2 + c0)).toNatClampNeg 0).toUInt64 >>> (u0 &&& 0x3f).toInt64.toUInt64).toInt64)), (.int (0 : Int32)), (.ref a3)])) _
    exact k)
  obtain ⟨T14, X14, e14, st14⟩ := getF X10 hx hZ hown (host := "") (Or.inl (hw _ (List.mem_of_getElem? (i := 18) rfl))) Via.refl e10 Fm (g := (mkF m 33 #[vR a0, vR a1, vI p2, vR a3, vI (0 : Int32)] [(.ref a0), (.long ((([x0, x1, x2, x3].getD ((p2 + c0)).toNatClampNeg 0).toUInt64 >>> (u0 &&& 0x3f).toInt64.toUInt64).toInt64)), (.int (0 : Int32)), (.ref a3)])) rfl rfl (hb hby d3_33)
  have pre14 : Go p.tables e below S0 T14 (mkF m 36 #[vR a0, vR a1, vI p2, vR a3, vI (0 : Int32)] [(.ref am), (.long ((([x0, x1, x2, x3].getD ((p2 + c0)).toNatClampNeg 0).toUInt64 >>> (u0 &&& 0x3f).toInt64.toUInt64).toInt64)), (.int (0 : Int32)), (.ref a3)]) := fun t k => pre13 t (st14 t k)
  have pre15 : Go p.tables e below S0 T14 (mkF m 38 #[vR a0, vR a1, vI p2, vR a3, vI (0 : Int32)] [(.int (0 : Int32)), (.ref am), (.long ((([x0, x1, x2, x3].getD ((p2 + c0)).toNatClampNeg 0).toUInt64 >>> (u0 &&& 0x3f).toInt64.toUInt64).toInt64)), (.int (0 : Int32)), (.ref a3)]) := fun t k => pre14 t (by
    refine XS.iload X14.here hx rfl (hb hby d3_36) rfl ?_
    exact k)
  obtain ⟨cl16, Ar16, q16, S16, M16, H16, G16⟩ := id V3
  have in16 : ¬ ((0 : Int32) < 0 ∨ cl16.slots.size ≤ ((0 : Int32)).toNatClampNeg) := inb_of S16 ⟨by decide, by decide⟩
  have at16 : cl16.slots[((0 : Int32)).toNatClampNeg]? = some (.long m0) := H16.at in16 rfl
  have pre17 : Go p.tables e below S0 T14 (mkF m 41 #[vR a0, vR a1, vI p2, vR a3, vI (0 : Int32)] [(.int ((((([x0, x1, x2, x3].getD ((p2 + c0)).toNatClampNeg 0).toUInt64 >>> (u0 &&& 0x3f).toInt64.toUInt64).toInt64) &&& m0).toInt32)), (.int (0 : Int32)), (.ref a3)]) := fun t k => pre15 t (by
    refine X14.laload hx (j := (0 : Int32)) (v := (.long m0)) (by rw [e14]; exact Ar16.1) (State.isArrayOf_alike hZ.alike Ar16.2.1) Ar16.2.2 in16 at16 (g := (mkF m 38 #[vR a0, vR a1, vI p2, vR a3, vI (0 : Int32)] [(.int (0 : Int32)), (.ref am), (.long ((([x0, x1, x2, x3].getD ((p2 + c0)).toNatClampNeg 0).toUInt64 >>> (u0 &&& 0x3f).toInt64.toUInt64).toInt64)), (.int (0 : Int32)), (.ref a3)])) rfl rfl (hb hby d3_38) _ ?_
    refine XS.land X14.here hx rfl (hb hby d3_39) rfl ?_
    refine XS.l2i X14.here hx rfl (hb hby d3_40) rfl ?_
    show Steps p.tables e below (T14.setTop (mkF m 41 #[vR a0, vR a1, vI p2, vR a3, vI (0 : Int32)] [(.int ((((([x0, x1, x2, x3].getD ((p2 + c0)).toNatClampNeg 0).toUInt64 >>> (u0 &&& 0x3f).toInt64.toUInt64).toInt64) &&& m0).toInt32)), (.int (0 : Int32)), (.ref a3)])) _
    exact k)
  obtain ⟨cl18, Ar18, q18, S18, M18, H18, G18⟩ := id V5
  have in18 : ¬ ((0 : Int32) < 0 ∨ cl18.slots.size ≤ ((0 : Int32)).toNatClampNeg) := inb_of S18 ⟨by decide, by decide⟩
  obtain ⟨T18, h18, X18, e18, W18, st18⟩ := stI X14 hx hZ e14 Ar18 (j := (0 : Int32)) in18 (g := (mkF m 41 #[vR a0, vR a1, vI p2, vR a3, vI (0 : Int32)] [(.int ((((([x0, x1, x2, x3].getD ((p2 + c0)).toNatClampNeg 0).toUInt64 >>> (u0 &&& 0x3f).toInt64.toUInt64).toInt64) &&& m0).toInt32)), (.int (0 : Int32)), (.ref a3)])) rfl rfl (hb hby d3_41)
  have pre18 : Go p.tables e below S0 T18 (mkF m 42 #[vR a0, vR a1, vI p2, vR a3, vI (0 : Int32)] []) := fun t k => pre17 t (st18 t k)
  obtain ⟨lo18, N18, X18⟩ : ∃ lo, Fr n0 lo ∧ Stand p l e ({ frames := 0, cells := 0, slots := 0, locals := 0 } : Room) s m #[(.ref a0), (.ref a1), (.int p2), (.ref a3)] below meth c T18 lo 0 0 := ⟨_, Fr.snoc X18 N0 g0, X18⟩
  have av18 : Arv Z h18 a3 k3 .int (4 : Int32) [(.int ((((([x0, x1, x2, x3].getD ((p2 + c0)).toNatClampNeg 0).toUInt64 >>> (u0 &&& 0x3f).toInt64.toUInt64).toInt64) &&& m0).toInt32)), (.int y1), (.int y2), (.int y3)] (.int (0 : Int32)) := Arv.set Ar18 q18 S18 M18 H18 G18 rfl W18 0 rfl (Nat.le_of_ble_eq_true rfl)
  have f19_1 := Fld.other W18 Fw (Or.inl xe0)
  have f19_2 := Fld.other W18 Fs (Or.inl xe0)
  have f19_3 := Fld.other W18 Fm (Or.inl xe0)
  have f19_4 := V1.other W18 xe1
  have f19_5 := V2.other W18 xe2
  have f19_6 := V3.other W18 xe3
  have f19_7 := V4.other W18 xe4
  have zz20 : n0 ≤ h18.size := Nat.le_trans Z0 (Keep.of_wr W18).1
  have kp21 : Keep h0 h18 [a3] := kp0.wr W18 (Or.inl (List.mem_of_getElem? (i := 0) rfl))
  have pre22 : Go p.tables e below S0 T18 (mkF m 6 #[vR a0, vR a1, vI p2, vR a3, vI (1 : Int32)] [(.ref a3), (.int (1 : Int32))]) := fun t k => pre18 t (by
    refine XS.iinc X18.here hx rfl (hb hby d3_42) rfl (l' := #[vR a0, vR a1, vI p2, vR a3, vI (1 : Int32)]) rfl ?_
    refine XS.goto X18.here hx rfl (pc0 := 45) (pc' := 3) rfl (hb hby d3_45) (by decide) (by decide) ?_
    refine XS.iload X18.here hx rfl (hb hby d3_3) rfl ?_
    show Steps p.tables e below (T18.setTop (mkF m 5 #[vR a0, vR a1, vI p2, vR a3, vI (1 : Int32)] [(.int (1 : Int32))])) _
    refine XS.aloadN X18.here hx rfl (hb hby d3_5) rfl rfl ?_
    exact k)
  obtain ⟨cl23, Ar23, q23, S23, M23, H23, G23⟩ := id av18
  have pre24 : Go p.tables e below S0 T18 (mkF m 16 #[vR a0, vR a1, vI p2, vR a3, vI (1 : Int32)] [(.ref a0), (.int p2), (.ref a1), (.int (1 : Int32)), (.ref a3)]) := fun t k => pre22 t (by
    refine X18.arraylength hx (by rw [e18]; exact Ar23.1) (State.isArrayOf_alike hZ.alike Ar23.2.1) (g := (mkF m 6 #[vR a0, vR a1, vI p2, vR a3, vI (1 : Int32)] [(.ref a3), (.int (1 : Int32))])) rfl rfl (hb hby d3_6) _ ?_
    rw [len_of S23 M23]
    refine XS.icmpNo X18.here hx rfl (hb hby d3_7) rfl (tlt (by decide : (1 : Int32) < (4 : Int32))).2.1 ?_
    refine XS.aloadN X18.here hx rfl (hb hby d3_10) rfl rfl ?_
    show Steps p.tables e below (T18.setTop (mkF m 11 #[vR a0, vR a1, vI p2, vR a3, vI (1 : Int32)] [(.ref a3)])) _
    refine XS.iload X18.here hx rfl (hb hby d3_11) rfl ?_
    refine XS.aloadN X18.here hx rfl (hb hby d3_13) rfl rfl ?_
    refine XS.iloadN X18.here hx rfl (hb hby d3_14) rfl ?_
    show Steps p.tables e below (T18.setTop (mkF m 15 #[vR a0, vR a1, vI p2, vR a3, vI (1 : Int32)] [(.int p2), (.ref a1), (.int (1 : Int32)), (.ref a3)])) _
    refine XS.aloadN X18.here hx rfl (hb hby d3_15) rfl rfl ?_
    exact k)
  obtain ⟨T25, X25, e25, st25⟩ := getF X18 hx hZ hown (host := "") (Or.inl (hw _ (List.mem_of_getElem? (i := 14) rfl))) Via.refl e18 f19_1 (g := (mkF m 16 #[vR a0, vR a1, vI p2, vR a3, vI (1 : Int32)] [(.ref a0), (.int p2), (.ref a1), (.int (1 : Int32)), (.ref a3)])) rfl rfl (hb hby d3_16)
  have pre25 : Go p.tables e below S0 T25 (mkF m 19 #[vR a0, vR a1, vI p2, vR a3, vI (1 : Int32)] [(.ref aw), (.int p2), (.ref a1), (.int (1 : Int32)), (.ref a3)]) := fun t k => pre24 t (st25 t k)
  have pre26 : Go p.tables e below S0 T25 (mkF m 21 #[vR a0, vR a1, vI p2, vR a3, vI (1 : Int32)] [(.int (1 : Int32)), (.ref aw), (.int p2), (.ref a1), (.int (1 : Int32)), (.ref a3)]) := fun t k => pre25 t (by
    refine XS.iload X25.here hx rfl (hb hby d3_19) rfl ?_
    exact k)
  obtain ⟨cl27, Ar27, q27, S27, M27, H27, G27⟩ := id f19_4
  have in27 : ¬ ((1 : Int32) < 0 ∨ cl27.slots.size ≤ ((1 : Int32)).toNatClampNeg) := inb_of S27 ⟨by decide, by decide⟩
  have at27 : cl27.slots[((1 : Int32)).toNatClampNeg]? = some (.int c1) := H27.at in27 rfl
  have pre28 : Go p.tables e below S0 T25 (mkF m 23 #[vR a0, vR a1, vI p2, vR a3, vI (1 : Int32)] [(.int (p2 + c1)), (.ref a1), (.int (1 : Int32)), (.ref a3)]) := fun t k => pre26 t (by
    refine X25.iaload hx (j := (1 : Int32)) (v := (.int c1)) (by rw [e25]; exact Ar27.1) (State.isArrayOf_alike hZ.alike Ar27.2.1) Ar27.2.2 in27 at27 (g := (mkF m 21 #[vR a0, vR a1, vI p2, vR a3, vI (1 : Int32)] [(.int (1 : Int32)), (.ref aw), (.int p2), (.ref a1), (.int (1 : Int32)), (.ref a3)])) rfl rfl (hb hby d3_21) _ ?_
    refine XS.iadd X25.here hx rfl (hb hby d3_22) rfl ?_
    exact k)
  obtain ⟨cl29, Ar29, q29, S29, M29, H29, G29⟩ := id f19_7
  have in29 : ¬ ((p2 + c1) < 0 ∨ cl29.slots.size ≤ ((p2 + c1)).toNatClampNeg) := inb_of S29 hin1
  have at29 : cl29.slots[((p2 + c1)).toNatClampNeg]? = some (.long ([x0, x1, x2, x3].getD ((p2 + c1)).toNatClampNeg 0)) := H29.at in29 (own_getJ [x0, x1, x2, x3] _)
  have pre30 : Go p.tables e below S0 T25 (mkF m 25 #[vR a0, vR a1, vI p2, vR a3, vI (1 : Int32)] [(.ref a0), (.long ([x0, x1, x2, x3].getD ((p2 + c1)).toNatClampNeg 0)), (.int (1 : Int32)), (.ref a3)]) := fun t k => pre28 t (by
    refine X25.laload hx (j := (p2 + c1)) (v := (.long ([x0, x1, x2, x3].getD ((p2 + c1)).toNatClampNeg 0))) (by rw [e25]; exact Ar29.1) (State.isArrayOf_alike hZ.alike Ar29.2.1) Ar29.2.2 in29 at29 (g := (mkF m 23 #[vR a0, vR a1, vI p2, vR a3, vI (1 : Int32)] [(.int (p2 + c1)), (.ref a1), (.int (1 : Int32)), (.ref a3)])) rfl rfl (hb hby d3_23) _ ?_
    refine XS.aloadN X25.here hx rfl (hb hby d3_24) rfl rfl ?_
    exact k)
  obtain ⟨T31, X31, e31, st31⟩ := getF X25 hx hZ hown (host := "") (Or.inl (hw _ (List.mem_of_getElem? (i := 16) rfl))) Via.refl e25 f19_2 (g := (mkF m 25 #[vR a0, vR a1, vI p2, vR a3, vI (1 : Int32)] [(.ref a0), (.long ([x0, x1, x2, x3].getD ((p2 + c1)).toNatClampNeg 0)), (.int (1 : Int32)), (.ref a3)])) rfl rfl (hb hby d3_25)
  have pre31 : Go p.tables e below S0 T31 (mkF m 28 #[vR a0, vR a1, vI p2, vR a3, vI (1 : Int32)] [(.ref as), (.long ([x0, x1, x2, x3].getD ((p2 + c1)).toNatClampNeg 0)), (.int (1 : Int32)), (.ref a3)]) := fun t k => pre30 t (st31 t k)
  have pre32 : Go p.tables e below S0 T31 (mkF m 30 #[vR a0, vR a1, vI p2, vR a3, vI (1 : Int32)] [(.int (1 : Int32)), (.ref as), (.long ([x0, x1, x2, x3].getD ((p2 + c1)).toNatClampNeg 0)), (.int (1 : Int32)), (.ref a3)]) := fun t k => pre31 t (by
    refine XS.iload X31.here hx rfl (hb hby d3_28) rfl ?_
    exact k)
  obtain ⟨cl33, Ar33, q33, S33, M33, H33, G33⟩ := id f19_5
  have in33 : ¬ ((1 : Int32) < 0 ∨ cl33.slots.size ≤ ((1 : Int32)).toNatClampNeg) := inb_of S33 ⟨by decide, by decide⟩
  have at33 : cl33.slots[((1 : Int32)).toNatClampNeg]? = some (.int u1) := H33.at in33 rfl
  have pre34 : Go p.tables e below S0 T31 (mkF m 33 #[vR a0, vR a1, vI p2, vR a3, vI (1 : Int32)] [(.ref a0), (.long ((([x0, x1, x2, x3].getD ((p2 + c1)).toNatClampNeg 0).toUInt64 >>> (u1 &&& 0x3f).toInt64.toUInt64).toInt64)), (.int (1 : Int32)), (.ref a3)]) := fun t k => pre32 t (by
    refine X31.iaload hx (j := (1 : Int32)) (v := (.int u1)) (by rw [e31]; exact Ar33.1) (State.isArrayOf_alike hZ.alike Ar33.2.1) Ar33.2.2 in33 at33 (g := (mkF m 30 #[vR a0, vR a1, vI p2, vR a3, vI (1 : Int32)] [(.int (1 : Int32)), (.ref as), (.long ([x0, x1, x2, x3].getD ((p2 + c1)).toNatClampNeg 0)), (.int (1 : Int32)), (.ref a3)])) rfl rfl (hb hby d3_30) _ ?_
    refine XS.lushr X31.here hx rfl (hb hby d3_31) rfl ?_
    refine XS.aloadN X31.here hx rfl (hb hby d3_32) rfl rfl ?_
    show Steps p.tables e below (T31.setTop (mkF m 33 #[vR a0, vR a1, vI p2, vR a3, vI (1 : Int32)] [(.ref a0), (.long ((([x0, x1, x2, x3].getD ((p2 + c1)).toNatClampNeg 0).toUInt64 >>> (u1 &&& 0x3f).toInt64.toUInt64).toInt64)), (.int (1 : Int32)), (.ref a3)])) _
    exact k)
  obtain ⟨T35, X35, e35, st35⟩ := getF X31 hx hZ hown (host := "") (Or.inl (hw _ (List.mem_of_getElem? (i := 18) rfl))) Via.refl e31 f19_3 (g := (mkF m 33 #[vR a0, vR a1, vI p2, vR a3, vI (1 : Int32)] [(.ref a0), (.long ((([x0, x1, x2, x3].getD ((p2 + c1)).toNatClampNeg 0).toUInt64 >>> (u1 &&& 0x3f).toInt64.toUInt64).toInt64)), (.int (1 : Int32)), (.ref a3)])) rfl rfl (hb hby d3_33)
  have pre35 : Go p.tables e below S0 T35 (mkF m 36 #[vR a0, vR a1, vI p2, vR a3, vI (1 : Int32)] [(.ref am), (.long ((([x0, x1, x2, x3].getD ((p2 + c1)).toNatClampNeg 0).toUInt64 >>> (u1 &&& 0x3f).toInt64.toUInt64).toInt64)), (.int (1 : Int32)), (.ref a3)]) := fun t k => pre34 t (st35 t k)
  have pre36 : Go p.tables e below S0 T35 (mkF m 38 #[vR a0, vR a1, vI p2, vR a3, vI (1 : Int32)] [(.int (1 : Int32)), (.ref am), (.long ((([x0, x1, x2, x3].getD ((p2 + c1)).toNatClampNeg 0).toUInt64 >>> (u1 &&& 0x3f).toInt64.toUInt64).toInt64)), (.int (1 : Int32)), (.ref a3)]) := fun t k => pre35 t (by
    refine XS.iload X35.here hx rfl (hb hby d3_36) rfl ?_
    exact k)
  obtain ⟨cl37, Ar37, q37, S37, M37, H37, G37⟩ := id f19_6
  have in37 : ¬ ((1 : Int32) < 0 ∨ cl37.slots.size ≤ ((1 : Int32)).toNatClampNeg) := inb_of S37 ⟨by decide, by decide⟩
  have at37 : cl37.slots[((1 : Int32)).toNatClampNeg]? = some (.long m1) := H37.at in37 rfl
  have pre38 : Go p.tables e below S0 T35 (mkF m 41 #[vR a0, vR a1, vI p2, vR a3, vI (1 : Int32)] [(.int ((((([x0, x1, x2, x3].getD ((p2 + c1)).toNatClampNeg 0).toUInt64 >>> (u1 &&& 0x3f).toInt64.toUInt64).toInt64) &&& m1).toInt32)), (.int (1 : Int32)), (.ref a3)]) := fun t k => pre36 t (by
    refine X35.laload hx (j := (1 : Int32)) (v := (.long m1)) (by rw [e35]; exact Ar37.1) (State.isArrayOf_alike hZ.alike Ar37.2.1) Ar37.2.2 in37 at37 (g := (mkF m 38 #[vR a0, vR a1, vI p2, vR a3, vI (1 : Int32)] [(.int (1 : Int32)), (.ref am), (.long ((([x0, x1, x2, x3].getD ((p2 + c1)).toNatClampNeg 0).toUInt64 >>> (u1 &&& 0x3f).toInt64.toUInt64).toInt64)), (.int (1 : Int32)), (.ref a3)])) rfl rfl (hb hby d3_38) _ ?_
    refine XS.land X35.here hx rfl (hb hby d3_39) rfl ?_
    refine XS.l2i X35.here hx rfl (hb hby d3_40) rfl ?_
    show Steps p.tables e below (T35.setTop (mkF m 41 #[vR a0, vR a1, vI p2, vR a3, vI (1 : Int32)] [(.int ((((([x0, x1, x2, x3].getD ((p2 + c1)).toNatClampNeg 0).toUInt64 >>> (u1 &&& 0x3f).toInt64.toUInt64).toInt64) &&& m1).toInt32)), (.int (1 : Int32)), (.ref a3)])) _
    exact k)
  obtain ⟨cl39, Ar39, q39, S39, M39, H39, G39⟩ := id av18
  have in39 : ¬ ((1 : Int32) < 0 ∨ cl39.slots.size ≤ ((1 : Int32)).toNatClampNeg) := inb_of S39 ⟨by decide, by decide⟩
  obtain ⟨T39, h39, X39, e39, W39, st39⟩ := stI X35 hx hZ e35 Ar39 (j := (1 : Int32)) in39 (g := (mkF m 41 #[vR a0, vR a1, vI p2, vR a3, vI (1 : Int32)] [(.int ((((([x0, x1, x2, x3].getD ((p2 + c1)).toNatClampNeg 0).toUInt64 >>> (u1 &&& 0x3f).toInt64.toUInt64).toInt64) &&& m1).toInt32)), (.int (1 : Int32)), (.ref a3)])) rfl rfl (hb hby d3_41)
  have pre39 : Go p.tables e below S0 T39 (mkF m 42 #[vR a0, vR a1, vI p2, vR a3, vI (1 : Int32)] []) := fun t k => pre38 t (st39 t k)
  obtain ⟨lo39, N39, X39⟩ : ∃ lo, Fr n0 lo ∧ Stand p l e ({ frames := 0, cells := 0, slots := 0, locals := 0 } : Room) s m #[(.ref a0), (.ref a1), (.int p2), (.ref a3)] below meth c T39 lo 0 0 := ⟨_, Fr.snoc X39 N18 g0, X39⟩
  have av39 : Arv Z h39 a3 k3 .int (4 : Int32) [(.int ((((([x0, x1, x2, x3].getD ((p2 + c0)).toNatClampNeg 0).toUInt64 >>> (u0 &&& 0x3f).toInt64.toUInt64).toInt64) &&& m0).toInt32)), (.int ((((([x0, x1, x2, x3].getD ((p2 + c1)).toNatClampNeg 0).toUInt64 >>> (u1 &&& 0x3f).toInt64.toUInt64).toInt64) &&& m1).toInt32)), (.int y2), (.int y3)] (.int (0 : Int32)) := Arv.set Ar39 q39 S39 M39 H39 G39 rfl W39 1 rfl (Nat.le_of_ble_eq_true rfl)
  have f40_1 := Fld.other W39 f19_1 (Or.inl xe0)
  have f40_2 := Fld.other W39 f19_2 (Or.inl xe0)
  have f40_3 := Fld.other W39 f19_3 (Or.inl xe0)
  have f40_4 := f19_4.other W39 xe1
  have f40_5 := f19_5.other W39 xe2
  have f40_6 := f19_6.other W39 xe3
  have f40_7 := f19_7.other W39 xe4
  have zz41 : n0 ≤ h39.size := Nat.le_trans zz20 (Keep.of_wr W39).1
  have kp42 : Keep h0 h39 [a3] := kp21.wr W39 (Or.inl (List.mem_of_getElem? (i := 0) rfl))
  have pre43 : Go p.tables e below S0 T39 (mkF m 6 #[vR a0, vR a1, vI p2, vR a3, vI (2 : Int32)] [(.ref a3), (.int (2 : Int32))]) := fun t k => pre39 t (by
    refine XS.iinc X39.here hx rfl (hb hby d3_42) rfl (l' := #[vR a0, vR a1, vI p2, vR a3, vI (2 : Int32)]) rfl ?_
    refine XS.goto X39.here hx rfl (pc0 := 45) (pc' := 3) rfl (hb hby d3_45) (by decide) (by decide) ?_
    refine XS.iload X39.here hx rfl (hb hby d3_3) rfl ?_
    show Steps p.tables e below (T39.setTop (mkF m 5 #[vR a0, vR a1, vI p2, vR a3, vI (2 : Int32)] [(.int (2 : Int32))])) _
    refine XS.aloadN X39.here hx rfl (hb hby d3_5) rfl rfl ?_
    exact k)
  obtain ⟨cl44, Ar44, q44, S44, M44, H44, G44⟩ := id av39
  have pre45 : Go p.tables e below S0 T39 (mkF m 16 #[vR a0, vR a1, vI p2, vR a3, vI (2 : Int32)] [(.ref a0), (.int p2), (.ref a1), (.int (2 : Int32)), (.ref a3)]) := fun t k => pre43 t (by
    refine X39.arraylength hx (by rw [e39]; exact Ar44.1) (State.isArrayOf_alike hZ.alike Ar44.2.1) (g := (mkF m 6 #[vR a0, vR a1, vI p2, vR a3, vI (2 : Int32)] [(.ref a3), (.int (2 : Int32))])) rfl rfl (hb hby d3_6) _ ?_
    rw [len_of S44 M44]
    refine XS.icmpNo X39.here hx rfl (hb hby d3_7) rfl (tlt (by decide : (2 : Int32) < (4 : Int32))).2.1 ?_
    refine XS.aloadN X39.here hx rfl (hb hby d3_10) rfl rfl ?_
    show Steps p.tables e below (T39.setTop (mkF m 11 #[vR a0, vR a1, vI p2, vR a3, vI (2 : Int32)] [(.ref a3)])) _
    refine XS.iload X39.here hx rfl (hb hby d3_11) rfl ?_
    refine XS.aloadN X39.here hx rfl (hb hby d3_13) rfl rfl ?_
    refine XS.iloadN X39.here hx rfl (hb hby d3_14) rfl ?_
    show Steps p.tables e below (T39.setTop (mkF m 15 #[vR a0, vR a1, vI p2, vR a3, vI (2 : Int32)] [(.int p2), (.ref a1), (.int (2 : Int32)), (.ref a3)])) _
    refine XS.aloadN X39.here hx rfl (hb hby d3_15) rfl rfl ?_
    exact k)
  obtain ⟨T46, X46, e46, st46⟩ := getF X39 hx hZ hown (host := "") (Or.inl (hw _ (List.mem_of_getElem? (i := 14) rfl))) Via.refl e39 f40_1 (g := (mkF m 16 #[vR a0, vR a1, vI p2, vR a3, vI (2 : Int32)] [(.ref a0), (.int p2), (.ref a1), (.int (2 : Int32)), (.ref a3)])) rfl rfl (hb hby d3_16)
  have pre46 : Go p.tables e below S0 T46 (mkF m 19 #[vR a0, vR a1, vI p2, vR a3, vI (2 : Int32)] [(.ref aw), (.int p2), (.ref a1), (.int (2 : Int32)), (.ref a3)]) := fun t k => pre45 t (st46 t k)
  have pre47 : Go p.tables e below S0 T46 (mkF m 21 #[vR a0, vR a1, vI p2, vR a3, vI (2 : Int32)] [(.int (2 : Int32)), (.ref aw), (.int p2), (.ref a1), (.int (2 : Int32)), (.ref a3)]) := fun t k => pre46 t (by
    refine XS.iload X46.here hx rfl (hb hby d3_19) rfl ?_
    exact k)
  obtain ⟨cl48, Ar48, q48, S48, M48, H48, G48⟩ := id f40_4
  have in48 : ¬ ((2 : Int32) < 0 ∨ cl48.slots.size ≤ ((2 : Int32)).toNatClampNeg) := inb_of S48 ⟨by decide, by decide⟩
  have at48 : cl48.slots[((2 : Int32)).toNatClampNeg]? = some (.int c2) := H48.at in48 rfl
  have pre49 : Go p.tables e below S0 T46 (mkF m 23 #[vR a0, vR a1, vI p2, vR a3, vI (2 : Int32)] [(.int (p2 + c2)), (.ref a1), (.int (2 : Int32)), (.ref a3)]) := fun t k => pre47 t (by
    refine X46.iaload hx (j := (2 : Int32)) (v := (.int c2)) (by rw [e46]; exact Ar48.1) (State.isArrayOf_alike hZ.alike Ar48.2.1) Ar48.2.2 in48 at48 (g := (mkF m 21 #[vR a0, vR a1, vI p2, vR a3, vI (2 : Int32)] [(.int (2 : Int32)), (.ref aw), (.int p2), (.ref a1), (.int (2 : Int32)), (.ref a3)])) rfl rfl (hb hby d3_21) _ ?_
    refine XS.iadd X46.here hx rfl (hb hby d3_22) rfl ?_
    exact k)
  obtain ⟨cl50, Ar50, q50, S50, M50, H50, G50⟩ := id f40_7
  have in50 : ¬ ((p2 + c2) < 0 ∨ cl50.slots.size ≤ ((p2 + c2)).toNatClampNeg) := inb_of S50 hin2
  have at50 : cl50.slots[((p2 + c2)).toNatClampNeg]? = some (.long ([x0, x1, x2, x3].getD ((p2 + c2)).toNatClampNeg 0)) := H50.at in50 (own_getJ [x0, x1, x2, x3] _)
  have pre51 : Go p.tables e below S0 T46 (mkF m 25 #[vR a0, vR a1, vI p2, vR a3, vI (2 : Int32)] [(.ref a0), (.long ([x0, x1, x2, x3].getD ((p2 + c2)).toNatClampNeg 0)), (.int (2 : Int32)), (.ref a3)]) := fun t k => pre49 t (by
    refine X46.laload hx (j := (p2 + c2)) (v := (.long ([x0, x1, x2, x3].getD ((p2 + c2)).toNatClampNeg 0))) (by rw [e46]; exact Ar50.1) (State.isArrayOf_alike hZ.alike Ar50.2.1) Ar50.2.2 in50 at50 (g := (mkF m 23 #[vR a0, vR a1, vI p2, vR a3, vI (2 : Int32)] [(.int (p2 + c2)), (.ref a1), (.int (2 : Int32)), (.ref a3)])) rfl rfl (hb hby d3_23) _ ?_
    refine XS.aloadN X46.here hx rfl (hb hby d3_24) rfl rfl ?_
    exact k)
  obtain ⟨T52, X52, e52, st52⟩ := getF X46 hx hZ hown (host := "") (Or.inl (hw _ (List.mem_of_getElem? (i := 16) rfl))) Via.refl e46 f40_2 (g := (mkF m 25 #[vR a0, vR a1, vI p2, vR a3, vI (2 : Int32)] [(.ref a0), (.long ([x0, x1, x2, x3].getD ((p2 + c2)).toNatClampNeg 0)), (.int (2 : Int32)), (.ref a3)])) rfl rfl (hb hby d3_25)
  have pre52 : Go p.tables e below S0 T52 (mkF m 28 #[vR a0, vR a1, vI p2, vR a3, vI (2 : Int32)] [(.ref as), (.long ([x0, x1, x2, x3].getD ((p2 + c2)).toNatClampNeg 0)), (.int (2 : Int32)), (.ref a3)]) := fun t k => pre51 t (st52 t k)
  have pre53 : Go p.tables e below S0 T52 (mkF m 30 #[vR a0, vR a1, vI p2, vR a3, vI (2 : Int32)] [(.int (2 : Int32)), (.ref as), (.long ([x0, x1, x2, x3].getD ((p2 + c2)).toNatClampNeg 0)), (.int (2 : Int32)), (.ref a3)]) := fun t k => pre52 t (by
    refine XS.iload X52.here hx rfl (hb hby d3_28) rfl ?_
    exact k)
  obtain ⟨cl54, Ar54, q54, S54, M54, H54, G54⟩ := id f40_5
  have in54 : ¬ ((2 : Int32) < 0 ∨ cl54.slots.size ≤ ((2 : Int32)).toNatClampNeg) := inb_of S54 ⟨by decide, by decide⟩
  have at54 : cl54.slots[((2 : Int32)).toNatClampNeg]? = some (.int u2) := H54.at in54 rfl
  have pre55 : Go p.tables e below S0 T52 (mkF m 33 #[vR a0, vR a1, vI p2, vR a3, vI (2 : Int32)] [(.ref a0), (.long ((([x0, x1, x2, x3].getD ((p2 + c2)).toNatClampNeg 0).toUInt64 >>> (u2 &&& 0x3f).toInt64.toUInt64).toInt64)), (.int (2 : Int32)), (.ref a3)]) := fun t k => pre53 t (by
    refine X52.iaload hx (j := (2 : Int32)) (v := (.int u2)) (by rw [e52]; exact Ar54.1) (State.isArrayOf_alike hZ.alike Ar54.2.1) Ar54.2.2 in54 at54 (g := (mkF m 30 #[vR a0, vR a1, vI p2, vR a3, vI (2 : Int32)] [(.int (2 : Int32)), (.ref as), (.long ([x0, x1, x2, x3].getD ((p2 + c2)).toNatClampNeg 0)), (.int (2 : Int32)), (.ref a3)])) rfl rfl (hb hby d3_30) _ ?_
    refine XS.lushr X52.here hx rfl (hb hby d3_31) rfl ?_
    refine XS.aloadN X52.here hx rfl (hb hby d3_32) rfl rfl ?_
    show Steps p.tables e below (T52.setTop (mkF m 33 #[vR a0, vR a1, vI p2, vR a3, vI (2 : Int32)] [(.ref a0), (.long ((([x0, x1, x2, x3].getD ((p2 + c2)).toNatClampNeg 0).toUInt64 >>> (u2 &&& 0x3f).toInt64.toUInt64).toInt64)), (.int (2 : Int32)), (.ref a3)])) _
    exact k)
  obtain ⟨T56, X56, e56, st56⟩ := getF X52 hx hZ hown (host := "") (Or.inl (hw _ (List.mem_of_getElem? (i := 18) rfl))) Via.refl e52 f40_3 (g := (mkF m 33 #[vR a0, vR a1, vI p2, vR a3, vI (2 : Int32)] [(.ref a0), (.long ((([x0, x1, x2, x3].getD ((p2 + c2)).toNatClampNeg 0).toUInt64 >>> (u2 &&& 0x3f).toInt64.toUInt64).toInt64)), (.int (2 : Int32)), (.ref a3)])) rfl rfl (hb hby d3_33)
  have pre56 : Go p.tables e below S0 T56 (mkF m 36 #[vR a0, vR a1, vI p2, vR a3, vI (2 : Int32)] [(.ref am), (.long ((([x0, x1, x2, x3].getD ((p2 + c2)).toNatClampNeg 0).toUInt64 >>> (u2 &&& 0x3f).toInt64.toUInt64).toInt64)), (.int (2 : Int32)), (.ref a3)]) := fun t k => pre55 t (st56 t k)
  have pre57 : Go p.tables e below S0 T56 (mkF m 38 #[vR a0, vR a1, vI p2, vR a3, vI (2 : Int32)] [(.int (2 : Int32)), (.ref am), (.long ((([x0, x1, x2, x3].getD ((p2 + c2)).toNatClampNeg 0).toUInt64 >>> (u2 &&& 0x3f).toInt64.toUInt64).toInt64)), (.int (2 : Int32)), (.ref a3)]) := fun t k => pre56 t (by
    refine XS.iload X56.here hx rfl (hb hby d3_36) rfl ?_
    exact k)
  obtain ⟨cl58, Ar58, q58, S58, M58, H58, G58⟩ := id f40_6
  have in58 : ¬ ((2 : Int32) < 0 ∨ cl58.slots.size ≤ ((2 : Int32)).toNatClampNeg) := inb_of S58 ⟨by decide, by decide⟩
  have at58 : cl58.slots[((2 : Int32)).toNatClampNeg]? = some (.long m2) := H58.at in58 rfl
  have pre59 : Go p.tables e below S0 T56 (mkF m 41 #[vR a0, vR a1, vI p2, vR a3, vI (2 : Int32)] [(.int ((((([x0, x1, x2, x3].getD ((p2 + c2)).toNatClampNeg 0).toUInt64 >>> (u2 &&& 0x3f).toInt64.toUInt64).toInt64) &&& m2).toInt32)), (.int (2 : Int32)), (.ref a3)]) := fun t k => pre57 t (by
    refine X56.laload hx (j := (2 : Int32)) (v := (.long m2)) (by rw [e56]; exact Ar58.1) (State.isArrayOf_alike hZ.alike Ar58.2.1) Ar58.2.2 in58 at58 (g := (mkF m 38 #[vR a0, vR a1, vI p2, vR a3, vI (2 : Int32)] [(.int (2 : Int32)), (.ref am), (.long ((([x0, x1, x2, x3].getD ((p2 + c2)).toNatClampNeg 0).toUInt64 >>> (u2 &&& 0x3f).toInt64.toUInt64).toInt64)), (.int (2 : Int32)), (.ref a3)])) rfl rfl (hb hby d3_38) _ ?_
    refine XS.land X56.here hx rfl (hb hby d3_39) rfl ?_
    refine XS.l2i X56.here hx rfl (hb hby d3_40) rfl ?_
    show Steps p.tables e below (T56.setTop (mkF m 41 #[vR a0, vR a1, vI p2, vR a3, vI (2 : Int32)] [(.int ((((([x0, x1, x2, x3].getD ((p2 + c2)).toNatClampNeg 0).toUInt64 >>> (u2 &&& 0x3f).toInt64.toUInt64).toInt64) &&& m2).toInt32)), (.int (2 : Int32)), (.ref a3)])) _
    exact k)
  obtain ⟨cl60, Ar60, q60, S60, M60, H60, G60⟩ := id av39
  have in60 : ¬ ((2 : Int32) < 0 ∨ cl60.slots.size ≤ ((2 : Int32)).toNatClampNeg) := inb_of S60 ⟨by decide, by decide⟩
  obtain ⟨T60, h60, X60, e60, W60, st60⟩ := stI X56 hx hZ e56 Ar60 (j := (2 : Int32)) in60 (g := (mkF m 41 #[vR a0, vR a1, vI p2, vR a3, vI (2 : Int32)] [(.int ((((([x0, x1, x2, x3].getD ((p2 + c2)).toNatClampNeg 0).toUInt64 >>> (u2 &&& 0x3f).toInt64.toUInt64).toInt64) &&& m2).toInt32)), (.int (2 : Int32)), (.ref a3)])) rfl rfl (hb hby d3_41)
  have pre60 : Go p.tables e below S0 T60 (mkF m 42 #[vR a0, vR a1, vI p2, vR a3, vI (2 : Int32)] []) := fun t k => pre59 t (st60 t k)
  obtain ⟨lo60, N60, X60⟩ : ∃ lo, Fr n0 lo ∧ Stand p l e ({ frames := 0, cells := 0, slots := 0, locals := 0 } : Room) s m #[(.ref a0), (.ref a1), (.int p2), (.ref a3)] below meth c T60 lo 0 0 := ⟨_, Fr.snoc X60 N39 g0, X60⟩
  have av60 : Arv Z h60 a3 k3 .int (4 : Int32) [(.int ((((([x0, x1, x2, x3].getD ((p2 + c0)).toNatClampNeg 0).toUInt64 >>> (u0 &&& 0x3f).toInt64.toUInt64).toInt64) &&& m0).toInt32)), (.int ((((([x0, x1, x2, x3].getD ((p2 + c1)).toNatClampNeg 0).toUInt64 >>> (u1 &&& 0x3f).toInt64.toUInt64).toInt64) &&& m1).toInt32)), (.int ((((([x0, x1, x2, x3].getD ((p2 + c2)).toNatClampNeg 0).toUInt64 >>> (u2 &&& 0x3f).toInt64.toUInt64).toInt64) &&& m2).toInt32)), (.int y3)] (.int (0 : Int32)) := Arv.set Ar60 q60 S60 M60 H60 G60 rfl W60 2 rfl (Nat.le_of_ble_eq_true rfl)
  have f61_1 := Fld.other W60 f40_1 (Or.inl xe0)
  have f61_2 := Fld.other W60 f40_2 (Or.inl xe0)
  have f61_3 := Fld.other W60 f40_3 (Or.inl xe0)
  have f61_4 := f40_4.other W60 xe1
  have f61_5 := f40_5.other W60 xe2
  have f61_6 := f40_6.other W60 xe3
  have f61_7 := f40_7.other W60 xe4
  have zz62 : n0 ≤ h60.size := Nat.le_trans zz41 (Keep.of_wr W60).1
  have kp63 : Keep h0 h60 [a3] := kp42.wr W60 (Or.inl (List.mem_of_getElem? (i := 0) rfl))
  have pre64 : Go p.tables e below S0 T60 (mkF m 6 #[vR a0, vR a1, vI p2, vR a3, vI (3 : Int32)] [(.ref a3), (.int (3 : Int32))]) := fun t k => pre60 t (by
    refine XS.iinc X60.here hx rfl (hb hby d3_42) rfl (l' := #[vR a0, vR a1, vI p2, vR a3, vI (3 : Int32)]) rfl ?_
    refine XS.goto X60.here hx rfl (pc0 := 45) (pc' := 3) rfl (hb hby d3_45) (by decide) (by decide) ?_
    refine XS.iload X60.here hx rfl (hb hby d3_3) rfl ?_
    show Steps p.tables e below (T60.setTop (mkF m 5 #[vR a0, vR a1, vI p2, vR a3, vI (3 : Int32)] [(.int (3 : Int32))])) _
    refine XS.aloadN X60.here hx rfl (hb hby d3_5) rfl rfl ?_
    exact k)
  obtain ⟨cl65, Ar65, q65, S65, M65, H65, G65⟩ := id av60
  have pre66 : Go p.tables e below S0 T60 (mkF m 16 #[vR a0, vR a1, vI p2, vR a3, vI (3 : Int32)] [(.ref a0), (.int p2), (.ref a1), (.int (3 : Int32)), (.ref a3)]) := fun t k => pre64 t (by
    refine X60.arraylength hx (by rw [e60]; exact Ar65.1) (State.isArrayOf_alike hZ.alike Ar65.2.1) (g := (mkF m 6 #[vR a0, vR a1, vI p2, vR a3, vI (3 : Int32)] [(.ref a3), (.int (3 : Int32))])) rfl rfl (hb hby d3_6) _ ?_
    rw [len_of S65 M65]
    refine XS.icmpNo X60.here hx rfl (hb hby d3_7) rfl (tlt (by decide : (3 : Int32) < (4 : Int32))).2.1 ?_
    refine XS.aloadN X60.here hx rfl (hb hby d3_10) rfl rfl ?_
    show Steps p.tables e below (T60.setTop (mkF m 11 #[vR a0, vR a1, vI p2, vR a3, vI (3 : Int32)] [(.ref a3)])) _
    refine XS.iload X60.here hx rfl (hb hby d3_11) rfl ?_
    refine XS.aloadN X60.here hx rfl (hb hby d3_13) rfl rfl ?_
    refine XS.iloadN X60.here hx rfl (hb hby d3_14) rfl ?_
    show Steps p.tables e below (T60.setTop (mkF m 15 #[vR a0, vR a1, vI p2, vR a3, vI (3 : Int32)] [(.int p2), (.ref a1), (.int (3 : Int32)), (.ref a3)])) _
    refine XS.aloadN X60.here hx rfl (hb hby d3_15) rfl rfl ?_
    exact k)
  obtain ⟨T67, X67, e67, st67⟩ := getF X60 hx hZ hown (host := "") (Or.inl (hw _ (List.mem_of_getElem? (i := 14) rfl))) Via.refl e60 f61_1 (g := (mkF m 16 #[vR a0, vR a1, vI p2, vR a3, vI (3 : Int32)] [(.ref a0), (.int p2), (.ref a1), (.int (3 : Int32)), (.ref a3)])) rfl rfl (hb hby d3_16)
  have pre67 : Go p.tables e below S0 T67 (mkF m 19 #[vR a0, vR a1, vI p2, vR a3, vI (3 : Int32)] [(.ref aw), (.int p2), (.ref a1), (.int (3 : Int32)), (.ref a3)]) := fun t k => pre66 t (st67 t k)
  have pre68 : Go p.tables e below S0 T67 (mkF m 21 #[vR a0, vR a1, vI p2, vR a3, vI (3 : Int32)] [(.int (3 : Int32)), (.ref aw), (.int p2), (.ref a1), (.int (3 : Int32)), (.ref a3)]) := fun t k => pre67 t (by
    refine XS.iload X67.here hx rfl (hb hby d3_19) rfl ?_
    exact k)
  obtain ⟨cl69, Ar69, q69, S69, M69, H69, G69⟩ := id f61_4
  have in69 : ¬ ((3 : Int32) < 0 ∨ cl69.slots.size ≤ ((3 : Int32)).toNatClampNeg) := inb_of S69 ⟨by decide, by decide⟩
  have at69 : cl69.slots[((3 : Int32)).toNatClampNeg]? = some (.int c3) := H69.at in69 rfl
  have pre70 : Go p.tables e below S0 T67 (mkF m 23 #[vR a0, vR a1, vI p2, vR a3, vI (3 : Int32)] [(.int (p2 + c3)), (.ref a1), (.int (3 : Int32)), (.ref a3)]) := fun t k => pre68 t (by
    refine X67.iaload hx (j := (3 : Int32)) (v := (.int c3)) (by rw [e67]; exact Ar69.1) (State.isArrayOf_alike hZ.alike Ar69.2.1) Ar69.2.2 in69 at69 (g := (mkF m 21 #[vR a0, vR a1, vI p2, vR a3, vI (3 : Int32)] [(.int (3 : Int32)), (.ref aw), (.int p2), (.ref a1), (.int (3 : Int32)), (.ref a3)])) rfl rfl (hb hby d3_21) _ ?_
    refine XS.iadd X67.here hx rfl (hb hby d3_22) rfl ?_
    exact k)
  obtain ⟨cl71, Ar71, q71, S71, M71, H71, G71⟩ := id f61_7
  have in71 : ¬ ((p2 + c3) < 0 ∨ cl71.slots.size ≤ ((p2 + c3)).toNatClampNeg) := inb_of S71 hin3
  have at71 : cl71.slots[((p2 + c3)).toNatClampNeg]? = some (.long ([x0, x1, x2, x3].getD ((p2 + c3)).toNatClampNeg 0)) := H71.at in71 (own_getJ [x0, x1, x2, x3] _)
  have pre72 : Go p.tables e below S0 T67 (mkF m 25 #[vR a0, vR a1, vI p2, vR a3, vI (3 : Int32)] [(.ref a0), (.long ([x0, x1, x2, x3].getD ((p2 + c3)).toNatClampNeg 0)), (.int (3 : Int32)), (.ref a3)]) := fun t k => pre70 t (by
    refine X67.laload hx (j := (p2 + c3)) (v := (.long ([x0, x1, x2, x3].getD ((p2 + c3)).toNatClampNeg 0))) (by rw [e67]; exact Ar71.1) (State.isArrayOf_alike hZ.alike Ar71.2.1) Ar71.2.2 in71 at71 (g := (mkF m 23 #[vR a0, vR a1, vI p2, vR a3, vI (3 : Int32)] [(.int (p2 + c3)), (.ref a1), (.int (3 : Int32)), (.ref a3)])) rfl rfl (hb hby d3_23) _ ?_
    refine XS.aloadN X67.here hx rfl (hb hby d3_24) rfl rfl ?_
    exact k)
  obtain ⟨T73, X73, e73, st73⟩ := getF X67 hx hZ hown (host := "") (Or.inl (hw _ (List.mem_of_getElem? (i := 16) rfl))) Via.refl e67 f61_2 (g := (mkF m 25 #[vR a0, vR a1, vI p2, vR a3, vI (3 : Int32)] [(.ref a0), (.long ([x0, x1, x2, x3].getD ((p2 + c3)).toNatClampNeg 0)), (.int (3 : Int32)), (.ref a3)])) rfl rfl (hb hby d3_25)
  have pre73 : Go p.tables e below S0 T73 (mkF m 28 #[vR a0, vR a1, vI p2, vR a3, vI (3 : Int32)] [(.ref as), (.long ([x0, x1, x2, x3].getD ((p2 + c3)).toNatClampNeg 0)), (.int (3 : Int32)), (.ref a3)]) := fun t k => pre72 t (st73 t k)
  have pre74 : Go p.tables e below S0 T73 (mkF m 30 #[vR a0, vR a1, vI p2, vR a3, vI (3 : Int32)] [(.int (3 : Int32)), (.ref as), (.long ([x0, x1, x2, x3].getD ((p2 + c3)).toNatClampNeg 0)), (.int (3 : Int32)), (.ref a3)]) := fun t k => pre73 t (by
    refine XS.iload X73.here hx rfl (hb hby d3_28) rfl ?_
    exact k)
  obtain ⟨cl75, Ar75, q75, S75, M75, H75, G75⟩ := id f61_5
  have in75 : ¬ ((3 : Int32) < 0 ∨ cl75.slots.size ≤ ((3 : Int32)).toNatClampNeg) := inb_of S75 ⟨by decide, by decide⟩
  have at75 : cl75.slots[((3 : Int32)).toNatClampNeg]? = some (.int u3) := H75.at in75 rfl
  have pre76 : Go p.tables e below S0 T73 (mkF m 33 #[vR a0, vR a1, vI p2, vR a3, vI (3 : Int32)] [(.ref a0), (.long ((([x0, x1, x2, x3].getD ((p2 + c3)).toNatClampNeg 0).toUInt64 >>> (u3 &&& 0x3f).toInt64.toUInt64).toInt64)), (.int (3 : Int32)), (.ref a3)]) := fun t k => pre74 t (by
    refine X73.iaload hx (j := (3 : Int32)) (v := (.int u3)) (by rw [e73]; exact Ar75.1) (State.isArrayOf_alike hZ.alike Ar75.2.1) Ar75.2.2 in75 at75 (g := (mkF m 30 #[vR a0, vR a1, vI p2, vR a3, vI (3 : Int32)] [(.int (3 : Int32)), (.ref as), (.long ([x0, x1, x2, x3].getD ((p2 + c3)).toNatClampNeg 0)), (.int (3 : Int32)), (.ref a3)])) rfl rfl (hb hby d3_30) _ ?_
    refine XS.lushr X73.here hx rfl (hb hby d3_31) rfl ?_
    refine XS.aloadN X73.here hx rfl (hb hby d3_32) rfl rfl ?_
    show Steps p.tables e below (T73.setTop (mkF m 33 #[vR a0, vR a1, vI p2, vR a3, vI (3 : Int32)] [(.ref a0), (.long ((([x0, x1, x2, x3].getD ((p2 + c3)).toNatClampNeg 0).toUInt64 >>> (u3 &&& 0x3f).toInt64.toUInt64).toInt64)), (.int (3 : Int32)), (.ref a3)])) _
    exact k)
  obtain ⟨T77, X77, e77, st77⟩ := getF X73 hx hZ hown (host := "") (Or.inl (hw _ (List.mem_of_getElem? (i := 18) rfl))) Via.refl e73 f61_3 (g := (mkF m 33 #[vR a0, vR a1, vI p2, vR a3, vI (3 : Int32)] [(.ref a0), (.long ((([x0, x1, x2, x3].getD ((p2 + c3)).toNatClampNeg 0).toUInt64 >>> (u3 &&& 0x3f).toInt64.toUInt64).toInt64)), (.int (3 : Int32)), (.ref a3)])) rfl rfl (hb hby d3_33)
  have pre77 : Go p.tables e below S0 T77 (mkF m 36 #[vR a0, vR a1, vI p2, vR a3, vI (3 : Int32)] [(.ref am), (.long ((([x0, x1, x2, x3].getD ((p2 + c3)).toNatClampNeg 0).toUInt64 >>> (u3 &&& 0x3f).toInt64.toUInt64).toInt64)), (.int (3 : Int32)), (.ref a3)]) := fun t k => pre76 t (st77 t k)
  have pre78 : Go p.tables e below S0 T77 (mkF m 38 #[vR a0, vR a1, vI p2, vR a3, vI (3 : Int32)] [(.int (3 : Int32)), (.ref am), (.long ((([x0, x1, x2, x3].getD ((p2 + c3)).toNatClampNeg 0).toUInt64 >>> (u3 &&& 0x3f).toInt64.toUInt64).toInt64)), (.int (3 : Int32)), (.ref a3)]) := fun t k => pre77 t (by
    refine XS.iload X77.here hx rfl (hb hby d3_36) rfl ?_
    exact k)
  obtain ⟨cl79, Ar79, q79, S79, M79, H79, G79⟩ := id f61_6
  have in79 : ¬ ((3 : Int32) < 0 ∨ cl79.slots.size ≤ ((3 : Int32)).toNatClampNeg) := inb_of S79 ⟨by decide, by decide⟩
  have at79 : cl79.slots[((3 : Int32)).toNatClampNeg]? = some (.long m3) := H79.at in79 rfl
  have pre80 : Go p.tables e below S0 T77 (mkF m 41 #[vR a0, vR a1, vI p2, vR a3, vI (3 : Int32)] [(.int ((((([x0, x1, x2, x3].getD ((p2 + c3)).toNatClampNeg 0).toUInt64 >>> (u3 &&& 0x3f).toInt64.toUInt64).toInt64) &&& m3).toInt32)), (.int (3 : Int32)), (.ref a3)]) := fun t k => pre78 t (by
    refine X77.laload hx (j := (3 : Int32)) (v := (.long m3)) (by rw [e77]; exact Ar79.1) (State.isArrayOf_alike hZ.alike Ar79.2.1) Ar79.2.2 in79 at79 (g := (mkF m 38 #[vR a0, vR a1, vI p2, vR a3, vI (3 : Int32)] [(.int (3 : Int32)), (.ref am), (.long ((([x0, x1, x2, x3].getD ((p2 + c3)).toNatClampNeg 0).toUInt64 >>> (u3 &&& 0x3f).toInt64.toUInt64).toInt64)), (.int (3 : Int32)), (.ref a3)])) rfl rfl (hb hby d3_38) _ ?_
    refine XS.land X77.here hx rfl (hb hby d3_39) rfl ?_
    refine XS.l2i X77.here hx rfl (hb hby d3_40) rfl ?_
    show Steps p.tables e below (T77.setTop (mkF m 41 #[vR a0, vR a1, vI p2, vR a3, vI (3 : Int32)] [(.int ((((([x0, x1, x2, x3].getD ((p2 + c3)).toNatClampNeg 0).toUInt64 >>> (u3 &&& 0x3f).toInt64.toUInt64).toInt64) &&& m3).toInt32)), (.int (3 : Int32)), (.ref a3)])) _
    exact k)
  obtain ⟨cl81, Ar81, q81, S81, M81, H81, G81⟩ := id av60
  have in81 : ¬ ((3 : Int32) < 0 ∨ cl81.slots.size ≤ ((3 : Int32)).toNatClampNeg) := inb_of S81 ⟨by decide, by decide⟩
  obtain ⟨T81, h81, X81, e81, W81, st81⟩ := stI X77 hx hZ e77 Ar81 (j := (3 : Int32)) in81 (g := (mkF m 41 #[vR a0, vR a1, vI p2, vR a3, vI (3 : Int32)] [(.int ((((([x0, x1, x2, x3].getD ((p2 + c3)).toNatClampNeg 0).toUInt64 >>> (u3 &&& 0x3f).toInt64.toUInt64).toInt64) &&& m3).toInt32)), (.int (3 : Int32)), (.ref a3)])) rfl rfl (hb hby d3_41)
  have pre81 : Go p.tables e below S0 T81 (mkF m 42 #[vR a0, vR a1, vI p2, vR a3, vI (3 : Int32)] []) := fun t k => pre80 t (st81 t k)
  obtain ⟨lo81, N81, X81⟩ : ∃ lo, Fr n0 lo ∧ Stand p l e ({ frames := 0, cells := 0, slots := 0, locals := 0 } : Room) s m #[(.ref a0), (.ref a1), (.int p2), (.ref a3)] below meth c T81 lo 0 0 := ⟨_, Fr.snoc X81 N60 g0, X81⟩
  have av81 : Arv Z h81 a3 k3 .int (4 : Int32) [(.int ((((([x0, x1, x2, x3].getD ((p2 + c0)).toNatClampNeg 0).toUInt64 >>> (u0 &&& 0x3f).toInt64.toUInt64).toInt64) &&& m0).toInt32)), (.int ((((([x0, x1, x2, x3].getD ((p2 + c1)).toNatClampNeg 0).toUInt64 >>> (u1 &&& 0x3f).toInt64.toUInt64).toInt64) &&& m1).toInt32)), (.int ((((([x0, x1, x2, x3].getD ((p2 + c2)).toNatClampNeg 0).toUInt64 >>> (u2 &&& 0x3f).toInt64.toUInt64).toInt64) &&& m2).toInt32)), (.int ((((([x0, x1, x2, x3].getD ((p2 + c3)).toNatClampNeg 0).toUInt64 >>> (u3 &&& 0x3f).toInt64.toUInt64).toInt64) &&& m3).toInt32))] (.int (0 : Int32)) := Arv.set Ar81 q81 S81 M81 H81 G81 rfl W81 3 rfl (Nat.le_of_ble_eq_true rfl)
  have f82_1 := Fld.other W81 f61_1 (Or.inl xe0)
  have f82_2 := Fld.other W81 f61_2 (Or.inl xe0)
  have f82_3 := Fld.other W81 f61_3 (Or.inl xe0)
  have f82_4 := f61_4.other W81 xe1
  have f82_5 := f61_5.other W81 xe2
  have f82_6 := f61_6.other W81 xe3
  have f82_7 := f61_7.other W81 xe4
  have zz83 : n0 ≤ h81.size := Nat.le_trans zz62 (Keep.of_wr W81).1
  have kp84 : Keep h0 h81 [a3] := kp63.wr W81 (Or.inl (List.mem_of_getElem? (i := 0) rfl))
  have pre85 : Go p.tables e below S0 T81 (mkF m 6 #[vR a0, vR a1, vI p2, vR a3, vI (4 : Int32)] [(.ref a3), (.int (4 : Int32))]) := fun t k => pre81 t (by
    refine XS.iinc X81.here hx rfl (hb hby d3_42) rfl (l' := #[vR a0, vR a1, vI p2, vR a3, vI (4 : Int32)]) rfl ?_
    refine XS.goto X81.here hx rfl (pc0 := 45) (pc' := 3) rfl (hb hby d3_45) (by decide) (by decide) ?_
    refine XS.iload X81.here hx rfl (hb hby d3_3) rfl ?_
    show Steps p.tables e below (T81.setTop (mkF m 5 #[vR a0, vR a1, vI p2, vR a3, vI (4 : Int32)] [(.int (4 : Int32))])) _
    refine XS.aloadN X81.here hx rfl (hb hby d3_5) rfl rfl ?_
    exact k)
  obtain ⟨cl86, Ar86, q86, S86, M86, H86, G86⟩ := id av81
  have pre87 : Go p.tables e below S0 T81 (mkF m 48 #[vR a0, vR a1, vI p2, vR a3, vI (4 : Int32)] []) := fun t k => pre85 t (by
    refine X81.arraylength hx (by rw [e81]; exact Ar86.1) (State.isArrayOf_alike hZ.alike Ar86.2.1) (g := (mkF m 6 #[vR a0, vR a1, vI p2, vR a3, vI (4 : Int32)] [(.ref a3), (.int (4 : Int32))])) rfl rfl (hb hby d3_6) _ ?_
    rw [len_of S86 M86]
    refine XS.icmpYes X81.here hx rfl (pc0 := 7) (pc' := 48) rfl (hb hby d3_7) rfl (flt (by decide : ¬ ((4 : Int32) < (4 : Int32)))).2.1 (by decide) (by decide) ?_
    exact k)
  obtain ⟨fs, hr, hrun, hended, hW, hsame⟩ := X81.leave (v := none) (fun _ => rfl)
  exact ⟨_, _, pre87.fin hS0 (X81.returnOut hx Bd.returns (hb hby d3_48) hr), hrun, hended, _, _, rfl, (by
    show Q3_4 Z a0 a1 p2 a3 aw as am kw ks km k1 k3 c0 c1 c2 c3 u0 u1 u2 u3 m0 m1 m2 m3 x0 x1 x2 x3 y0 y1 y2 y3 h0 n0 _ T81.heap _
    rw [e81]
    exact ⟨rfl, N81, _, _, _, _, ⟨rfl, rfl, rfl, rfl⟩, kp84, av81⟩), ⟨_, rfl⟩, hW, hsame.mono (by decide) (by decide)⟩
theorem own_b {x b : Int32} (h : b = x &&& (31 : Int32)) : 0 ≤ b.toInt ∧ b.toInt ≤ 31 := by
  rw [h]; exact c_and x (31 : Int32) (by decide)
theorem own_o {x o : Int32} (h : o = (x &&& (3 : Int32)) % (3 : Int32)) : o = (0 : Int32) ∨ o = (1 : Int32) ∨ o = (2 : Int32) := by
  have h0 := c_and x (3 : Int32) (by decide)
  have h1 := (c_iremV (x &&& (3 : Int32)) (3 : Int32)).1 h0.1 (by decide)
  rw [← h] at h1
  simp only [← Int32.toInt_inj, Int32.reduceToInt] at *
  omega
theorem own_k {x i : Int32} (h : i = (x &&& (7 : Int32)) % (5 : Int32)) : i = (0 : Int32) ∨ i = (1 : Int32) ∨ i = (2 : Int32) ∨ i = (3 : Int32) ∨ i = (4 : Int32) := by
  have h0 := c_and x (7 : Int32) (by decide)
  have h1 := (c_iremV (x &&& (7 : Int32)) (5 : Int32)).1 h0.1 (by decide)
  rw [← h] at h1
  simp only [← Int32.toInt_inj, Int32.reduceToInt] at *
  omega
theorem own_oi {o : Int32} (h : o = (0 : Int32) ∨ o = (1 : Int32) ∨ o = (2 : Int32)) : (¬ o < 0 ∧ o < (4 : Int32)) ∧ (¬ (o + (1 : Int32)) < 0 ∧ (o + (1 : Int32)) < (4 : Int32)) := by
  rcases h with rfl | rfl | rfl <;> decide
theorem own_oc {o c : Int32} (h : o = (0 : Int32) ∨ o = (1 : Int32) ∨ o = (2 : Int32)) (hc : c = (0 : Int32) ∨ c = (1 : Int32)) : ¬ (o + c) < 0 ∧ (o + c) < (4 : Int32) := by
  rcases h with rfl | rfl | rfl <;> rcases hc with rfl | rfl <;> decide
theorem own_from {o c : Int32} {w0 w1 f0 f1 f2 f3 : Int64} (h : o = (0 : Int32) ∨ o = (1 : Int32) ∨ o = (2 : Int32)) (hc : c = (0 : Int32) ∨ c = (1 : Int32)) :
    [(own_putL (o + (1 : Int32)) (0 : Int32) w1 (own_putL o (0 : Int32) w0 f0)), (own_putL (o + (1 : Int32)) (1 : Int32) w1 (own_putL o (1 : Int32) w0 f1)), (own_putL (o + (1 : Int32)) (2 : Int32) w1 (own_putL o (2 : Int32) w0 f2)), (own_putL (o + (1 : Int32)) (3 : Int32) w1 (own_putL o (3 : Int32) w0 f3))].getD (o + c).toNatClampNeg 0 = own_pick w0 w1 c := by
  rcases h with rfl | rfl | rfl <;> rcases hc with rfl | rfl <;> rfl
theorem own_mz : (((1 : Int64) <<< ((0 : Int32) &&& 0x3f).toInt64) - (1 : Int64)) = 0 := by decide +kernel
theorem own_bits {w : Int64} {s b : Int32} (hs : 0 ≤ s.toInt) (hb : 0 ≤ b.toInt ∧ b.toInt ≤ 31) (h : s.toInt + b.toInt ≤ 64) :
    ((((w.toUInt64 >>> (s &&& 0x3f).toInt64.toUInt64).toInt64) &&& (((1 : Int64) <<< (b &&& 0x3f).toInt64) - (1 : Int64))).toInt32) = own_ref w s b := by
  unfold own_ref
  by_cases z : b = (0 : Int32)
  · rw [if_pos z, z, own_mz, Int64.and_zero]; rfl
  · rw [if_neg z]
    have hb0 : 0 < b.toInt := by
      rcases Int.lt_or_eq_of_le hb.1 with q | q
      · exact q
      · exact absurd (Int32.toInt_inj.mp (by rw [← q]; rfl)) z
    refine congrArg Int64.toInt32 (Int64.toBitVec_inj.mp ?_)
    have a1 := c_isub (64 : Int32) s
    have r1 := rng32 ((64 : Int32) - s)
    have a2 := c_isub ((64 : Int32) - s) b
    have r2 := rng32 (((64 : Int32) - s) - b)
    have a3 := c_isub (64 : Int32) b
    have r3 := rng32 ((64 : Int32) - b)
    have t : (64 : Int32).toInt = 64 := rfl
    obtain ⟨sn, hsn⟩ : ∃ n : Nat, s.toInt = n := ⟨s.toInt.toNat, by omega⟩
    obtain ⟨bn, hbn⟩ : ∃ n : Nat, b.toInt = n := ⟨b.toInt.toNat, by omega⟩
    have e1 : (((64 : Int32) - s) - b).toInt = ((64 - sn - bn : Nat) : Int) := by omega
    have e2 : ((64 : Int32) - b).toInt = ((64 - bn : Nat) : Int) := by omega
    show ((w.toUInt64 >>> (s &&& 0x3f).toInt64.toUInt64).toInt64).toBitVec &&& (((1 : Int64) <<< (b &&& 0x3f).toInt64) - (1 : Int64)).toBitVec = _
    rw [own_shr w hsn (by omega), own_msk hbn (by omega), own_shr _ e2 (by omega), own_shl w e1 (by omega)]
    exact own_ext w.toBitVec (by omega) (by omega)
theorem own_fit {c u w c' u' : Int32} (hw : 0 ≤ w.toInt ∧ w.toInt ≤ 31) (hu : 0 ≤ u.toInt ∧ u.toInt ≤ 64) (h : c' = own_cur c u w ∧ u' = own_u0 u w) : 0 ≤ u'.toInt ∧ u'.toInt + w.toInt ≤ 64 := by
  have z : (0 : Int32).toInt = 0 := rfl
  rcases own_st hw hu h with ⟨a, rfl, rfl⟩ | ⟨a, rfl, rfl⟩
  · omega
  · omega
theorem own_key {f w : Int64} {s b r : Int32} {xs : List Int64} {k : Nat} (hr : r = ((((xs.getD k 0).toUInt64 >>> (s &&& 0x3f).toInt64.toUInt64).toInt64) &&& (((1 : Int64) <<< (b &&& 0x3f).toInt64) - (1 : Int64))).toInt32) (hf : xs.getD k 0 = w) (hs : 0 ≤ s.toInt) (hb : 0 ≤ b.toInt ∧ b.toInt ≤ 31) (h : s.toInt + b.toInt ≤ 64) : r = own_ref w s b := by
  rw [hr, hf]; exact own_bits hs hb h
theorem own_z1 (s b : Int32) (w : Int64) : own_ref w ((0 : Int32) + s) b = own_ref w s b := by rw [Int32.zero_add]
theorem ef_0 (m : MethodId) (x0 : Int64) (x1 : Int64) (x2 : Int32) (x3 : Int32) : entryFrame m #[(.long x0), (.long x1), (.int x2), (.int x3)] maxLocals = mkF m 0 #[.val (.long x0), .second, .val (.long x1), .second, .val (.int x2), .val (.int x3), .unset, .unset, .unset, .unset, .unset, .unset, .unset, .unset, .unset, .unset, .unset, .unset, .unset, .unset, .unset, .unset, .unset, .unset, .unset, .unset] [] := by first | (simp [entryFrame, mkF, argsToLocals, Value.category, maxLocals]; done) | rfl
theorem pd_0 : parseMethodDescriptor "([I)V" = some ⟨[(.array .int)], none⟩ := by decide +kernel
theorem pd_1 : parseMethodDescriptor "([JI[I)V" = some ⟨[(.array .long), .int, (.array .int)], none⟩ := by decide +kernel
theorem pd_2 : parseMethodDescriptor "(JJI)J" = some ⟨[.long, .long, .int], some .long⟩ := by decide +kernel
theorem pd_3 : parseMethodDescriptor "(JII)I" = some ⟨[.long, .int, .int], some .int⟩ := by decide +kernel
def Q0 (Z : State) (q0 q1 : Int64) (p2 p3 : Int32) (h0 : Heap) (n0 : Nat) (v : Option Value) (h : Heap) (L : List Loc) : Prop := v = some (.int 1) ∧ Fr n0 L
set_option maxRecDepth 65536 in
set_option maxHeartbeats 40000000 in
theorem rm0 (l : Launch) (Z : State) (A0 : Array Value) (hw : ∀ d ∈ tables_1, d.before A0 Z = true) (ws : List Jvm.Cond) (q0 : Int64) (q1 : Int64) (p2 : Int32) (p3 : Int32)  (h0 : Heap) (n0 : Nat) (Z0 : n0 ≤ h0.size)  :
    MetFree l x (head1 (Jvm.Cond.code x code maxLocals ret :: ws) room_1) (fun a U => a = #[(.long q0), (.long q1), (.int p2), (.int p3)] ∧ Z.Warmed39 U.vm ∧ U.heap = h0) (fun _ _ _ _ _ => True) (fun _ U o U' => ∃ v L, o = .returned v ∧ Q0 Z q0 q1 p2 p3 h0 n0 v U'.heap L ∧ FrameEnd U o U' L 8 34) := by
  refine MetFree.of_bodySF (plainFor_of_name pn_0) hisR ?_
  intro p e s m args below meth c s₁ Bd hml0 hP hK
  obtain ⟨rfl, hZ, hh⟩ := hP
  have hx := Bd.exec
  have hby := Bd.bytes
  have hml : c.maxLocals = 26 := hml0
  have hown : s.vm.findClass "com/example/garantia/garantia/engine/StateLayoutUnpackPinLaw" = some m.cls := findClass_of_methodNamed Bd.named
  have hnm := (name_of_methodNamed Bd.named Bd.method).1
  have X0 : Stand p l e room_1 s m #[(.long q0), (.long q1), (.int p2), (.int p3)] below meth c s₁ [] 0 0 := Stand.of_body Bd
  have e0 : s₁.heap = h0 := by rw [← hh, Bd.state]; rfl
  have N0 := Fr.nil n0
  obtain ⟨S0, hS0⟩ : ∃ z, z = s₁.setTop (entryFrame m #[(.long q0), (.long q1), (.int p2), (.int p3)] maxLocals) := ⟨_, rfl⟩
  have pre0 : Go p.tables e below S0 s₁ (mkF m 0 #[vJ q0, .second, vJ q1, .second, vI p2, vI p3, .unset, .unset, .unset, .unset, .unset, .unset, .unset, .unset, .unset, .unset, .unset, .unset, .unset, .unset, .unset, .unset, .unset, .unset, .unset, .unset] []) := fun t k => by rw [hS0]; exact castTop (ef_0 m q0 q1 p2 p3) k
  obtain ⟨v1, hv1, pre1⟩ : ∃ z : Int32, z = (p2 &&& (31 : Int32)) ∧ Go p.tables e below S0 s₁ (mkF m 7 #[vJ q0, .second, vJ q1, .second, vI p2, vI p3, vI z, .unset, .unset, .unset, .unset, .unset, .unset, .unset, .unset, .unset, .unset, .unset, .unset, .unset, .unset, .unset, .unset, .unset, .unset, .unset] []) := ⟨_, rfl, fun t k => pre0 t (by
    refine XS.iload X0.here hx rfl (hb hby at_0) rfl ?_
    refine XS.bipush X0.here hx rfl (hb hby at_2) ?_
    refine XS.iand X0.here hx rfl (hb hby at_4) rfl ?_
    show Steps p.tables e below (s₁.setTop (mkF m 5 #[vJ q0, .second, vJ q1, .second, vI p2, vI p3, .unset, .unset, .unset, .unset, .unset, .unset, .unset, .unset, .unset, .unset, .unset, .unset, .unset, .unset, .unset, .unset, .unset, .unset, .unset, .unset] [(.int (p2 &&& (31 : Int32)))])) _
    refine XS.istore X0.here hx rfl (hb hby at_5) rfl (l' := #[vJ q0, .second, vJ q1, .second, vI p2, vI p3, vI (p2 &&& (31 : Int32)), .unset, .unset, .unset, .unset, .unset, .unset, .unset, .unset, .unset, .unset, .unset, .unset, .unset, .unset, .unset, .unset, .unset, .unset, .unset]) rfl ?_
    exact k)⟩
  have hw0 := own_b hv1
  obtain ⟨v2, hv2, pre2⟩ : ∃ z : Int32, z = (((p2.toUInt32 >>> ((5 : Int32) &&& 31).toUInt32).toInt32) &&& (31 : Int32)) ∧ Go p.tables e below S0 s₁ (mkF m 16 #[vJ q0, .second, vJ q1, .second, vI p2, vI p3, vI v1, vI z, .unset, .unset, .unset, .unset, .unset, .unset, .unset, .unset, .unset, .unset, .unset, .unset, .unset, .unset, .unset, .unset, .unset, .unset] []) := ⟨_, rfl, fun t k => pre1 t (by
    refine XS.iload X0.here hx rfl (hb hby at_7) rfl ?_
    refine XS.iconst X0.here hx rfl (hb hby at_9) ?_
    refine XS.iushr X0.here hx rfl (hb hby at_10) rfl ?_
    show Steps p.tables e below (s₁.setTop (mkF m 11 #[vJ q0, .second, vJ q1, .second, vI p2, vI p3, vI v1, .unset, .unset, .unset, .unset, .unset, .unset, .unset, .unset, .unset, .unset, .unset, .unset, .unset, .unset, .unset, .unset, .unset, .unset, .unset] [(.int ((p2.toUInt32 >>> ((5 : Int32) &&& 31).toUInt32).toInt32))])) _
    refine XS.bipush X0.here hx rfl (hb hby at_11) ?_
    refine XS.iand X0.here hx rfl (hb hby at_13) rfl ?_
    refine XS.istore X0.here hx rfl (hb hby at_14) rfl (l' := #[vJ q0, .second, vJ q1, .second, vI p2, vI p3, vI v1, vI (((p2.toUInt32 >>> ((5 : Int32) &&& 31).toUInt32).toInt32) &&& (31 : Int32)), .unset, .unset, .unset, .unset, .unset, .unset, .unset, .unset, .unset, .unset, .unset, .unset, .unset, .unset, .unset, .unset, .unset, .unset]) rfl ?_
    show Steps p.tables e below (s₁.setTop (mkF m 16 #[vJ q0, .second, vJ q1, .second, vI p2, vI p3, vI v1, vI (((p2.toUInt32 >>> ((5 : Int32) &&& 31).toUInt32).toInt32) &&& (31 : Int32)), .unset, .unset, .unset, .unset, .unset, .unset, .unset, .unset, .unset, .unset, .unset, .unset, .unset, .unset, .unset, .unset, .unset, .unset] [])) _
    exact k)⟩
  have hw1 := own_b hv2
  obtain ⟨v3, hv3, pre3⟩ : ∃ z : Int32, z = (((p2.toUInt32 >>> ((10 : Int32) &&& 31).toUInt32).toInt32) &&& (31 : Int32)) ∧ Go p.tables e below S0 s₁ (mkF m 26 #[vJ q0, .second, vJ q1, .second, vI p2, vI p3, vI v1, vI v2, vI z, .unset, .unset, .unset, .unset, .unset, .unset, .unset, .unset, .unset, .unset, .unset, .unset, .unset, .unset, .unset, .unset, .unset] []) := ⟨_, rfl, fun t k => pre2 t (by
    refine XS.iload X0.here hx rfl (hb hby at_16) rfl ?_
    refine XS.bipush X0.here hx rfl (hb hby at_18) ?_
    refine XS.iushr X0.here hx rfl (hb hby at_20) rfl ?_
    show Steps p.tables e below (s₁.setTop (mkF m 21 #[vJ q0, .second, vJ q1, .second, vI p2, vI p3, vI v1, vI v2, .unset, .unset, .unset, .unset, .unset, .unset, .unset, .unset, .unset, .unset, .unset, .unset, .unset, .unset, .unset, .unset, .unset, .unset] [(.int ((p2.toUInt32 >>> ((10 : Int32) &&& 31).toUInt32).toInt32))])) _
    refine XS.bipush X0.here hx rfl (hb hby at_21) ?_
    refine XS.iand X0.here hx rfl (hb hby at_23) rfl ?_
    refine XS.istore X0.here hx rfl (hb hby at_24) rfl (l' := #[vJ q0, .second, vJ q1, .second, vI p2, vI p3, vI v1, vI v2, vI (((p2.toUInt32 >>> ((10 : Int32) &&& 31).toUInt32).toInt32) &&& (31 : Int32)), .unset, .unset, .unset, .unset, .unset, .unset, .unset, .unset, .unset, .unset, .unset, .unset, .unset, .unset, .unset, .unset, .unset]) rfl ?_
    show Steps p.tables e below (s₁.setTop (mkF m 26 #[vJ q0, .second, vJ q1, .second, vI p2, vI p3, vI v1, vI v2, vI (((p2.toUInt32 >>> ((10 : Int32) &&& 31).toUInt32).toInt32) &&& (31 : Int32)), .unset, .unset, .unset, .unset, .unset, .unset, .unset, .unset, .unset, .unset, .unset, .unset, .unset, .unset, .unset, .unset, .unset] [])) _
    exact k)⟩
  have hw2 := own_b hv3
  obtain ⟨v4, hv4, pre4⟩ : ∃ z : Int32, z = (((p2.toUInt32 >>> ((15 : Int32) &&& 31).toUInt32).toInt32) &&& (31 : Int32)) ∧ Go p.tables e below S0 s₁ (mkF m 36 #[vJ q0, .second, vJ q1, .second, vI p2, vI p3, vI v1, vI v2, vI v3, vI z, .unset, .unset, .unset, .unset, .unset, .unset, .unset, .unset, .unset, .unset, .unset, .unset, .unset, .unset, .unset, .unset] []) := ⟨_, rfl, fun t k => pre3 t (by
    refine XS.iload X0.here hx rfl (hb hby at_26) rfl ?_
    refine XS.bipush X0.here hx rfl (hb hby at_28) ?_
    refine XS.iushr X0.here hx rfl (hb hby at_30) rfl ?_
    show Steps p.tables e below (s₁.setTop (mkF m 31 #[vJ q0, .second, vJ q1, .second, vI p2, vI p3, vI v1, vI v2, vI v3, .unset, .unset, .unset, .unset, .unset, .unset, .unset, .unset, .unset, .unset, .unset, .unset, .unset, .unset, .unset, .unset, .unset] [(.int ((p2.toUInt32 >>> ((15 : Int32) &&& 31).toUInt32).toInt32))])) _
    refine XS.bipush X0.here hx rfl (hb hby at_31) ?_
    refine XS.iand X0.here hx rfl (hb hby at_33) rfl ?_
    refine XS.istore X0.here hx rfl (hb hby at_34) rfl (l' := #[vJ q0, .second, vJ q1, .second, vI p2, vI p3, vI v1, vI v2, vI v3, vI (((p2.toUInt32 >>> ((15 : Int32) &&& 31).toUInt32).toInt32) &&& (31 : Int32)), .unset, .unset, .unset, .unset, .unset, .unset, .unset, .unset, .unset, .unset, .unset, .unset, .unset, .unset, .unset, .unset]) rfl ?_
    show Steps p.tables e below (s₁.setTop (mkF m 36 #[vJ q0, .second, vJ q1, .second, vI p2, vI p3, vI v1, vI v2, vI v3, vI (((p2.toUInt32 >>> ((15 : Int32) &&& 31).toUInt32).toInt32) &&& (31 : Int32)), .unset, .unset, .unset, .unset, .unset, .unset, .unset, .unset, .unset, .unset, .unset, .unset, .unset, .unset, .unset, .unset] [])) _
    exact k)⟩
  have hw3 := own_b hv4
  obtain ⟨v5, hv5, pre5⟩ : ∃ z : Int32, z = (v1 + v2) ∧ Go p.tables e below S0 s₁ (mkF m 56 #[vJ q0, .second, vJ q1, .second, vI p2, vI p3, vI v1, vI v2, vI v3, vI v4, vI (0 : Int32), vI (0 : Int32), vI (0 : Int32), vI v1, vI z, .unset, .unset, .unset, .unset, .unset, .unset, .unset, .unset, .unset, .unset, .unset] []) := ⟨_, rfl, fun t k => pre4 t (by
    refine XS.iconst X0.here hx rfl (hb hby at_36) ?_
    refine XS.istore X0.here hx rfl (hb hby at_37) rfl (l' := #[vJ q0, .second, vJ q1, .second, vI p2, vI p3, vI v1, vI v2, vI v3, vI v4, vI (0 : Int32), .unset, .unset, .unset, .unset, .unset, .unset, .unset, .unset, .unset, .unset, .unset, .unset, .unset, .unset, .unset]) rfl ?_
    refine XS.iconst X0.here hx rfl (hb hby at_39) ?_
    show Steps p.tables e below (s₁.setTop (mkF m 40 #[vJ q0, .second, vJ q1, .second, vI p2, vI p3, vI v1, vI v2, vI v3, vI v4, vI (0 : Int32), .unset, .unset, .unset, .unset, .unset, .unset, .unset, .unset, .unset, .unset, .unset, .unset, .unset, .unset, .unset] [(.int (0 : Int32))])) _
    refine XS.istore X0.here hx rfl (hb hby at_40) rfl (l' := #[vJ q0, .second, vJ q1, .second, vI p2, vI p3, vI v1, vI v2, vI v3, vI v4, vI (0 : Int32), vI (0 : Int32), .unset, .unset, .unset, .unset, .unset, .unset, .unset, .unset, .unset, .unset, .unset, .unset, .unset, .unset]) rfl ?_
    refine XS.iconst X0.here hx rfl (hb hby at_42) ?_
    refine XS.istore X0.here hx rfl (hb hby at_43) rfl (l' := #[vJ q0, .second, vJ q1, .second, vI p2, vI p3, vI v1, vI v2, vI v3, vI v4, vI (0 : Int32), vI (0 : Int32), vI (0 : Int32), .unset, .unset, .unset, .unset, .unset, .unset, .unset, .unset, .unset, .unset, .unset, .unset, .unset]) rfl ?_
    show Steps p.tables e below (s₁.setTop (mkF m 45 #[vJ q0, .second, vJ q1, .second, vI p2, vI p3, vI v1, vI v2, vI v3, vI v4, vI (0 : Int32), vI (0 : Int32), vI (0 : Int32), .unset, .unset, .unset, .unset, .unset, .unset, .unset, .unset, .unset, .unset, .unset, .unset, .unset] [])) _
    refine XS.iload X0.here hx rfl (hb hby at_45) rfl ?_
    refine XS.istore X0.here hx rfl (hb hby at_47) rfl (l' := #[vJ q0, .second, vJ q1, .second, vI p2, vI p3, vI v1, vI v2, vI v3, vI v4, vI (0 : Int32), vI (0 : Int32), vI (0 : Int32), vI v1, .unset, .unset, .unset, .unset, .unset, .unset, .unset, .unset, .unset, .unset, .unset, .unset]) rfl ?_
    refine XS.iload X0.here hx rfl (hb hby at_49) rfl ?_
    show Steps p.tables e below (s₁.setTop (mkF m 51 #[vJ q0, .second, vJ q1, .second, vI p2, vI p3, vI v1, vI v2, vI v3, vI v4, vI (0 : Int32), vI (0 : Int32), vI (0 : Int32), vI v1, .unset, .unset, .unset, .unset, .unset, .unset, .unset, .unset, .unset, .unset, .unset, .unset] [(.int v1)])) _
    refine XS.iload X0.here hx rfl (hb hby at_51) rfl ?_
    refine XS.iadd X0.here hx rfl (hb hby at_53) rfl ?_
    refine XS.istore X0.here hx rfl (hb hby at_54) rfl (l' := #[vJ q0, .second, vJ q1, .second, vI p2, vI p3, vI v1, vI v2, vI v3, vI v4, vI (0 : Int32), vI (0 : Int32), vI (0 : Int32), vI v1, vI (v1 + v2), .unset, .unset, .unset, .unset, .unset, .unset, .unset, .unset, .unset, .unset, .unset]) rfl ?_
    show Steps p.tables e below (s₁.setTop (mkF m 56 #[vJ q0, .second, vJ q1, .second, vI p2, vI p3, vI v1, vI v2, vI v3, vI v4, vI (0 : Int32), vI (0 : Int32), vI (0 : Int32), vI v1, vI (v1 + v2), .unset, .unset, .unset, .unset, .unset, .unset, .unset, .unset, .unset, .unset, .unset] [])) _
    exact k)⟩
  have pre6 : Go p.tables e below S0 s₁ (mkF m 63 #[vJ q0, .second, vJ q1, .second, vI p2, vI p3, vI v1, vI v2, vI v3, vI v4, vI (0 : Int32), vI (0 : Int32), vI (0 : Int32), vI v1, vI v5, .unset, .unset, .unset, .unset, .unset, .unset, .unset, .unset, .unset, .unset, .unset] [(.int (64 : Int32)), (.int (v5 + v3))]) := fun t k => pre5 t (by
    refine XS.iload X0.here hx rfl (hb hby at_56) rfl ?_
    refine XS.iload X0.here hx rfl (hb hby at_58) rfl ?_
    refine XS.iadd X0.here hx rfl (hb hby at_60) rfl ?_
    show Steps p.tables e below (s₁.setTop (mkF m 61 #[vJ q0, .second, vJ q1, .second, vI p2, vI p3, vI v1, vI v2, vI v3, vI v4, vI (0 : Int32), vI (0 : Int32), vI (0 : Int32), vI v1, vI v5, .unset, .unset, .unset, .unset, .unset, .unset, .unset, .unset, .unset, .unset, .unset] [(.int (v5 + v3))])) _
    refine XS.bipush X0.here hx rfl (hb hby at_61) ?_
    exact k)
  refine cps (A := ∃ (j82_l15_10 : Int32) (j82_l16_11 : Int32), (j82_l15_10 = own_cur (0 : Int32) v5 v3 ∧ j82_l16_11 = own_u0 v5 v3) ∧ (Go p.tables e below S0 s₁ (mkF m 82 #[vJ q0, .second, vJ q1, .second, vI p2, vI p3, vI v1, vI v2, vI v3, vI v4, vI (0 : Int32), vI (0 : Int32), vI (0 : Int32), vI v1, vI v5, vI j82_l15_10, vI j82_l16_11, .unset, .unset, .unset, .unset, .unset, .unset, .unset, .unset, .unset] []))) (fun tail14 => ?_) ?_
  · skip
    by_cases c63_7 : (64 : Int32) < (v5 + v3)
    · skip
      have pre8 : Go p.tables e below S0 s₁ (mkF m 82 #[vJ q0, .second, vJ q1, .second, vI p2, vI p3, vI v1, vI v2, vI v3, vI v4, vI (0 : Int32), vI (0 : Int32), vI (0 : Int32), vI v1, vI v5, vI (1 : Int32), vI (0 : Int32), .unset, .unset, .unset, .unset, .unset, .unset, .unset, .unset, .unset] []) := fun t k => pre6 t (by
        refine XS.icmpNo X0.here hx rfl (hb hby at_63) rfl (tlt c63_7).2.2.2 ?_
        refine XS.iconst X0.here hx rfl (hb hby at_66) ?_
        refine XS.istore X0.here hx rfl (hb hby at_67) rfl (l' := #[vJ q0, .second, vJ q1, .second, vI p2, vI p3, vI v1, vI v2, vI v3, vI v4, vI (0 : Int32), vI (0 : Int32), vI (0 : Int32), vI v1, vI v5, vI (1 : Int32), .unset, .unset, .unset, .unset, .unset, .unset, .unset, .unset, .unset, .unset]) rfl ?_
        show Steps p.tables e below (s₁.setTop (mkF m 69 #[vJ q0, .second, vJ q1, .second, vI p2, vI p3, vI v1, vI v2, vI v3, vI v4, vI (0 : Int32), vI (0 : Int32), vI (0 : Int32), vI v1, vI v5, vI (1 : Int32), .unset, .unset, .unset, .unset, .unset, .unset, .unset, .unset, .unset, .unset] [])) _
        refine XS.iconst X0.here hx rfl (hb hby at_69) ?_
        refine XS.istore X0.here hx rfl (hb hby at_70) rfl (l' := #[vJ q0, .second, vJ q1, .second, vI p2, vI p3, vI v1, vI v2, vI v3, vI v4, vI (0 : Int32), vI (0 : Int32), vI (0 : Int32), vI v1, vI v5, vI (1 : Int32), vI (0 : Int32), .unset, .unset, .unset, .unset, .unset, .unset, .unset, .unset, .unset]) rfl ?_
        refine XS.goto X0.here hx rfl (pc0 := 72) (pc' := 82) rfl (hb hby at_72) (by decide) (by decide) ?_
        show Steps p.tables e below (s₁.setTop (mkF m 82 #[vJ q0, .second, vJ q1, .second, vI p2, vI p3, vI v1, vI v2, vI v3, vI v4, vI (0 : Int32), vI (0 : Int32), vI (0 : Int32), vI v1, vI v5, vI (1 : Int32), vI (0 : Int32), .unset, .unset, .unset, .unset, .unset, .unset, .unset, .unset, .unset] [])) _
        exact k)
      exact tail14 ⟨(1 : Int32), (0 : Int32), (by exact ⟨(if_pos c63_7).symm, (if_pos c63_7).symm⟩), pre8⟩
    · skip
      have pre9 : Go p.tables e below S0 s₁ (mkF m 82 #[vJ q0, .second, vJ q1, .second, vI p2, vI p3, vI v1, vI v2, vI v3, vI v4, vI (0 : Int32), vI (0 : Int32), vI (0 : Int32), vI v1, vI v5, vI (0 : Int32), vI v5, .unset, .unset, .unset, .unset, .unset, .unset, .unset, .unset, .unset] []) := fun t k => pre6 t (by
        refine XS.icmpYes X0.here hx rfl (pc0 := 63) (pc' := 75) rfl (hb hby at_63) rfl (flt c63_7).2.2.2 (by decide) (by decide) ?_
        refine XS.iconst X0.here hx rfl (hb hby at_75) ?_
        refine XS.istore X0.here hx rfl (hb hby at_76) rfl (l' := #[vJ q0, .second, vJ q1, .second, vI p2, vI p3, vI v1, vI v2, vI v3, vI v4, vI (0 : Int32), vI (0 : Int32), vI (0 : Int32), vI v1, vI v5, vI (0 : Int32), .unset, .unset, .unset, .unset, .unset, .unset, .unset, .unset, .unset, .unset]) rfl ?_
        show Steps p.tables e below (s₁.setTop (mkF m 78 #[vJ q0, .second, vJ q1, .second, vI p2, vI p3, vI v1, vI v2, vI v3, vI v4, vI (0 : Int32), vI (0 : Int32), vI (0 : Int32), vI v1, vI v5, vI (0 : Int32), .unset, .unset, .unset, .unset, .unset, .unset, .unset, .unset, .unset, .unset] [])) _
        refine XS.iload X0.here hx rfl (hb hby at_78) rfl ?_
        refine XS.istore X0.here hx rfl (hb hby at_80) rfl (l' := #[vJ q0, .second, vJ q1, .second, vI p2, vI p3, vI v1, vI v2, vI v3, vI v4, vI (0 : Int32), vI (0 : Int32), vI (0 : Int32), vI v1, vI v5, vI (0 : Int32), vI v5, .unset, .unset, .unset, .unset, .unset, .unset, .unset, .unset, .unset]) rfl ?_
        exact k)
      exact tail14 ⟨(0 : Int32), v5, (by exact ⟨(if_neg c63_7).symm, (if_neg c63_7).symm⟩), pre9⟩
  rintro ⟨j82_l15_10, j82_l16_11, hj82_12, pre13⟩
  have u1 : v5.toInt = v1.toInt + v2.toInt := by rw [hv5]; exact own_sum hw1 (by omega)
  have ft2 := own_fit hw2 (by omega) hj82_12
  obtain ⟨v15, hv15, pre15⟩ : ∃ z : Int32, z = (j82_l16_11 + v3) ∧ Go p.tables e below S0 s₁ (mkF m 89 #[vJ q0, .second, vJ q1, .second, vI p2, vI p3, vI v1, vI v2, vI v3, vI v4, vI (0 : Int32), vI (0 : Int32), vI (0 : Int32), vI v1, vI v5, vI j82_l15_10, vI j82_l16_11, vI z, .unset, .unset, .unset, .unset, .unset, .unset, .unset, .unset] []) := ⟨_, rfl, fun t k => pre13 t (by
    refine XS.iload X0.here hx rfl (hb hby at_82) rfl ?_
    refine XS.iload X0.here hx rfl (hb hby at_84) rfl ?_
    refine XS.iadd X0.here hx rfl (hb hby at_86) rfl ?_
    show Steps p.tables e below (s₁.setTop (mkF m 87 #[vJ q0, .second, vJ q1, .second, vI p2, vI p3, vI v1, vI v2, vI v3, vI v4, vI (0 : Int32), vI (0 : Int32), vI (0 : Int32), vI v1, vI v5, vI j82_l15_10, vI j82_l16_11, .unset, .unset, .unset, .unset, .unset, .unset, .unset, .unset, .unset] [(.int (j82_l16_11 + v3))])) _
    refine XS.istore X0.here hx rfl (hb hby at_87) rfl (l' := #[vJ q0, .second, vJ q1, .second, vI p2, vI p3, vI v1, vI v2, vI v3, vI v4, vI (0 : Int32), vI (0 : Int32), vI (0 : Int32), vI v1, vI v5, vI j82_l15_10, vI j82_l16_11, vI (j82_l16_11 + v3), .unset, .unset, .unset, .unset, .unset, .unset, .unset, .unset]) rfl ?_
    exact k)⟩
  have pre16 : Go p.tables e below S0 s₁ (mkF m 96 #[vJ q0, .second, vJ q1, .second, vI p2, vI p3, vI v1, vI v2, vI v3, vI v4, vI (0 : Int32), vI (0 : Int32), vI (0 : Int32), vI v1, vI v5, vI j82_l15_10, vI j82_l16_11, vI v15, .unset, .unset, .unset, .unset, .unset, .unset, .unset, .unset] [(.int (64 : Int32)), (.int (v15 + v4))]) := fun t k => pre15 t (by
    refine XS.iload X0.here hx rfl (hb hby at_89) rfl ?_
    refine XS.iload X0.here hx rfl (hb hby at_91) rfl ?_
    refine XS.iadd X0.here hx rfl (hb hby at_93) rfl ?_
    show Steps p.tables e below (s₁.setTop (mkF m 94 #[vJ q0, .second, vJ q1, .second, vI p2, vI p3, vI v1, vI v2, vI v3, vI v4, vI (0 : Int32), vI (0 : Int32), vI (0 : Int32), vI v1, vI v5, vI j82_l15_10, vI j82_l16_11, vI v15, .unset, .unset, .unset, .unset, .unset, .unset, .unset, .unset] [(.int (v15 + v4))])) _
    refine XS.bipush X0.here hx rfl (hb hby at_94) ?_
    exact k)
  refine cps (A := ∃ (j119_l18_20 : Int32) (j119_l19_21 : Int32), (j119_l18_20 = own_cur j82_l15_10 v15 v4 ∧ j119_l19_21 = own_u0 v15 v4) ∧ (Go p.tables e below S0 s₁ (mkF m 119 #[vJ q0, .second, vJ q1, .second, vI p2, vI p3, vI v1, vI v2, vI v3, vI v4, vI (0 : Int32), vI (0 : Int32), vI (0 : Int32), vI v1, vI v5, vI j82_l15_10, vI j82_l16_11, vI v15, vI j119_l18_20, vI j119_l19_21, .unset, .unset, .unset, .unset, .unset, .unset] []))) (fun tail24 => ?_) ?_
  · skip
    by_cases c96_17 : (64 : Int32) < (v15 + v4)
    · skip
      have pre18 : Go p.tables e below S0 s₁ (mkF m 119 #[vJ q0, .second, vJ q1, .second, vI p2, vI p3, vI v1, vI v2, vI v3, vI v4, vI (0 : Int32), vI (0 : Int32), vI (0 : Int32), vI v1, vI v5, vI j82_l15_10, vI j82_l16_11, vI v15, vI (j82_l15_10 + (1 : Int32)), vI (0 : Int32), .unset, .unset, .unset, .unset, .unset, .unset] []) := fun t k => pre16 t (by
        refine XS.icmpNo X0.here hx rfl (hb hby at_96) rfl (tlt c96_17).2.2.2 ?_
        refine XS.iload X0.here hx rfl (hb hby at_99) rfl ?_
        refine XS.iconst X0.here hx rfl (hb hby at_101) ?_
        show Steps p.tables e below (s₁.setTop (mkF m 102 #[vJ q0, .second, vJ q1, .second, vI p2, vI p3, vI v1, vI v2, vI v3, vI v4, vI (0 : Int32), vI (0 : Int32), vI (0 : Int32), vI v1, vI v5, vI j82_l15_10, vI j82_l16_11, vI v15, .unset, .unset, .unset, .unset, .unset, .unset, .unset, .unset] [(.int (1 : Int32)), (.int j82_l15_10)])) _
        refine XS.iadd X0.here hx rfl (hb hby at_102) rfl ?_
        refine XS.istore X0.here hx rfl (hb hby at_103) rfl (l' := #[vJ q0, .second, vJ q1, .second, vI p2, vI p3, vI v1, vI v2, vI v3, vI v4, vI (0 : Int32), vI (0 : Int32), vI (0 : Int32), vI v1, vI v5, vI j82_l15_10, vI j82_l16_11, vI v15, vI (j82_l15_10 + (1 : Int32)), .unset, .unset, .unset, .unset, .unset, .unset, .unset]) rfl ?_
        refine XS.iconst X0.here hx rfl (hb hby at_105) ?_
        show Steps p.tables e below (s₁.setTop (mkF m 106 #[vJ q0, .second, vJ q1, .second, vI p2, vI p3, vI v1, vI v2, vI v3, vI v4, vI (0 : Int32), vI (0 : Int32), vI (0 : Int32), vI v1, vI v5, vI j82_l15_10, vI j82_l16_11, vI v15, vI (j82_l15_10 + (1 : Int32)), .unset, .unset, .unset, .unset, .unset, .unset, .unset] [(.int (0 : Int32))])) _
        refine XS.istore X0.here hx rfl (hb hby at_106) rfl (l' := #[vJ q0, .second, vJ q1, .second, vI p2, vI p3, vI v1, vI v2, vI v3, vI v4, vI (0 : Int32), vI (0 : Int32), vI (0 : Int32), vI v1, vI v5, vI j82_l15_10, vI j82_l16_11, vI v15, vI (j82_l15_10 + (1 : Int32)), vI (0 : Int32), .unset, .unset, .unset, .unset, .unset, .unset]) rfl ?_
        refine XS.goto X0.here hx rfl (pc0 := 108) (pc' := 119) rfl (hb hby at_108) (by decide) (by decide) ?_
        exact k)
      exact tail24 ⟨(j82_l15_10 + (1 : Int32)), (0 : Int32), (by exact ⟨(if_pos c96_17).symm, (if_pos c96_17).symm⟩), pre18⟩
    · skip
      have pre19 : Go p.tables e below S0 s₁ (mkF m 119 #[vJ q0, .second, vJ q1, .second, vI p2, vI p3, vI v1, vI v2, vI v3, vI v4, vI (0 : Int32), vI (0 : Int32), vI (0 : Int32), vI v1, vI v5, vI j82_l15_10, vI j82_l16_11, vI v15, vI j82_l15_10, vI v15, .unset, .unset, .unset, .unset, .unset, .unset] []) := fun t k => pre16 t (by
        refine XS.icmpYes X0.here hx rfl (pc0 := 96) (pc' := 111) rfl (hb hby at_96) rfl (flt c96_17).2.2.2 (by decide) (by decide) ?_
        refine XS.iload X0.here hx rfl (hb hby at_111) rfl ?_
        refine XS.istore X0.here hx rfl (hb hby at_113) rfl (l' := #[vJ q0, .second, vJ q1, .second, vI p2, vI p3, vI v1, vI v2, vI v3, vI v4, vI (0 : Int32), vI (0 : Int32), vI (0 : Int32), vI v1, vI v5, vI j82_l15_10, vI j82_l16_11, vI v15, vI j82_l15_10, .unset, .unset, .unset, .unset, .unset, .unset, .unset]) rfl ?_
        show Steps p.tables e below (s₁.setTop (mkF m 115 #[vJ q0, .second, vJ q1, .second, vI p2, vI p3, vI v1, vI v2, vI v3, vI v4, vI (0 : Int32), vI (0 : Int32), vI (0 : Int32), vI v1, vI v5, vI j82_l15_10, vI j82_l16_11, vI v15, vI j82_l15_10, .unset, .unset, .unset, .unset, .unset, .unset, .unset] [])) _
        refine XS.iload X0.here hx rfl (hb hby at_115) rfl ?_
        refine XS.istore X0.here hx rfl (hb hby at_117) rfl (l' := #[vJ q0, .second, vJ q1, .second, vI p2, vI p3, vI v1, vI v2, vI v3, vI v4, vI (0 : Int32), vI (0 : Int32), vI (0 : Int32), vI v1, vI v5, vI j82_l15_10, vI j82_l16_11, vI v15, vI j82_l15_10, vI v15, .unset, .unset, .unset, .unset, .unset, .unset]) rfl ?_
        exact k)
      exact tail24 ⟨j82_l15_10, v15, (by exact ⟨(if_neg c96_17).symm, (if_neg c96_17).symm⟩), pre19⟩
  rintro ⟨j119_l18_20, j119_l19_21, hj119_22, pre23⟩
  have u2 : v15.toInt = j82_l16_11.toInt + v3.toInt := by rw [hv15]; exact own_sum hw2 (by omega)
  have ft3 := own_fit hw3 (by omega) hj119_22
  obtain ⟨v25, hv25, pre25⟩ : ∃ z : Int32, z = ((p3 &&& (3 : Int32)) % (3 : Int32)) ∧ Go p.tables e below S0 s₁ (mkF m 127 #[vJ q0, .second, vJ q1, .second, vI p2, vI p3, vI v1, vI v2, vI v3, vI v4, vI (0 : Int32), vI (0 : Int32), vI (0 : Int32), vI v1, vI v5, vI j82_l15_10, vI j82_l16_11, vI v15, vI j119_l18_20, vI j119_l19_21, vI z, .unset, .unset, .unset, .unset, .unset] []) := ⟨_, rfl, fun t k => pre23 t (by
    refine XS.iload X0.here hx rfl (hb hby at_119) rfl ?_
    refine XS.iconst X0.here hx rfl (hb hby at_121) ?_
    refine XS.iand X0.here hx rfl (hb hby at_122) rfl ?_
    show Steps p.tables e below (s₁.setTop (mkF m 123 #[vJ q0, .second, vJ q1, .second, vI p2, vI p3, vI v1, vI v2, vI v3, vI v4, vI (0 : Int32), vI (0 : Int32), vI (0 : Int32), vI v1, vI v5, vI j82_l15_10, vI j82_l16_11, vI v15, vI j119_l18_20, vI j119_l19_21, .unset, .unset, .unset, .unset, .unset, .unset] [(.int (p3 &&& (3 : Int32)))])) _
    refine XS.iconst X0.here hx rfl (hb hby at_123) ?_
    refine iremM X0 hx rfl (hb hby at_124) rfl (by decide) ?_
    refine XS.istore X0.here hx rfl (hb hby at_125) rfl (l' := #[vJ q0, .second, vJ q1, .second, vI p2, vI p3, vI v1, vI v2, vI v3, vI v4, vI (0 : Int32), vI (0 : Int32), vI (0 : Int32), vI v1, vI v5, vI j82_l15_10, vI j82_l16_11, vI v15, vI j119_l18_20, vI j119_l19_21, vI ((p3 &&& (3 : Int32)) % (3 : Int32)), .unset, .unset, .unset, .unset, .unset]) rfl ?_
    show Steps p.tables e below (s₁.setTop (mkF m 127 #[vJ q0, .second, vJ q1, .second, vI p2, vI p3, vI v1, vI v2, vI v3, vI v4, vI (0 : Int32), vI (0 : Int32), vI (0 : Int32), vI v1, vI v5, vI j82_l15_10, vI j82_l16_11, vI v15, vI j119_l18_20, vI j119_l19_21, vI ((p3 &&& (3 : Int32)) % (3 : Int32)), .unset, .unset, .unset, .unset, .unset] [])) _
    exact k)⟩
  have hoff := own_o hv25
  obtain ⟨v26, hv26, pre26⟩ : ∃ z : Int32, z = ((((p3.toUInt32 >>> ((2 : Int32) &&& 31).toUInt32).toInt32) &&& (7 : Int32)) % (5 : Int32)) ∧ Go p.tables e below S0 s₁ (mkF m 138 #[vJ q0, .second, vJ q1, .second, vI p2, vI p3, vI v1, vI v2, vI v3, vI v4, vI (0 : Int32), vI (0 : Int32), vI (0 : Int32), vI v1, vI v5, vI j82_l15_10, vI j82_l16_11, vI v15, vI j119_l18_20, vI j119_l19_21, vI v25, vI z, .unset, .unset, .unset, .unset] []) := ⟨_, rfl, fun t k => pre25 t (by
    refine XS.iload X0.here hx rfl (hb hby at_127) rfl ?_
    refine XS.iconst X0.here hx rfl (hb hby at_129) ?_
    refine XS.iushr X0.here hx rfl (hb hby at_130) rfl ?_
    show Steps p.tables e below (s₁.setTop (mkF m 131 #[vJ q0, .second, vJ q1, .second, vI p2, vI p3, vI v1, vI v2, vI v3, vI v4, vI (0 : Int32), vI (0 : Int32), vI (0 : Int32), vI v1, vI v5, vI j82_l15_10, vI j82_l16_11, vI v15, vI j119_l18_20, vI j119_l19_21, vI v25, .unset, .unset, .unset, .unset, .unset] [(.int ((p3.toUInt32 >>> ((2 : Int32) &&& 31).toUInt32).toInt32))])) _
    refine XS.bipush X0.here hx rfl (hb hby at_131) ?_
    refine XS.iand X0.here hx rfl (hb hby at_133) rfl ?_
    refine XS.iconst X0.here hx rfl (hb hby at_134) ?_
    show Steps p.tables e below (s₁.setTop (mkF m 135 #[vJ q0, .second, vJ q1, .second, vI p2, vI p3, vI v1, vI v2, vI v3, vI v4, vI (0 : Int32), vI (0 : Int32), vI (0 : Int32), vI v1, vI v5, vI j82_l15_10, vI j82_l16_11, vI v15, vI j119_l18_20, vI j119_l19_21, vI v25, .unset, .unset, .unset, .unset, .unset] [(.int (5 : Int32)), (.int (((p3.toUInt32 >>> ((2 : Int32) &&& 31).toUInt32).toInt32) &&& (7 : Int32)))])) _
    refine iremM X0 hx rfl (hb hby at_135) rfl (by decide) ?_
    refine XS.istore X0.here hx rfl (hb hby at_136) rfl (l' := #[vJ q0, .second, vJ q1, .second, vI p2, vI p3, vI v1, vI v2, vI v3, vI v4, vI (0 : Int32), vI (0 : Int32), vI (0 : Int32), vI v1, vI v5, vI j82_l15_10, vI j82_l16_11, vI v15, vI j119_l18_20, vI j119_l19_21, vI v25, vI ((((p3.toUInt32 >>> ((2 : Int32) &&& 31).toUInt32).toInt32) &&& (7 : Int32)) % (5 : Int32)), .unset, .unset, .unset, .unset]) rfl ?_
    exact k)⟩
  have pre27 : Go p.tables e below S0 s₁ (mkF m 139 #[vJ q0, .second, vJ q1, .second, vI p2, vI p3, vI v1, vI v2, vI v3, vI v4, vI (0 : Int32), vI (0 : Int32), vI (0 : Int32), vI v1, vI v5, vI j82_l15_10, vI j82_l16_11, vI v15, vI j119_l18_20, vI j119_l19_21, vI v25, vI v26, .unset, .unset, .unset, .unset] [(.int (4 : Int32))]) := fun t k => pre26 t (by
    refine XS.iconst X0.here hx rfl (hb hby at_138) ?_
    exact k)
  obtain ⟨T28, h28, kA28, X28, e28, E28, A28, st28⟩ := newP X0 hx hZ (hw _ (List.mem_of_getElem? (i := 0) rfl)) e0 (g := (mkF m 139 #[vJ q0, .second, vJ q1, .second, vI p2, vI p3, vI v1, vI v2, vI v3, vI v4, vI (0 : Int32), vI (0 : Int32), vI (0 : Int32), vI v1, vI v5, vI j82_l15_10, vI j82_l16_11, vI v15, vI j119_l18_20, vI j119_l19_21, vI v25, vI v26, .unset, .unset, .unset, .unset] [(.int (4 : Int32))])) rfl (hb hby at_139) rfl (by decide) (cap := 4) (by decide) (by decide) (by decide) (by decide)
  obtain ⟨b28, g28⟩ : ∃ z, z = h0.size := ⟨_, rfl⟩
  rw [← g28] at A28 st28
  have pre28 : Go p.tables e below S0 T28 (mkF m 141 #[vJ q0, .second, vJ q1, .second, vI p2, vI p3, vI v1, vI v2, vI v3, vI v4, vI (0 : Int32), vI (0 : Int32), vI (0 : Int32), vI v1, vI v5, vI j82_l15_10, vI j82_l16_11, vI v15, vI j119_l18_20, vI j119_l19_21, vI v25, vI v26, .unset, .unset, .unset, .unset] [(.ref b28)]) := fun t k => pre27 t (st28 t k)
  have bo28 : n0 ≤ b28 := Nat.le_trans Z0 (Nat.le_of_eq g28.symm)
  have zz30 : n0 ≤ h28.size := Nat.le_trans Z0 E28.1
  have av28 : Arv Z h28 b28 kA28 .long (4 : Int32) [(.long (0 : Int64)), (.long (0 : Int64)), (.long (0 : Int64)), (.long (0 : Int64))] (.long (0 : Int64)) := (Arv.new A28 (by decide)).pad (pad_rep [] (.long (0 : Int64)) 4)
  have pre31 : Go p.tables e below S0 T28 (mkF m 151 #[vJ q0, .second, vJ q1, .second, vI p2, vI p3, vI v1, vI v2, vI v3, vI v4, vI (0 : Int32), vI (0 : Int32), vI (0 : Int32), vI v1, vI v5, vI j82_l15_10, vI j82_l16_11, vI v15, vI j119_l18_20, vI j119_l19_21, vI v25, vI v26, vR b28, .unset, .unset, .unset] [(.long (q0 ^^^ (-1 : Int64))), (.int (0 : Int32)), (.ref b28)]) := fun t k => pre28 t (by
    refine XS.astore X28.here hx rfl (hb hby at_141) rfl rfl (l' := #[vJ q0, .second, vJ q1, .second, vI p2, vI p3, vI v1, vI v2, vI v3, vI v4, vI (0 : Int32), vI (0 : Int32), vI (0 : Int32), vI v1, vI v5, vI j82_l15_10, vI j82_l16_11, vI v15, vI j119_l18_20, vI j119_l19_21, vI v25, vI v26, vR b28, .unset, .unset, .unset]) rfl ?_
    refine XS.aload X28.here hx rfl (hb hby at_143) rfl rfl ?_
    refine XS.iconst X28.here hx rfl (hb hby at_145) ?_
    show Steps p.tables e below (T28.setTop (mkF m 146 #[vJ q0, .second, vJ q1, .second, vI p2, vI p3, vI v1, vI v2, vI v3, vI v4, vI (0 : Int32), vI (0 : Int32), vI (0 : Int32), vI v1, vI v5, vI j82_l15_10, vI j82_l16_11, vI v15, vI j119_l18_20, vI j119_l19_21, vI v25, vI v26, vR b28, .unset, .unset, .unset] [(.int (0 : Int32)), (.ref b28)])) _
    refine XS.lloadN X28.here hx rfl (hb hby at_146) rfl ?_
    refine X28.ldc2Long hx hown (mvT hZ (hw _ (List.mem_of_getElem? (i := 1) rfl))) (g := (mkF m 147 #[vJ q0, .second, vJ q1, .second, vI p2, vI p3, vI v1, vI v2, vI v3, vI v4, vI (0 : Int32), vI (0 : Int32), vI (0 : Int32), vI v1, vI v5, vI j82_l15_10, vI j82_l16_11, vI v15, vI j119_l18_20, vI j119_l19_21, vI v25, vI v26, vR b28, .unset, .unset, .unset] [(.long q0), (.int (0 : Int32)), (.ref b28)])) rfl (hb hby at_147) _ ?_
    refine XS.lxor X28.here hx rfl (hb hby at_150) rfl ?_
    show Steps p.tables e below (T28.setTop (mkF m 151 #[vJ q0, .second, vJ q1, .second, vI p2, vI p3, vI v1, vI v2, vI v3, vI v4, vI (0 : Int32), vI (0 : Int32), vI (0 : Int32), vI v1, vI v5, vI j82_l15_10, vI j82_l16_11, vI v15, vI j119_l18_20, vI j119_l19_21, vI v25, vI v26, vR b28, .unset, .unset, .unset] [(.long (q0 ^^^ (-1 : Int64))), (.int (0 : Int32)), (.ref b28)])) _
    exact k)
  obtain ⟨cl32, Ar32, q32, S32, M32, H32, G32⟩ := id av28
  have in32 : ¬ ((0 : Int32) < 0 ∨ cl32.slots.size ≤ ((0 : Int32)).toNatClampNeg) := inb_of S32 ⟨by decide, by decide⟩
  obtain ⟨T32, h32, X32, e32, W32, st32⟩ := stJ X28 hx hZ e28 Ar32 (j := (0 : Int32)) in32 (g := (mkF m 151 #[vJ q0, .second, vJ q1, .second, vI p2, vI p3, vI v1, vI v2, vI v3, vI v4, vI (0 : Int32), vI (0 : Int32), vI (0 : Int32), vI v1, vI v5, vI j82_l15_10, vI j82_l16_11, vI v15, vI j119_l18_20, vI j119_l19_21, vI v25, vI v26, vR b28, .unset, .unset, .unset] [(.long (q0 ^^^ (-1 : Int64))), (.int (0 : Int32)), (.ref b28)])) rfl rfl (hb hby at_151)
  have pre32 : Go p.tables e below S0 T32 (mkF m 152 #[vJ q0, .second, vJ q1, .second, vI p2, vI p3, vI v1, vI v2, vI v3, vI v4, vI (0 : Int32), vI (0 : Int32), vI (0 : Int32), vI v1, vI v5, vI j82_l15_10, vI j82_l16_11, vI v15, vI j119_l18_20, vI j119_l19_21, vI v25, vI v26, vR b28, .unset, .unset, .unset] []) := fun t k => pre31 t (st32 t k)
  obtain ⟨lo32, N32, X32⟩ : ∃ lo, Fr n0 lo ∧ Stand p l e room_1 s m #[(.long q0), (.long q1), (.int p2), (.int p3)] below meth c T32 lo 1 4 := ⟨_, Fr.snoc X32 N0 bo28, X32⟩
  have av32 : Arv Z h32 b28 kA28 .long (4 : Int32) [(.long (q0 ^^^ (-1 : Int64))), (.long (0 : Int64)), (.long (0 : Int64)), (.long (0 : Int64))] (.long (0 : Int64)) := Arv.set Ar32 q32 S32 M32 H32 G32 rfl W32 0 rfl (Nat.le_of_ble_eq_true rfl)
  have zz34 : n0 ≤ h32.size := Nat.le_trans zz30 (Keep.of_wr W32).1
  have pre35 : Go p.tables e below S0 T32 (mkF m 160 #[vJ q0, .second, vJ q1, .second, vI p2, vI p3, vI v1, vI v2, vI v3, vI v4, vI (0 : Int32), vI (0 : Int32), vI (0 : Int32), vI v1, vI v5, vI j82_l15_10, vI j82_l16_11, vI v15, vI j119_l18_20, vI j119_l19_21, vI v25, vI v26, vR b28, .unset, .unset, .unset] [(.long (q1 ^^^ (-1 : Int64))), (.int (1 : Int32)), (.ref b28)]) := fun t k => pre32 t (by
    refine XS.aload X32.here hx rfl (hb hby at_152) rfl rfl ?_
    refine XS.iconst X32.here hx rfl (hb hby at_154) ?_
    refine XS.lloadN X32.here hx rfl (hb hby at_155) rfl ?_
    show Steps p.tables e below (T32.setTop (mkF m 156 #[vJ q0, .second, vJ q1, .second, vI p2, vI p3, vI v1, vI v2, vI v3, vI v4, vI (0 : Int32), vI (0 : Int32), vI (0 : Int32), vI v1, vI v5, vI j82_l15_10, vI j82_l16_11, vI v15, vI j119_l18_20, vI j119_l19_21, vI v25, vI v26, vR b28, .unset, .unset, .unset] [(.long q1), (.int (1 : Int32)), (.ref b28)])) _
    refine X32.ldc2Long hx hown (mvT hZ (hw _ (List.mem_of_getElem? (i := 1) rfl))) (g := (mkF m 156 #[vJ q0, .second, vJ q1, .second, vI p2, vI p3, vI v1, vI v2, vI v3, vI v4, vI (0 : Int32), vI (0 : Int32), vI (0 : Int32), vI v1, vI v5, vI j82_l15_10, vI j82_l16_11, vI v15, vI j119_l18_20, vI j119_l19_21, vI v25, vI v26, vR b28, .unset, .unset, .unset] [(.long q1), (.int (1 : Int32)), (.ref b28)])) rfl (hb hby at_156) _ ?_
    refine XS.lxor X32.here hx rfl (hb hby at_159) rfl ?_
    exact k)
  obtain ⟨cl36, Ar36, q36, S36, M36, H36, G36⟩ := id av32
  have in36 : ¬ ((1 : Int32) < 0 ∨ cl36.slots.size ≤ ((1 : Int32)).toNatClampNeg) := inb_of S36 ⟨by decide, by decide⟩
  obtain ⟨T36, h36, X36, e36, W36, st36⟩ := stJ X32 hx hZ e32 Ar36 (j := (1 : Int32)) in36 (g := (mkF m 160 #[vJ q0, .second, vJ q1, .second, vI p2, vI p3, vI v1, vI v2, vI v3, vI v4, vI (0 : Int32), vI (0 : Int32), vI (0 : Int32), vI v1, vI v5, vI j82_l15_10, vI j82_l16_11, vI v15, vI j119_l18_20, vI j119_l19_21, vI v25, vI v26, vR b28, .unset, .unset, .unset] [(.long (q1 ^^^ (-1 : Int64))), (.int (1 : Int32)), (.ref b28)])) rfl rfl (hb hby at_160)
  have pre36 : Go p.tables e below S0 T36 (mkF m 161 #[vJ q0, .second, vJ q1, .second, vI p2, vI p3, vI v1, vI v2, vI v3, vI v4, vI (0 : Int32), vI (0 : Int32), vI (0 : Int32), vI v1, vI v5, vI j82_l15_10, vI j82_l16_11, vI v15, vI j119_l18_20, vI j119_l19_21, vI v25, vI v26, vR b28, .unset, .unset, .unset] []) := fun t k => pre35 t (st36 t k)
  obtain ⟨lo36, N36, X36⟩ : ∃ lo, Fr n0 lo ∧ Stand p l e room_1 s m #[(.long q0), (.long q1), (.int p2), (.int p3)] below meth c T36 lo 1 4 := ⟨_, Fr.snoc X36 N32 bo28, X36⟩
  have av36 : Arv Z h36 b28 kA28 .long (4 : Int32) [(.long (q0 ^^^ (-1 : Int64))), (.long (q1 ^^^ (-1 : Int64))), (.long (0 : Int64)), (.long (0 : Int64))] (.long (0 : Int64)) := Arv.set Ar36 q36 S36 M36 H36 G36 rfl W36 1 rfl (Nat.le_of_ble_eq_true rfl)
  have zz38 : n0 ≤ h36.size := Nat.le_trans zz34 (Keep.of_wr W36).1
  have pre39 : Go p.tables e below S0 T36 (mkF m 173 #[vJ q0, .second, vJ q1, .second, vI p2, vI p3, vI v1, vI v2, vI v3, vI v4, vI (0 : Int32), vI (0 : Int32), vI (0 : Int32), vI v1, vI v5, vI j82_l15_10, vI j82_l16_11, vI v15, vI j119_l18_20, vI j119_l19_21, vI v25, vI v26, vR b28, .unset, .unset, .unset] [(.long ((q0 ^^^ (-1 : Int64)) ^^^ (6148914691236517205 : Int64))), (.int (2 : Int32)), (.ref b28)]) := fun t k => pre36 t (by
    refine XS.aload X36.here hx rfl (hb hby at_161) rfl rfl ?_
    refine XS.iconst X36.here hx rfl (hb hby at_163) ?_
    refine XS.lloadN X36.here hx rfl (hb hby at_164) rfl ?_
    show Steps p.tables e below (T36.setTop (mkF m 165 #[vJ q0, .second, vJ q1, .second, vI p2, vI p3, vI v1, vI v2, vI v3, vI v4, vI (0 : Int32), vI (0 : Int32), vI (0 : Int32), vI v1, vI v5, vI j82_l15_10, vI j82_l16_11, vI v15, vI j119_l18_20, vI j119_l19_21, vI v25, vI v26, vR b28, .unset, .unset, .unset] [(.long q0), (.int (2 : Int32)), (.ref b28)])) _
    refine X36.ldc2Long hx hown (mvT hZ (hw _ (List.mem_of_getElem? (i := 1) rfl))) (g := (mkF m 165 #[vJ q0, .second, vJ q1, .second, vI p2, vI p3, vI v1, vI v2, vI v3, vI v4, vI (0 : Int32), vI (0 : Int32), vI (0 : Int32), vI v1, vI v5, vI j82_l15_10, vI j82_l16_11, vI v15, vI j119_l18_20, vI j119_l19_21, vI v25, vI v26, vR b28, .unset, .unset, .unset] [(.long q0), (.int (2 : Int32)), (.ref b28)])) rfl (hb hby at_165) _ ?_
    refine XS.lxor X36.here hx rfl (hb hby at_168) rfl ?_
    refine X36.ldc2Long hx hown (mvT hZ (hw _ (List.mem_of_getElem? (i := 2) rfl))) (g := (mkF m 169 #[vJ q0, .second, vJ q1, .second, vI p2, vI p3, vI v1, vI v2, vI v3, vI v4, vI (0 : Int32), vI (0 : Int32), vI (0 : Int32), vI v1, vI v5, vI j82_l15_10, vI j82_l16_11, vI v15, vI j119_l18_20, vI j119_l19_21, vI v25, vI v26, vR b28, .unset, .unset, .unset] [(.long (q0 ^^^ (-1 : Int64))), (.int (2 : Int32)), (.ref b28)])) rfl (hb hby at_169) _ ?_
    show Steps p.tables e below (T36.setTop (mkF m 172 #[vJ q0, .second, vJ q1, .second, vI p2, vI p3, vI v1, vI v2, vI v3, vI v4, vI (0 : Int32), vI (0 : Int32), vI (0 : Int32), vI v1, vI v5, vI j82_l15_10, vI j82_l16_11, vI v15, vI j119_l18_20, vI j119_l19_21, vI v25, vI v26, vR b28, .unset, .unset, .unset] [(.long (6148914691236517205 : Int64)), (.long (q0 ^^^ (-1 : Int64))), (.int (2 : Int32)), (.ref b28)])) _
    refine XS.lxor X36.here hx rfl (hb hby at_172) rfl ?_
    exact k)
  obtain ⟨cl40, Ar40, q40, S40, M40, H40, G40⟩ := id av36
  have in40 : ¬ ((2 : Int32) < 0 ∨ cl40.slots.size ≤ ((2 : Int32)).toNatClampNeg) := inb_of S40 ⟨by decide, by decide⟩
  obtain ⟨T40, h40, X40, e40, W40, st40⟩ := stJ X36 hx hZ e36 Ar40 (j := (2 : Int32)) in40 (g := (mkF m 173 #[vJ q0, .second, vJ q1, .second, vI p2, vI p3, vI v1, vI v2, vI v3, vI v4, vI (0 : Int32), vI (0 : Int32), vI (0 : Int32), vI v1, vI v5, vI j82_l15_10, vI j82_l16_11, vI v15, vI j119_l18_20, vI j119_l19_21, vI v25, vI v26, vR b28, .unset, .unset, .unset] [(.long ((q0 ^^^ (-1 : Int64)) ^^^ (6148914691236517205 : Int64))), (.int (2 : Int32)), (.ref b28)])) rfl rfl (hb hby at_173)
  have pre40 : Go p.tables e below S0 T40 (mkF m 174 #[vJ q0, .second, vJ q1, .second, vI p2, vI p3, vI v1, vI v2, vI v3, vI v4, vI (0 : Int32), vI (0 : Int32), vI (0 : Int32), vI v1, vI v5, vI j82_l15_10, vI j82_l16_11, vI v15, vI j119_l18_20, vI j119_l19_21, vI v25, vI v26, vR b28, .unset, .unset, .unset] []) := fun t k => pre39 t (st40 t k)
  obtain ⟨lo40, N40, X40⟩ : ∃ lo, Fr n0 lo ∧ Stand p l e room_1 s m #[(.long q0), (.long q1), (.int p2), (.int p3)] below meth c T40 lo 1 4 := ⟨_, Fr.snoc X40 N36 bo28, X40⟩
  have av40 : Arv Z h40 b28 kA28 .long (4 : Int32) [(.long (q0 ^^^ (-1 : Int64))), (.long (q1 ^^^ (-1 : Int64))), (.long ((q0 ^^^ (-1 : Int64)) ^^^ (6148914691236517205 : Int64))), (.long (0 : Int64))] (.long (0 : Int64)) := Arv.set Ar40 q40 S40 M40 H40 G40 rfl W40 2 rfl (Nat.le_of_ble_eq_true rfl)
  have zz42 : n0 ≤ h40.size := Nat.le_trans zz38 (Keep.of_wr W40).1
  have pre43 : Go p.tables e below S0 T40 (mkF m 186 #[vJ q0, .second, vJ q1, .second, vI p2, vI p3, vI v1, vI v2, vI v3, vI v4, vI (0 : Int32), vI (0 : Int32), vI (0 : Int32), vI v1, vI v5, vI j82_l15_10, vI j82_l16_11, vI v15, vI j119_l18_20, vI j119_l19_21, vI v25, vI v26, vR b28, .unset, .unset, .unset] [(.long ((q1 ^^^ (-1 : Int64)) ^^^ (3689348814741910323 : Int64))), (.int (3 : Int32)), (.ref b28)]) := fun t k => pre40 t (by
    refine XS.aload X40.here hx rfl (hb hby at_174) rfl rfl ?_
    refine XS.iconst X40.here hx rfl (hb hby at_176) ?_
    refine XS.lloadN X40.here hx rfl (hb hby at_177) rfl ?_
    show Steps p.tables e below (T40.setTop (mkF m 178 #[vJ q0, .second, vJ q1, .second, vI p2, vI p3, vI v1, vI v2, vI v3, vI v4, vI (0 : Int32), vI (0 : Int32), vI (0 : Int32), vI v1, vI v5, vI j82_l15_10, vI j82_l16_11, vI v15, vI j119_l18_20, vI j119_l19_21, vI v25, vI v26, vR b28, .unset, .unset, .unset] [(.long q1), (.int (3 : Int32)), (.ref b28)])) _
    refine X40.ldc2Long hx hown (mvT hZ (hw _ (List.mem_of_getElem? (i := 1) rfl))) (g := (mkF m 178 #[vJ q0, .second, vJ q1, .second, vI p2, vI p3, vI v1, vI v2, vI v3, vI v4, vI (0 : Int32), vI (0 : Int32), vI (0 : Int32), vI v1, vI v5, vI j82_l15_10, vI j82_l16_11, vI v15, vI j119_l18_20, vI j119_l19_21, vI v25, vI v26, vR b28, .unset, .unset, .unset] [(.long q1), (.int (3 : Int32)), (.ref b28)])) rfl (hb hby at_178) _ ?_
    refine XS.lxor X40.here hx rfl (hb hby at_181) rfl ?_
    refine X40.ldc2Long hx hown (mvT hZ (hw _ (List.mem_of_getElem? (i := 3) rfl))) (g := (mkF m 182 #[vJ q0, .second, vJ q1, .second, vI p2, vI p3, vI v1, vI v2, vI v3, vI v4, vI (0 : Int32), vI (0 : Int32), vI (0 : Int32), vI v1, vI v5, vI j82_l15_10, vI j82_l16_11, vI v15, vI j119_l18_20, vI j119_l19_21, vI v25, vI v26, vR b28, .unset, .unset, .unset] [(.long (q1 ^^^ (-1 : Int64))), (.int (3 : Int32)), (.ref b28)])) rfl (hb hby at_182) _ ?_
    show Steps p.tables e below (T40.setTop (mkF m 185 #[vJ q0, .second, vJ q1, .second, vI p2, vI p3, vI v1, vI v2, vI v3, vI v4, vI (0 : Int32), vI (0 : Int32), vI (0 : Int32), vI v1, vI v5, vI j82_l15_10, vI j82_l16_11, vI v15, vI j119_l18_20, vI j119_l19_21, vI v25, vI v26, vR b28, .unset, .unset, .unset] [(.long (3689348814741910323 : Int64)), (.long (q1 ^^^ (-1 : Int64))), (.int (3 : Int32)), (.ref b28)])) _
    refine XS.lxor X40.here hx rfl (hb hby at_185) rfl ?_
    exact k)
  obtain ⟨cl44, Ar44, q44, S44, M44, H44, G44⟩ := id av40
  have in44 : ¬ ((3 : Int32) < 0 ∨ cl44.slots.size ≤ ((3 : Int32)).toNatClampNeg) := inb_of S44 ⟨by decide, by decide⟩
  obtain ⟨T44, h44, X44, e44, W44, st44⟩ := stJ X40 hx hZ e40 Ar44 (j := (3 : Int32)) in44 (g := (mkF m 186 #[vJ q0, .second, vJ q1, .second, vI p2, vI p3, vI v1, vI v2, vI v3, vI v4, vI (0 : Int32), vI (0 : Int32), vI (0 : Int32), vI v1, vI v5, vI j82_l15_10, vI j82_l16_11, vI v15, vI j119_l18_20, vI j119_l19_21, vI v25, vI v26, vR b28, .unset, .unset, .unset] [(.long ((q1 ^^^ (-1 : Int64)) ^^^ (3689348814741910323 : Int64))), (.int (3 : Int32)), (.ref b28)])) rfl rfl (hb hby at_186)
  have pre44 : Go p.tables e below S0 T44 (mkF m 187 #[vJ q0, .second, vJ q1, .second, vI p2, vI p3, vI v1, vI v2, vI v3, vI v4, vI (0 : Int32), vI (0 : Int32), vI (0 : Int32), vI v1, vI v5, vI j82_l15_10, vI j82_l16_11, vI v15, vI j119_l18_20, vI j119_l19_21, vI v25, vI v26, vR b28, .unset, .unset, .unset] []) := fun t k => pre43 t (st44 t k)
  obtain ⟨lo44, N44, X44⟩ : ∃ lo, Fr n0 lo ∧ Stand p l e room_1 s m #[(.long q0), (.long q1), (.int p2), (.int p3)] below meth c T44 lo 1 4 := ⟨_, Fr.snoc X44 N40 bo28, X44⟩
  have av44 : Arv Z h44 b28 kA28 .long (4 : Int32) [(.long (q0 ^^^ (-1 : Int64))), (.long (q1 ^^^ (-1 : Int64))), (.long ((q0 ^^^ (-1 : Int64)) ^^^ (6148914691236517205 : Int64))), (.long ((q1 ^^^ (-1 : Int64)) ^^^ (3689348814741910323 : Int64)))] (.long (0 : Int64)) := Arv.set Ar44 q44 S44 M44 H44 G44 rfl W44 3 rfl (Nat.le_of_ble_eq_true rfl)
  have zz46 : n0 ≤ h44.size := Nat.le_trans zz42 (Keep.of_wr W44).1
  have pre47 : Go p.tables e below S0 T44 (mkF m 192 #[vJ q0, .second, vJ q1, .second, vI p2, vI p3, vI v1, vI v2, vI v3, vI v4, vI (0 : Int32), vI (0 : Int32), vI (0 : Int32), vI v1, vI v5, vI j82_l15_10, vI j82_l16_11, vI v15, vI j119_l18_20, vI j119_l19_21, vI v25, vI v26, vR b28, .unset, .unset, .unset] [(.long q0), (.int v25), (.ref b28)]) := fun t k => pre44 t (by
    refine XS.aload X44.here hx rfl (hb hby at_187) rfl rfl ?_
    refine XS.iload X44.here hx rfl (hb hby at_189) rfl ?_
    refine XS.lloadN X44.here hx rfl (hb hby at_191) rfl ?_
    show Steps p.tables e below (T44.setTop (mkF m 192 #[vJ q0, .second, vJ q1, .second, vI p2, vI p3, vI v1, vI v2, vI v3, vI v4, vI (0 : Int32), vI (0 : Int32), vI (0 : Int32), vI v1, vI v5, vI j82_l15_10, vI j82_l16_11, vI v15, vI j119_l18_20, vI j119_l19_21, vI v25, vI v26, vR b28, .unset, .unset, .unset] [(.long q0), (.int v25), (.ref b28)])) _
    exact k)
  obtain ⟨cl48, Ar48, q48, S48, M48, H48, G48⟩ := id av44
  have in48 : ¬ (v25 < 0 ∨ cl48.slots.size ≤ (v25).toNatClampNeg) := inb_of S48 (own_oi hoff).1
  obtain ⟨T48, h48, X48, e48, W48, st48⟩ := stJ X44 hx hZ e44 Ar48 (j := v25) in48 (g := (mkF m 192 #[vJ q0, .second, vJ q1, .second, vI p2, vI p3, vI v1, vI v2, vI v3, vI v4, vI (0 : Int32), vI (0 : Int32), vI (0 : Int32), vI v1, vI v5, vI j82_l15_10, vI j82_l16_11, vI v15, vI j119_l18_20, vI j119_l19_21, vI v25, vI v26, vR b28, .unset, .unset, .unset] [(.long q0), (.int v25), (.ref b28)])) rfl rfl (hb hby at_192)
  have pre48 : Go p.tables e below S0 T48 (mkF m 193 #[vJ q0, .second, vJ q1, .second, vI p2, vI p3, vI v1, vI v2, vI v3, vI v4, vI (0 : Int32), vI (0 : Int32), vI (0 : Int32), vI v1, vI v5, vI j82_l15_10, vI j82_l16_11, vI v15, vI j119_l18_20, vI j119_l19_21, vI v25, vI v26, vR b28, .unset, .unset, .unset] []) := fun t k => pre47 t (st48 t k)
  obtain ⟨lo48, N48, X48⟩ : ∃ lo, Fr n0 lo ∧ Stand p l e room_1 s m #[(.long q0), (.long q1), (.int p2), (.int p3)] below meth c T48 lo 1 4 := ⟨_, Fr.snoc X48 N44 bo28, X48⟩
  have av48 : Arv Z h48 b28 kA28 .long (4 : Int32) [(.long (own_putL v25 (0 : Int32) q0 (q0 ^^^ (-1 : Int64)))), (.long (own_putL v25 (1 : Int32) q0 (q1 ^^^ (-1 : Int64)))), (.long (own_putL v25 (2 : Int32) q0 ((q0 ^^^ (-1 : Int64)) ^^^ (6148914691236517205 : Int64)))), (.long (own_putL v25 (3 : Int32) q0 ((q1 ^^^ (-1 : Int64)) ^^^ (3689348814741910323 : Int64))))] (.long (0 : Int64)) := by
    have q := Arv.set Ar48 q48 S48 M48 H48 G48 rfl W48 _ rfl (own_setJ4 (w := 0) (x0 := 0) (x1 := 0) (x2 := 0) (x3 := 0) (own_oi hoff).1).1
    rw [(own_setJ4 (own_oi hoff).1).2] at q
    exact q
  have zz50 : n0 ≤ h48.size := Nat.le_trans zz46 (Keep.of_wr W48).1
  have pre51 : Go p.tables e below S0 T48 (mkF m 200 #[vJ q0, .second, vJ q1, .second, vI p2, vI p3, vI v1, vI v2, vI v3, vI v4, vI (0 : Int32), vI (0 : Int32), vI (0 : Int32), vI v1, vI v5, vI j82_l15_10, vI j82_l16_11, vI v15, vI j119_l18_20, vI j119_l19_21, vI v25, vI v26, vR b28, .unset, .unset, .unset] [(.long q1), (.int (v25 + (1 : Int32))), (.ref b28)]) := fun t k => pre48 t (by
    refine XS.aload X48.here hx rfl (hb hby at_193) rfl rfl ?_
    refine XS.iload X48.here hx rfl (hb hby at_195) rfl ?_
    refine XS.iconst X48.here hx rfl (hb hby at_197) ?_
    show Steps p.tables e below (T48.setTop (mkF m 198 #[vJ q0, .second, vJ q1, .second, vI p2, vI p3, vI v1, vI v2, vI v3, vI v4, vI (0 : Int32), vI (0 : Int32), vI (0 : Int32), vI v1, vI v5, vI j82_l15_10, vI j82_l16_11, vI v15, vI j119_l18_20, vI j119_l19_21, vI v25, vI v26, vR b28, .unset, .unset, .unset] [(.int (1 : Int32)), (.int v25), (.ref b28)])) _
    refine XS.iadd X48.here hx rfl (hb hby at_198) rfl ?_
    refine XS.lloadN X48.here hx rfl (hb hby at_199) rfl ?_
    exact k)
  obtain ⟨cl52, Ar52, q52, S52, M52, H52, G52⟩ := id av48
  have in52 : ¬ ((v25 + (1 : Int32)) < 0 ∨ cl52.slots.size ≤ ((v25 + (1 : Int32))).toNatClampNeg) := inb_of S52 (own_oi hoff).2
  obtain ⟨T52, h52, X52, e52, W52, st52⟩ := stJ X48 hx hZ e48 Ar52 (j := (v25 + (1 : Int32))) in52 (g := (mkF m 200 #[vJ q0, .second, vJ q1, .second, vI p2, vI p3, vI v1, vI v2, vI v3, vI v4, vI (0 : Int32), vI (0 : Int32), vI (0 : Int32), vI v1, vI v5, vI j82_l15_10, vI j82_l16_11, vI v15, vI j119_l18_20, vI j119_l19_21, vI v25, vI v26, vR b28, .unset, .unset, .unset] [(.long q1), (.int (v25 + (1 : Int32))), (.ref b28)])) rfl rfl (hb hby at_200)
  have pre52 : Go p.tables e below S0 T52 (mkF m 201 #[vJ q0, .second, vJ q1, .second, vI p2, vI p3, vI v1, vI v2, vI v3, vI v4, vI (0 : Int32), vI (0 : Int32), vI (0 : Int32), vI v1, vI v5, vI j82_l15_10, vI j82_l16_11, vI v15, vI j119_l18_20, vI j119_l19_21, vI v25, vI v26, vR b28, .unset, .unset, .unset] []) := fun t k => pre51 t (st52 t k)
  obtain ⟨lo52, N52, X52⟩ : ∃ lo, Fr n0 lo ∧ Stand p l e room_1 s m #[(.long q0), (.long q1), (.int p2), (.int p3)] below meth c T52 lo 1 4 := ⟨_, Fr.snoc X52 N48 bo28, X52⟩
  have av52 : Arv Z h52 b28 kA28 .long (4 : Int32) [(.long (own_putL (v25 + (1 : Int32)) (0 : Int32) q1 (own_putL v25 (0 : Int32) q0 (q0 ^^^ (-1 : Int64))))), (.long (own_putL (v25 + (1 : Int32)) (1 : Int32) q1 (own_putL v25 (1 : Int32) q0 (q1 ^^^ (-1 : Int64))))), (.long (own_putL (v25 + (1 : Int32)) (2 : Int32) q1 (own_putL v25 (2 : Int32) q0 ((q0 ^^^ (-1 : Int64)) ^^^ (6148914691236517205 : Int64))))), (.long (own_putL (v25 + (1 : Int32)) (3 : Int32) q1 (own_putL v25 (3 : Int32) q0 ((q1 ^^^ (-1 : Int64)) ^^^ (3689348814741910323 : Int64)))))] (.long (0 : Int64)) := by
    have q := Arv.set Ar52 q52 S52 M52 H52 G52 rfl W52 _ rfl (own_setJ4 (w := 0) (x0 := 0) (x1 := 0) (x2 := 0) (x3 := 0) (own_oi hoff).2).1
    rw [(own_setJ4 (own_oi hoff).2).2] at q
    exact q
  have zz54 : n0 ≤ h52.size := Nat.le_trans zz50 (Keep.of_wr W52).1
  rcases own_k hv26 with rfl | rfl | rfl | rfl | rfl
  · skip
    have pre55 : Go p.tables e below S0 T52 (mkF m 203 #[vJ q0, .second, vJ q1, .second, vI p2, vI p3, vI v1, vI v2, vI v3, vI v4, vI (0 : Int32), vI (0 : Int32), vI (0 : Int32), vI v1, vI v5, vI j82_l15_10, vI j82_l16_11, vI v15, vI j119_l18_20, vI j119_l19_21, vI v25, vI (0 : Int32), vR b28, .unset, .unset, .unset] [(.int (0 : Int32))]) := fun t k => pre52 t (by
      refine XS.iload X52.here hx rfl (hb hby at_201) rfl ?_
      exact k)
    obtain ⟨T56, h56, kA56, X56, e56, E56, A56, st56⟩ := newP X52 hx hZ (hw _ (List.mem_of_getElem? (i := 4) rfl)) e52 (g := (mkF m 203 #[vJ q0, .second, vJ q1, .second, vI p2, vI p3, vI v1, vI v2, vI v3, vI v4, vI (0 : Int32), vI (0 : Int32), vI (0 : Int32), vI v1, vI v5, vI j82_l15_10, vI j82_l16_11, vI v15, vI j119_l18_20, vI j119_l19_21, vI v25, vI (0 : Int32), vR b28, .unset, .unset, .unset] [(.int (0 : Int32))])) rfl (hb hby at_203) rfl (by decide) (cap := 0) (by decide) (by decide) (by decide) (by decide)
    obtain ⟨b56, g56⟩ : ∃ z, z = h52.size := ⟨_, rfl⟩
    rw [← g56] at A56 st56
    have pre56 : Go p.tables e below S0 T56 (mkF m 205 #[vJ q0, .second, vJ q1, .second, vI p2, vI p3, vI v1, vI v2, vI v3, vI v4, vI (0 : Int32), vI (0 : Int32), vI (0 : Int32), vI v1, vI v5, vI j82_l15_10, vI j82_l16_11, vI v15, vI j119_l18_20, vI j119_l19_21, vI v25, vI (0 : Int32), vR b28, .unset, .unset, .unset] [(.ref b56)]) := fun t k => pre55 t (st56 t k)
    have ne57 : b28 ≠ b56 := Nat.ne_of_lt (Nat.lt_of_lt_of_le av52.lt (Nat.le_of_eq g56.symm))
    have bo56 : n0 ≤ b56 := Nat.le_trans zz54 (Nat.le_of_eq g56.symm)
    have f58_1 := av52.ext E56
    have zz59 : n0 ≤ h56.size := Nat.le_trans zz54 E56.1
    have av56 : Arv Z h56 b56 kA56 .int (0 : Int32) [] (.int (0 : Int32)) := Arv.new A56 (by decide)
    have pre60 : Go p.tables e below S0 T56 (mkF m 250 #[vJ q0, .second, vJ q1, .second, vI p2, vI p3, vI v1, vI v2, vI v3, vI v4, vI (0 : Int32), vI (0 : Int32), vI (0 : Int32), vI v1, vI v5, vI j82_l15_10, vI j82_l16_11, vI v15, vI j119_l18_20, vI j119_l19_21, vI v25, vI (0 : Int32), vR b28, vR b56, .unset, .unset] []) := fun t k => pre56 t (by
      refine XS.astore X56.here hx rfl (hb hby at_205) rfl rfl (l' := #[vJ q0, .second, vJ q1, .second, vI p2, vI p3, vI v1, vI v2, vI v3, vI v4, vI (0 : Int32), vI (0 : Int32), vI (0 : Int32), vI v1, vI v5, vI j82_l15_10, vI j82_l16_11, vI v15, vI j119_l18_20, vI j119_l19_21, vI v25, vI (0 : Int32), vR b28, vR b56, .unset, .unset]) rfl ?_
      refine XS.iload X56.here hx rfl (hb hby at_207) rfl ?_
      refine XS.ifYes X56.here hx rfl (pc0 := 209) (pc' := 217) rfl (hb hby at_209) rfl ((if0 _ _).trans (flt (by decide : ¬ ((0 : Int32) < (0 : Int32)))).2.2.2) (by decide) (by decide) ?_
      show Steps p.tables e below (T56.setTop (mkF m 217 #[vJ q0, .second, vJ q1, .second, vI p2, vI p3, vI v1, vI v2, vI v3, vI v4, vI (0 : Int32), vI (0 : Int32), vI (0 : Int32), vI v1, vI v5, vI j82_l15_10, vI j82_l16_11, vI v15, vI j119_l18_20, vI j119_l19_21, vI v25, vI (0 : Int32), vR b28, vR b56, .unset, .unset] [])) _
      refine XS.iload X56.here hx rfl (hb hby at_217) rfl ?_
      refine XS.iconst X56.here hx rfl (hb hby at_219) ?_
      refine XS.icmpYes X56.here hx rfl (pc0 := 220) (pc' := 228) rfl (hb hby at_220) rfl (flt (by decide : ¬ ((1 : Int32) < (0 : Int32)))).2.2.2 (by decide) (by decide) ?_
      show Steps p.tables e below (T56.setTop (mkF m 228 #[vJ q0, .second, vJ q1, .second, vI p2, vI p3, vI v1, vI v2, vI v3, vI v4, vI (0 : Int32), vI (0 : Int32), vI (0 : Int32), vI v1, vI v5, vI j82_l15_10, vI j82_l16_11, vI v15, vI j119_l18_20, vI j119_l19_21, vI v25, vI (0 : Int32), vR b28, vR b56, .unset, .unset] [])) _
      refine XS.iload X56.here hx rfl (hb hby at_228) rfl ?_
      refine XS.iconst X56.here hx rfl (hb hby at_230) ?_
      refine XS.icmpYes X56.here hx rfl (pc0 := 231) (pc' := 239) rfl (hb hby at_231) rfl (flt (by decide : ¬ ((2 : Int32) < (0 : Int32)))).2.2.2 (by decide) (by decide) ?_
      show Steps p.tables e below (T56.setTop (mkF m 239 #[vJ q0, .second, vJ q1, .second, vI p2, vI p3, vI v1, vI v2, vI v3, vI v4, vI (0 : Int32), vI (0 : Int32), vI (0 : Int32), vI v1, vI v5, vI j82_l15_10, vI j82_l16_11, vI v15, vI j119_l18_20, vI j119_l19_21, vI v25, vI (0 : Int32), vR b28, vR b56, .unset, .unset] [])) _
      refine XS.iload X56.here hx rfl (hb hby at_239) rfl ?_
      refine XS.iconst X56.here hx rfl (hb hby at_241) ?_
      refine XS.icmpYes X56.here hx rfl (pc0 := 242) (pc' := 250) rfl (hb hby at_242) rfl (flt (by decide : ¬ ((3 : Int32) < (0 : Int32)))).2.2.2 (by decide) (by decide) ?_
      show Steps p.tables e below (T56.setTop (mkF m 250 #[vJ q0, .second, vJ q1, .second, vI p2, vI p3, vI v1, vI v2, vI v3, vI v4, vI (0 : Int32), vI (0 : Int32), vI (0 : Int32), vI v1, vI v5, vI j82_l15_10, vI j82_l16_11, vI v15, vI j119_l18_20, vI j119_l19_21, vI v25, vI (0 : Int32), vR b28, vR b56, .unset, .unset] [])) _
      exact k)
    obtain ⟨T61, h61, X61, e61, E61, A61, D61, -, st61⟩ := newO X56 hx hZ hown (hw _ (List.mem_of_getElem? (i := 5) rfl)) (hw _ (List.mem_of_getElem? (i := 6) rfl)) (hw _ (List.mem_of_getElem? (i := 7) rfl)) e56 (g := (mkF m 250 #[vJ q0, .second, vJ q1, .second, vI p2, vI p3, vI v1, vI v2, vI v3, vI v4, vI (0 : Int32), vI (0 : Int32), vI (0 : Int32), vI v1, vI v5, vI j82_l15_10, vI j82_l16_11, vI v15, vI j119_l18_20, vI j119_l19_21, vI v25, vI (0 : Int32), vR b28, vR b56, .unset, .unset] [])) rfl (hb hby at_250) (by decide) (by decide)
    obtain ⟨b61, g61⟩ : ∃ z, z = h56.size := ⟨_, rfl⟩
    rw [← g61] at A61 D61 st61
    have pre61 : Go p.tables e below S0 T61 (mkF m 253 #[vJ q0, .second, vJ q1, .second, vI p2, vI p3, vI v1, vI v2, vI v3, vI v4, vI (0 : Int32), vI (0 : Int32), vI (0 : Int32), vI v1, vI v5, vI j82_l15_10, vI j82_l16_11, vI v15, vI j119_l18_20, vI j119_l19_21, vI v25, vI (0 : Int32), vR b28, vR b56, .unset, .unset] [(.ref b61)]) := fun t k => pre60 t (st61 t k)
    have ne62 : b28 ≠ b61 := Nat.ne_of_lt (Nat.lt_of_lt_of_le f58_1.lt (Nat.le_of_eq g61.symm))
    have ne63 : b56 ≠ b61 := Nat.ne_of_lt (Nat.lt_of_lt_of_le av56.lt (Nat.le_of_eq g61.symm))
    have bo61 : n0 ≤ b61 := Nat.le_trans zz59 (Nat.le_of_eq g61.symm)
    have f64_1 := f58_1.ext E61
    have f64_2 := av56.ext E61
    have zz65 : n0 ≤ h61.size := Nat.le_trans zz59 E61.1
    have fn61_word : Fld Z h61 b61 "com/example/garantia/garantia/engine/StateLayout" "word" "[I" .null := D61 (Or.inr (hw _ (List.mem_of_getElem? (i := 15) rfl))) (ty := (.array .int)) (by decide)
    have fn61_shift : Fld Z h61 b61 "com/example/garantia/garantia/engine/StateLayout" "shift" "[I" .null := D61 (Or.inr (hw _ (List.mem_of_getElem? (i := 17) rfl))) (ty := (.array .int)) (by decide)
    have fn61_mask : Fld Z h61 b61 "com/example/garantia/garantia/engine/StateLayout" "mask" "[J" .null := D61 (Or.inr (hw _ (List.mem_of_getElem? (i := 19) rfl))) (ty := (.array .long)) (by decide)
    have fn61_others : Fld Z h61 b61 "com/example/garantia/garantia/engine/StateLayout" "others" "[J" .null := D61 (Or.inr (hw _ (List.mem_of_getElem? (i := 21) rfl))) (ty := (.array .long)) (by decide)
    have fn61_words : Fld Z h61 b61 "com/example/garantia/garantia/engine/StateLayout" "words" "I" (.int (0 : Int32)) := D61 (Or.inr (hw _ (List.mem_of_getElem? (i := 24) rfl))) (ty := .int) (by decide)
    have fn61_narrow : Fld Z h61 b61 "com/example/garantia/garantia/engine/StateLayout" "narrow" "Z" (.int (0 : Int32)) := D61 (Or.inr (hw _ (List.mem_of_getElem? (i := 26) rfl))) (ty := .boolean) (by decide)
    have pre66 : Go p.tables e below S0 T61 (mkF m 255 #[vJ q0, .second, vJ q1, .second, vI p2, vI p3, vI v1, vI v2, vI v3, vI v4, vI (0 : Int32), vI (0 : Int32), vI (0 : Int32), vI v1, vI v5, vI j82_l15_10, vI j82_l16_11, vI v15, vI j119_l18_20, vI j119_l19_21, vI v25, vI (0 : Int32), vR b28, vR b56, .unset, .unset] [(.int (4 : Int32)), (.ref b61), (.ref b61)]) := fun t k => pre61 t (by
      refine XS.dup X61.here hx rfl (hb hby at_253) rfl rfl ?_
      refine XS.iconst X61.here hx rfl (hb hby at_254) ?_
      exact k)
    obtain ⟨T67, h67, kA67, X67, e67, E67, A67, st67⟩ := newP X61 hx hZ (hw _ (List.mem_of_getElem? (i := 4) rfl)) e61 (g := (mkF m 255 #[vJ q0, .second, vJ q1, .second, vI p2, vI p3, vI v1, vI v2, vI v3, vI v4, vI (0 : Int32), vI (0 : Int32), vI (0 : Int32), vI v1, vI v5, vI j82_l15_10, vI j82_l16_11, vI v15, vI j119_l18_20, vI j119_l19_21, vI v25, vI (0 : Int32), vR b28, vR b56, .unset, .unset] [(.int (4 : Int32)), (.ref b61), (.ref b61)])) rfl (hb hby at_255) rfl (by decide) (cap := 4) (by decide) (by decide) (by decide) (by decide)
    obtain ⟨b67, g67⟩ : ∃ z, z = h61.size := ⟨_, rfl⟩
    rw [← g67] at A67 st67
    have pre67 : Go p.tables e below S0 T67 (mkF m 257 #[vJ q0, .second, vJ q1, .second, vI p2, vI p3, vI v1, vI v2, vI v3, vI v4, vI (0 : Int32), vI (0 : Int32), vI (0 : Int32), vI v1, vI v5, vI j82_l15_10, vI j82_l16_11, vI v15, vI j119_l18_20, vI j119_l19_21, vI v25, vI (0 : Int32), vR b28, vR b56, .unset, .unset] [(.ref b67), (.ref b61), (.ref b61)]) := fun t k => pre66 t (st67 t k)
    have ne68 : b28 ≠ b67 := Nat.ne_of_lt (Nat.lt_of_lt_of_le f64_1.lt (Nat.le_of_eq g67.symm))
    have ne69 : b56 ≠ b67 := Nat.ne_of_lt (Nat.lt_of_lt_of_le f64_2.lt (Nat.le_of_eq g67.symm))
    have ne70 : b61 ≠ b67 := Nat.ne_of_lt (Nat.lt_of_lt_of_le A61.lt (Nat.le_of_eq g67.symm))
    have bo67 : n0 ≤ b67 := Nat.le_trans zz65 (Nat.le_of_eq g67.symm)
    have f71_1 := f64_1.ext E67
    have f71_2 := f64_2.ext E67
    have f71_3 := Exa.ext E67 A61
    have f71_4 := Fld.ext E67 fn61_word
    have f71_5 := Fld.ext E67 fn61_shift
    have f71_6 := Fld.ext E67 fn61_mask
    have f71_7 := Fld.ext E67 fn61_others
    have f71_8 := Fld.ext E67 fn61_words
    have f71_9 := Fld.ext E67 fn61_narrow
    have zz72 : n0 ≤ h67.size := Nat.le_trans zz65 E67.1
    have av67 : Arv Z h67 b67 kA67 .int (4 : Int32) [(.int (0 : Int32)), (.int (0 : Int32)), (.int (0 : Int32)), (.int (0 : Int32))] (.int (0 : Int32)) := (Arv.new A67 (by decide)).pad (pad_rep [] (.int (0 : Int32)) 4)
    have pre73 : Go p.tables e below S0 T67 (mkF m 261 #[vJ q0, .second, vJ q1, .second, vI p2, vI p3, vI v1, vI v2, vI v3, vI v4, vI (0 : Int32), vI (0 : Int32), vI (0 : Int32), vI v1, vI v5, vI j82_l15_10, vI j82_l16_11, vI v15, vI j119_l18_20, vI j119_l19_21, vI v25, vI (0 : Int32), vR b28, vR b56, .unset, .unset] [(.int v1), (.int (0 : Int32)), (.ref b67), (.ref b67), (.ref b61), (.ref b61)]) := fun t k => pre67 t (by
      refine XS.dup X67.here hx rfl (hb hby at_257) rfl rfl ?_
      refine XS.iconst X67.here hx rfl (hb hby at_258) ?_
      refine XS.iload X67.here hx rfl (hb hby at_259) rfl ?_
      show Steps p.tables e below (T67.setTop (mkF m 261 #[vJ q0, .second, vJ q1, .second, vI p2, vI p3, vI v1, vI v2, vI v3, vI v4, vI (0 : Int32), vI (0 : Int32), vI (0 : Int32), vI v1, vI v5, vI j82_l15_10, vI j82_l16_11, vI v15, vI j119_l18_20, vI j119_l19_21, vI v25, vI (0 : Int32), vR b28, vR b56, .unset, .unset] [(.int v1), (.int (0 : Int32)), (.ref b67), (.ref b67), (.ref b61), (.ref b61)])) _
      exact k)
    obtain ⟨cl74, Ar74, q74, S74, M74, H74, G74⟩ := id av67
    have in74 : ¬ ((0 : Int32) < 0 ∨ cl74.slots.size ≤ ((0 : Int32)).toNatClampNeg) := inb_of S74 ⟨by decide, by decide⟩
    obtain ⟨T74, h74, X74, e74, W74, st74⟩ := stI X67 hx hZ e67 Ar74 (j := (0 : Int32)) in74 (g := (mkF m 261 #[vJ q0, .second, vJ q1, .second, vI p2, vI p3, vI v1, vI v2, vI v3, vI v4, vI (0 : Int32), vI (0 : Int32), vI (0 : Int32), vI v1, vI v5, vI j82_l15_10, vI j82_l16_11, vI v15, vI j119_l18_20, vI j119_l19_21, vI v25, vI (0 : Int32), vR b28, vR b56, .unset, .unset] [(.int v1), (.int (0 : Int32)), (.ref b67), (.ref b67), (.ref b61), (.ref b61)])) rfl rfl (hb hby at_261)
    have pre74 : Go p.tables e below S0 T74 (mkF m 262 #[vJ q0, .second, vJ q1, .second, vI p2, vI p3, vI v1, vI v2, vI v3, vI v4, vI (0 : Int32), vI (0 : Int32), vI (0 : Int32), vI v1, vI v5, vI j82_l15_10, vI j82_l16_11, vI v15, vI j119_l18_20, vI j119_l19_21, vI v25, vI (0 : Int32), vR b28, vR b56, .unset, .unset] [(.ref b67), (.ref b61), (.ref b61)]) := fun t k => pre73 t (st74 t k)
    obtain ⟨lo74, N74, X74⟩ : ∃ lo, Fr n0 lo ∧ Stand p l e room_1 s m #[(.long q0), (.long q1), (.int p2), (.int p3)] below meth c T74 lo 4 14 := ⟨_, Fr.snoc X74 N52 bo67, X74⟩
    have av74 : Arv Z h74 b67 kA67 .int (4 : Int32) [(.int v1), (.int (0 : Int32)), (.int (0 : Int32)), (.int (0 : Int32))] (.int (0 : Int32)) := Arv.set Ar74 q74 S74 M74 H74 G74 rfl W74 0 rfl (Nat.le_of_ble_eq_true rfl)
    have f75_1 := f71_1.other W74 ne68
    have f75_2 := f71_2.other W74 ne69
    have f75_3 := Exa.wr W74 f71_3
    have f75_4 := Fld.other W74 f71_4 (Or.inl ne70)
    have f75_5 := Fld.other W74 f71_5 (Or.inl ne70)
    have f75_6 := Fld.other W74 f71_6 (Or.inl ne70)
    have f75_7 := Fld.other W74 f71_7 (Or.inl ne70)
    have f75_8 := Fld.other W74 f71_8 (Or.inl ne70)
    have f75_9 := Fld.other W74 f71_9 (Or.inl ne70)
    have zz76 : n0 ≤ h74.size := Nat.le_trans zz72 (Keep.of_wr W74).1
    have pre77 : Go p.tables e below S0 T74 (mkF m 266 #[vJ q0, .second, vJ q1, .second, vI p2, vI p3, vI v1, vI v2, vI v3, vI v4, vI (0 : Int32), vI (0 : Int32), vI (0 : Int32), vI v1, vI v5, vI j82_l15_10, vI j82_l16_11, vI v15, vI j119_l18_20, vI j119_l19_21, vI v25, vI (0 : Int32), vR b28, vR b56, .unset, .unset] [(.int v2), (.int (1 : Int32)), (.ref b67), (.ref b67), (.ref b61), (.ref b61)]) := fun t k => pre74 t (by
      refine XS.dup X74.here hx rfl (hb hby at_262) rfl rfl ?_
      refine XS.iconst X74.here hx rfl (hb hby at_263) ?_
      refine XS.iload X74.here hx rfl (hb hby at_264) rfl ?_
      show Steps p.tables e below (T74.setTop (mkF m 266 #[vJ q0, .second, vJ q1, .second, vI p2, vI p3, vI v1, vI v2, vI v3, vI v4, vI (0 : Int32), vI (0 : Int32), vI (0 : Int32), vI v1, vI v5, vI j82_l15_10, vI j82_l16_11, vI v15, vI j119_l18_20, vI j119_l19_21, vI v25, vI (0 : Int32), vR b28, vR b56, .unset, .unset] [(.int v2), (.int (1 : Int32)), (.ref b67), (.ref b67), (.ref b61), (.ref b61)])) _
      exact k)
    obtain ⟨cl78, Ar78, q78, S78, M78, H78, G78⟩ := id av74
    have in78 : ¬ ((1 : Int32) < 0 ∨ cl78.slots.size ≤ ((1 : Int32)).toNatClampNeg) := inb_of S78 ⟨by decide, by decide⟩
    obtain ⟨T78, h78, X78, e78, W78, st78⟩ := stI X74 hx hZ e74 Ar78 (j := (1 : Int32)) in78 (g := (mkF m 266 #[vJ q0, .second, vJ q1, .second, vI p2, vI p3, vI v1, vI v2, vI v3, vI v4, vI (0 : Int32), vI (0 : Int32), vI (0 : Int32), vI v1, vI v5, vI j82_l15_10, vI j82_l16_11, vI v15, vI j119_l18_20, vI j119_l19_21, vI v25, vI (0 : Int32), vR b28, vR b56, .unset, .unset] [(.int v2), (.int (1 : Int32)), (.ref b67), (.ref b67), (.ref b61), (.ref b61)])) rfl rfl (hb hby at_266)
    have pre78 : Go p.tables e below S0 T78 (mkF m 267 #[vJ q0, .second, vJ q1, .second, vI p2, vI p3, vI v1, vI v2, vI v3, vI v4, vI (0 : Int32), vI (0 : Int32), vI (0 : Int32), vI v1, vI v5, vI j82_l15_10, vI j82_l16_11, vI v15, vI j119_l18_20, vI j119_l19_21, vI v25, vI (0 : Int32), vR b28, vR b56, .unset, .unset] [(.ref b67), (.ref b61), (.ref b61)]) := fun t k => pre77 t (st78 t k)
    obtain ⟨lo78, N78, X78⟩ : ∃ lo, Fr n0 lo ∧ Stand p l e room_1 s m #[(.long q0), (.long q1), (.int p2), (.int p3)] below meth c T78 lo 4 14 := ⟨_, Fr.snoc X78 N74 bo67, X78⟩
    have av78 : Arv Z h78 b67 kA67 .int (4 : Int32) [(.int v1), (.int v2), (.int (0 : Int32)), (.int (0 : Int32))] (.int (0 : Int32)) := Arv.set Ar78 q78 S78 M78 H78 G78 rfl W78 1 rfl (Nat.le_of_ble_eq_true rfl)
    have f79_1 := f75_1.other W78 ne68
    have f79_2 := f75_2.other W78 ne69
    have f79_3 := Exa.wr W78 f75_3
    have f79_4 := Fld.other W78 f75_4 (Or.inl ne70)
    have f79_5 := Fld.other W78 f75_5 (Or.inl ne70)
    have f79_6 := Fld.other W78 f75_6 (Or.inl ne70)
    have f79_7 := Fld.other W78 f75_7 (Or.inl ne70)
    have f79_8 := Fld.other W78 f75_8 (Or.inl ne70)
    have f79_9 := Fld.other W78 f75_9 (Or.inl ne70)
    have zz80 : n0 ≤ h78.size := Nat.le_trans zz76 (Keep.of_wr W78).1
    have pre81 : Go p.tables e below S0 T78 (mkF m 271 #[vJ q0, .second, vJ q1, .second, vI p2, vI p3, vI v1, vI v2, vI v3, vI v4, vI (0 : Int32), vI (0 : Int32), vI (0 : Int32), vI v1, vI v5, vI j82_l15_10, vI j82_l16_11, vI v15, vI j119_l18_20, vI j119_l19_21, vI v25, vI (0 : Int32), vR b28, vR b56, .unset, .unset] [(.int v3), (.int (2 : Int32)), (.ref b67), (.ref b67), (.ref b61), (.ref b61)]) := fun t k => pre78 t (by
      refine XS.dup X78.here hx rfl (hb hby at_267) rfl rfl ?_
      refine XS.iconst X78.here hx rfl (hb hby at_268) ?_
      refine XS.iload X78.here hx rfl (hb hby at_269) rfl ?_
      show Steps p.tables e below (T78.setTop (mkF m 271 #[vJ q0, .second, vJ q1, .second, vI p2, vI p3, vI v1, vI v2, vI v3, vI v4, vI (0 : Int32), vI (0 : Int32), vI (0 : Int32), vI v1, vI v5, vI j82_l15_10, vI j82_l16_11, vI v15, vI j119_l18_20, vI j119_l19_21, vI v25, vI (0 : Int32), vR b28, vR b56, .unset, .unset] [(.int v3), (.int (2 : Int32)), (.ref b67), (.ref b67), (.ref b61), (.ref b61)])) _
      exact k)
    obtain ⟨cl82, Ar82, q82, S82, M82, H82, G82⟩ := id av78
    have in82 : ¬ ((2 : Int32) < 0 ∨ cl82.slots.size ≤ ((2 : Int32)).toNatClampNeg) := inb_of S82 ⟨by decide, by decide⟩
    obtain ⟨T82, h82, X82, e82, W82, st82⟩ := stI X78 hx hZ e78 Ar82 (j := (2 : Int32)) in82 (g := (mkF m 271 #[vJ q0, .second, vJ q1, .second, vI p2, vI p3, vI v1, vI v2, vI v3, vI v4, vI (0 : Int32), vI (0 : Int32), vI (0 : Int32), vI v1, vI v5, vI j82_l15_10, vI j82_l16_11, vI v15, vI j119_l18_20, vI j119_l19_21, vI v25, vI (0 : Int32), vR b28, vR b56, .unset, .unset] [(.int v3), (.int (2 : Int32)), (.ref b67), (.ref b67), (.ref b61), (.ref b61)])) rfl rfl (hb hby at_271)
    have pre82 : Go p.tables e below S0 T82 (mkF m 272 #[vJ q0, .second, vJ q1, .second, vI p2, vI p3, vI v1, vI v2, vI v3, vI v4, vI (0 : Int32), vI (0 : Int32), vI (0 : Int32), vI v1, vI v5, vI j82_l15_10, vI j82_l16_11, vI v15, vI j119_l18_20, vI j119_l19_21, vI v25, vI (0 : Int32), vR b28, vR b56, .unset, .unset] [(.ref b67), (.ref b61), (.ref b61)]) := fun t k => pre81 t (st82 t k)
    obtain ⟨lo82, N82, X82⟩ : ∃ lo, Fr n0 lo ∧ Stand p l e room_1 s m #[(.long q0), (.long q1), (.int p2), (.int p3)] below meth c T82 lo 4 14 := ⟨_, Fr.snoc X82 N78 bo67, X82⟩
    have av82 : Arv Z h82 b67 kA67 .int (4 : Int32) [(.int v1), (.int v2), (.int v3), (.int (0 : Int32))] (.int (0 : Int32)) := Arv.set Ar82 q82 S82 M82 H82 G82 rfl W82 2 rfl (Nat.le_of_ble_eq_true rfl)
    have f83_1 := f79_1.other W82 ne68
    have f83_2 := f79_2.other W82 ne69
    have f83_3 := Exa.wr W82 f79_3
    have f83_4 := Fld.other W82 f79_4 (Or.inl ne70)
    have f83_5 := Fld.other W82 f79_5 (Or.inl ne70)
    have f83_6 := Fld.other W82 f79_6 (Or.inl ne70)
    have f83_7 := Fld.other W82 f79_7 (Or.inl ne70)
    have f83_8 := Fld.other W82 f79_8 (Or.inl ne70)
    have f83_9 := Fld.other W82 f79_9 (Or.inl ne70)
    have zz84 : n0 ≤ h82.size := Nat.le_trans zz80 (Keep.of_wr W82).1
    have pre85 : Go p.tables e below S0 T82 (mkF m 276 #[vJ q0, .second, vJ q1, .second, vI p2, vI p3, vI v1, vI v2, vI v3, vI v4, vI (0 : Int32), vI (0 : Int32), vI (0 : Int32), vI v1, vI v5, vI j82_l15_10, vI j82_l16_11, vI v15, vI j119_l18_20, vI j119_l19_21, vI v25, vI (0 : Int32), vR b28, vR b56, .unset, .unset] [(.int v4), (.int (3 : Int32)), (.ref b67), (.ref b67), (.ref b61), (.ref b61)]) := fun t k => pre82 t (by
      refine XS.dup X82.here hx rfl (hb hby at_272) rfl rfl ?_
      refine XS.iconst X82.here hx rfl (hb hby at_273) ?_
      refine XS.iload X82.here hx rfl (hb hby at_274) rfl ?_
      show Steps p.tables e below (T82.setTop (mkF m 276 #[vJ q0, .second, vJ q1, .second, vI p2, vI p3, vI v1, vI v2, vI v3, vI v4, vI (0 : Int32), vI (0 : Int32), vI (0 : Int32), vI v1, vI v5, vI j82_l15_10, vI j82_l16_11, vI v15, vI j119_l18_20, vI j119_l19_21, vI v25, vI (0 : Int32), vR b28, vR b56, .unset, .unset] [(.int v4), (.int (3 : Int32)), (.ref b67), (.ref b67), (.ref b61), (.ref b61)])) _
      exact k)
    obtain ⟨cl86, Ar86, q86, S86, M86, H86, G86⟩ := id av82
    have in86 : ¬ ((3 : Int32) < 0 ∨ cl86.slots.size ≤ ((3 : Int32)).toNatClampNeg) := inb_of S86 ⟨by decide, by decide⟩
    obtain ⟨T86, h86, X86, e86, W86, st86⟩ := stI X82 hx hZ e82 Ar86 (j := (3 : Int32)) in86 (g := (mkF m 276 #[vJ q0, .second, vJ q1, .second, vI p2, vI p3, vI v1, vI v2, vI v3, vI v4, vI (0 : Int32), vI (0 : Int32), vI (0 : Int32), vI v1, vI v5, vI j82_l15_10, vI j82_l16_11, vI v15, vI j119_l18_20, vI j119_l19_21, vI v25, vI (0 : Int32), vR b28, vR b56, .unset, .unset] [(.int v4), (.int (3 : Int32)), (.ref b67), (.ref b67), (.ref b61), (.ref b61)])) rfl rfl (hb hby at_276)
    have pre86 : Go p.tables e below S0 T86 (mkF m 277 #[vJ q0, .second, vJ q1, .second, vI p2, vI p3, vI v1, vI v2, vI v3, vI v4, vI (0 : Int32), vI (0 : Int32), vI (0 : Int32), vI v1, vI v5, vI j82_l15_10, vI j82_l16_11, vI v15, vI j119_l18_20, vI j119_l19_21, vI v25, vI (0 : Int32), vR b28, vR b56, .unset, .unset] [(.ref b67), (.ref b61), (.ref b61)]) := fun t k => pre85 t (st86 t k)
    obtain ⟨lo86, N86, X86⟩ : ∃ lo, Fr n0 lo ∧ Stand p l e room_1 s m #[(.long q0), (.long q1), (.int p2), (.int p3)] below meth c T86 lo 4 14 := ⟨_, Fr.snoc X86 N82 bo67, X86⟩
    have av86 : Arv Z h86 b67 kA67 .int (4 : Int32) [(.int v1), (.int v2), (.int v3), (.int v4)] (.int (0 : Int32)) := Arv.set Ar86 q86 S86 M86 H86 G86 rfl W86 3 rfl (Nat.le_of_ble_eq_true rfl)
    have f87_1 := f83_1.other W86 ne68
    have f87_2 := f83_2.other W86 ne69
    have f87_3 := Exa.wr W86 f83_3
    have f87_4 := Fld.other W86 f83_4 (Or.inl ne70)
    have f87_5 := Fld.other W86 f83_5 (Or.inl ne70)
    have f87_6 := Fld.other W86 f83_6 (Or.inl ne70)
    have f87_7 := Fld.other W86 f83_7 (Or.inl ne70)
    have f87_8 := Fld.other W86 f83_8 (Or.inl ne70)
    have f87_9 := Fld.other W86 f83_9 (Or.inl ne70)
    have zz88 : n0 ≤ h86.size := Nat.le_trans zz84 (Keep.of_wr W86).1
    obtain ⟨_, _, ⟨T89, qL89, qk89, qn89⟩, -, X89, ⟨Lc89, hQ89, ql89, qy89, qz89⟩, st89⟩ := X86.specialBack hx (y := (⟨"com/example/garantia/garantia/engine/StateLayout", "<init>", "([I)V"⟩ : MethodName)) rfl hown (mvT hZ (hw _ (List.mem_of_getElem? (i := 8) rfl))) (mvT hZ (hw _ (List.mem_of_getElem? (i := 9) rfl))) (mvT hZ (hw _ (List.mem_of_getElem? (i := 10) rfl))) (by decide) (backOf (W := 1) (rm1 l Z A0 hw [] b61 b67 kA67 v1 v2 v3 v4 h86 n0 zz88 f87_3 f87_4 f87_5 f87_6 f87_7 f87_8 f87_9 av86 (Ne.symm ne70) bo61 hw0 hw1 hw2 hw3) hZ (hw _ (List.mem_of_getElem? (i := 10) rfl)) (hw _ (List.mem_of_getElem? (i := 7) rfl)) (by decide) (by decide)) (g := (mkF m 277 #[vJ q0, .second, vJ q1, .second, vI p2, vI p3, vI v1, vI v2, vI v3, vI v4, vI (0 : Int32), vI (0 : Int32), vI (0 : Int32), vI v1, vI v5, vI j82_l15_10, vI j82_l16_11, vI v15, vI j119_l18_20, vI j119_l19_21, vI v25, vI (0 : Int32), vR b28, vR b56, .unset, .unset] [(.ref b67), (.ref b61), (.ref b61)])) rfl (by rw [hml]; rfl) (Steps.refl _) (a := b61) (argsL := [(.ref b67)]) (rest := [(.ref b61)]) (lenOf pd_0 rfl) rfl (by show 2 * 0 + _ ≤ _; exact Nat.le_of_eq rfl) (hb hby at_277) (fun _ _ => ⟨rfl, e86, (by decide : 4 + 4 ≤ _), (by decide : 14 + 16 ≤ _)⟩)
    dsimp only [Pt.U, Pt.locs, Pt.cells, Pt.slots] at X89 ql89 qy89 qz89 st89 hQ89
    replace X89 := X89.more (Nat.le_of_eq qy89) (Nat.le_of_eq qz89)
    obtain ⟨rfl, Nq89, aw_89, as_89, am_89, ao_89, kw_89, ks_89, km_89, ko_89, c2_89, u2_89, c3_89, u3_89, hq89, ho89, hn89, Kq89, nf89_0, nf89_1, nf89_2, nf89_3, nf89_4, nf89_5, nf89_6, nf89_7, nf89_8, nf89_9⟩ := hQ89
    have N89 : Fr n0 qL89 := by rw [ql89]; exact Fr.app N86 Nq89
    have pre89 : Go p.tables e below S0 T89 (mkF m 280 #[vJ q0, .second, vJ q1, .second, vI p2, vI p3, vI v1, vI v2, vI v3, vI v4, vI (0 : Int32), vI (0 : Int32), vI (0 : Int32), vI v1, vI v5, vI j82_l15_10, vI j82_l16_11, vI v15, vI j119_l18_20, vI j119_l19_21, vI v25, vI (0 : Int32), vR b28, vR b56, .unset, .unset] [(.ref b61)]) := fun t k => pre86 t (st89.trans k)
    have f90_1 := f87_1.keep Kq89 (ninS ne62 nin0)
    have f90_2 := f87_2.keep Kq89 (ninS ne63 nin0)
    have f90_3 := av86.keep Kq89 (ninS (Ne.symm ne70) nin0)
    have zz91 : n0 ≤ T89.heap.size := Nat.le_trans zz88 Kq89.1
    have bo89_0 : n0 ≤ aw_89 := Nat.le_trans zz88 ho89.1
    have nn89_0_0 : b28 ≠ aw_89 := Nat.ne_of_lt (Nat.lt_of_lt_of_le f87_1.lt ho89.1)
    have nn89_0_1 : b56 ≠ aw_89 := Nat.ne_of_lt (Nat.lt_of_lt_of_le f87_2.lt ho89.1)
    have nn89_0_2 : b61 ≠ aw_89 := Nat.ne_of_lt (Nat.lt_of_lt_of_le f87_9.lt ho89.1)
    have nn89_0_3 : b67 ≠ aw_89 := Nat.ne_of_lt (Nat.lt_of_lt_of_le av86.lt ho89.1)
    have bo89_1 : n0 ≤ as_89 := Nat.le_trans zz88 ho89.2.1
    have nn89_1_0 : b28 ≠ as_89 := Nat.ne_of_lt (Nat.lt_of_lt_of_le f87_1.lt ho89.2.1)
    have nn89_1_1 : b56 ≠ as_89 := Nat.ne_of_lt (Nat.lt_of_lt_of_le f87_2.lt ho89.2.1)
    have nn89_1_2 : b61 ≠ as_89 := Nat.ne_of_lt (Nat.lt_of_lt_of_le f87_9.lt ho89.2.1)
    have nn89_1_3 : b67 ≠ as_89 := Nat.ne_of_lt (Nat.lt_of_lt_of_le av86.lt ho89.2.1)
    have bo89_2 : n0 ≤ am_89 := Nat.le_trans zz88 ho89.2.2.1
    have nn89_2_0 : b28 ≠ am_89 := Nat.ne_of_lt (Nat.lt_of_lt_of_le f87_1.lt ho89.2.2.1)
    have nn89_2_1 : b56 ≠ am_89 := Nat.ne_of_lt (Nat.lt_of_lt_of_le f87_2.lt ho89.2.2.1)
    have nn89_2_2 : b61 ≠ am_89 := Nat.ne_of_lt (Nat.lt_of_lt_of_le f87_9.lt ho89.2.2.1)
    have nn89_2_3 : b67 ≠ am_89 := Nat.ne_of_lt (Nat.lt_of_lt_of_le av86.lt ho89.2.2.1)
    have bo89_3 : n0 ≤ ao_89 := Nat.le_trans zz88 ho89.2.2.2
    have nn89_3_0 : b28 ≠ ao_89 := Nat.ne_of_lt (Nat.lt_of_lt_of_le f87_1.lt ho89.2.2.2)
    have nn89_3_1 : b56 ≠ ao_89 := Nat.ne_of_lt (Nat.lt_of_lt_of_le f87_2.lt ho89.2.2.2)
    have nn89_3_2 : b61 ≠ ao_89 := Nat.ne_of_lt (Nat.lt_of_lt_of_le f87_9.lt ho89.2.2.2)
    have nn89_3_3 : b67 ≠ ao_89 := Nat.ne_of_lt (Nat.lt_of_lt_of_le av86.lt ho89.2.2.2)
    have pre92 : Go p.tables e below S0 T89 (mkF m 282 #[vJ q0, .second, vJ q1, .second, vI p2, vI p3, vI v1, vI v2, vI v3, vI v4, vI (0 : Int32), vI (0 : Int32), vI (0 : Int32), vI v1, vI v5, vI j82_l15_10, vI j82_l16_11, vI v15, vI j119_l18_20, vI j119_l19_21, vI v25, vI (0 : Int32), vR b28, vR b56, vR b61, .unset] []) := fun t k => pre89 t (by
      refine XS.astore X89.here hx rfl (hb hby at_280) rfl rfl (l' := #[vJ q0, .second, vJ q1, .second, vI p2, vI p3, vI v1, vI v2, vI v3, vI v4, vI (0 : Int32), vI (0 : Int32), vI (0 : Int32), vI v1, vI v5, vI j82_l15_10, vI j82_l16_11, vI v15, vI j119_l18_20, vI j119_l19_21, vI v25, vI (0 : Int32), vR b28, vR b56, vR b61, .unset]) rfl ?_
      exact k)
    obtain rfl : j82_l15_10 = c2_89 := by rw [hj82_12.1, (hq89.1).1, hv5, Int32.zero_add]
    obtain rfl : j82_l16_11 = u2_89 := by rw [hj82_12.2, (hq89.1).2, hv5, Int32.zero_add]
    obtain rfl : j119_l18_20 = c3_89 := by rw [hj119_22.1, (hq89.2).1, hv15]
    obtain rfl : j119_l19_21 = u3_89 := by rw [hj119_22.2, (hq89.2).2, hv15]
    have hp := own_pat4 hw0 hw1 hw2 hw3 (hq89.1) (hq89.2)
    have hc2 : j82_l15_10 = (0 : Int32) ∨ j82_l15_10 = (1 : Int32) := by rcases hp with q | q | q <;> first | exact Or.inl q.1 | exact Or.inr q.1
    have hc3 : j119_l18_20 = (0 : Int32) ∨ j119_l18_20 = (1 : Int32) := by rcases hp with q | q | q <;> first | exact Or.inl q.2.1 | exact Or.inr q.2.1
    have pre93 : Go p.tables e below S0 T89 (mkF m 290 #[vJ q0, .second, vJ q1, .second, vI p2, vI p3, vI v1, vI v2, vI v3, vI v4, vI (0 : Int32), vI (0 : Int32), vI (0 : Int32), vI v1, vI v5, vI j82_l15_10, vI j82_l16_11, vI v15, vI j119_l18_20, vI j119_l19_21, vI v25, vI (0 : Int32), vR b28, vR b56, vR b61, .unset] [(.ref b56), (.int v25), (.ref b28), (.ref b61)]) := fun t k => pre92 t (by
      refine XS.aload X89.here hx rfl (hb hby at_282) rfl rfl ?_
      refine XS.aload X89.here hx rfl (hb hby at_284) rfl rfl ?_
      refine XS.iload X89.here hx rfl (hb hby at_286) rfl ?_
      show Steps p.tables e below (T89.setTop (mkF m 288 #[vJ q0, .second, vJ q1, .second, vI p2, vI p3, vI v1, vI v2, vI v3, vI v4, vI (0 : Int32), vI (0 : Int32), vI (0 : Int32), vI v1, vI v5, vI j82_l15_10, vI j82_l16_11, vI v15, vI j119_l18_20, vI j119_l19_21, vI v25, vI (0 : Int32), vR b28, vR b56, vR b61, .unset] [(.int v25), (.ref b28), (.ref b61)])) _
      refine XS.aload X89.here hx rfl (hb hby at_288) rfl rfl ?_
      exact k)
    obtain ⟨cq94, kq94, qa94, qb94, qc94⟩ := isOf hZ rfl nf89_0
    obtain ⟨_, _, ⟨T94, qL94, qk94, qn94⟩, -, X94, ⟨Lc94, hQ94, ql94, qy94, qz94⟩, st94⟩ := X89.virtualBack hx (y := (⟨"com/example/garantia/garantia/engine/StateLayout", "unpack", "([JI[I)V"⟩ : MethodName)) (z := (⟨"com/example/garantia/garantia/engine/StateLayout", "unpack", "([JI[I)V"⟩ : MethodName)) hown (mvT hZ (hw _ (List.mem_of_getElem? (i := 27) rfl))) (mvT hZ (hw _ (List.mem_of_getElem? (i := 28) rfl))) (notFace_of_selects (args := #[]) (mvT hZ (hw _ (List.mem_of_getElem? (i := 30) rfl)))) (mvT hZ (hw _ (List.mem_of_getElem? (i := 30) rfl))) (mvT hZ (hw _ (List.mem_of_getElem? (i := 29) rfl))) (by decide) (backOf (W := 0) (rm3_0 l Z A0 hw [] b61 b28 v25 b56 aw_89 as_89 am_89 kw_89 ks_89 km_89 kA28 kA56 (0 : Int32) (0 : Int32) j82_l15_10 j119_l18_20 (0 : Int32) ((0 : Int32) + v1) j82_l16_11 j119_l19_21 (((1 : Int64) <<< (v1 &&& 0x3f).toInt64) - (1 : Int64)) (((1 : Int64) <<< (v2 &&& 0x3f).toInt64) - (1 : Int64)) (((1 : Int64) <<< (v3 &&& 0x3f).toInt64) - (1 : Int64)) (((1 : Int64) <<< (v4 &&& 0x3f).toInt64) - (1 : Int64)) (own_putL (v25 + (1 : Int32)) (0 : Int32) q1 (own_putL v25 (0 : Int32) q0 (q0 ^^^ (-1 : Int64)))) (own_putL (v25 + (1 : Int32)) (1 : Int32) q1 (own_putL v25 (1 : Int32) q0 (q1 ^^^ (-1 : Int64)))) (own_putL (v25 + (1 : Int32)) (2 : Int32) q1 (own_putL v25 (2 : Int32) q0 ((q0 ^^^ (-1 : Int64)) ^^^ (6148914691236517205 : Int64)))) (own_putL (v25 + (1 : Int32)) (3 : Int32) q1 (own_putL v25 (3 : Int32) q0 ((q1 ^^^ (-1 : Int64)) ^^^ (3689348814741910323 : Int64)))) T89.heap n0 zz91 nf89_1 nf89_2 nf89_3 nf89_6 nf89_7 nf89_8 f90_1 f90_2 (Ne.symm ne63) (Ne.symm nn89_0_1) (Ne.symm nn89_1_1) (Ne.symm nn89_2_1) ne57 bo56) hZ (hw _ (List.mem_of_getElem? (i := 31) rfl)) (hw _ (List.mem_of_getElem? (i := 7) rfl)) (by decide) (by decide)) qa94 qc94 (g := (mkF m 290 #[vJ q0, .second, vJ q1, .second, vI p2, vI p3, vI v1, vI v2, vI v3, vI v4, vI (0 : Int32), vI (0 : Int32), vI (0 : Int32), vI v1, vI v5, vI j82_l15_10, vI j82_l16_11, vI v15, vI j119_l18_20, vI j119_l19_21, vI v25, vI (0 : Int32), vR b28, vR b56, vR b61, .unset] [(.ref b56), (.int v25), (.ref b28), (.ref b61)])) rfl (by rw [hml]; rfl) (Steps.refl _) (argsL := [(.ref b28), (.int v25), (.ref b56)]) (rest := []) (lenOf pd_1 rfl) rfl (by show 2 * 0 + _ ≤ _; exact Nat.le_of_eq rfl) (hb hby at_290) (fun _ _ => ⟨rfl, rfl, (by decide : 8 + 0 ≤ _), (by decide : 30 + 0 ≤ _)⟩)
    dsimp only [Pt.U, Pt.locs, Pt.cells, Pt.slots] at X94 ql94 qy94 qz94 st94 hQ94
    replace X94 := X94.more (Nat.le_of_eq qy94) (Nat.le_of_eq qz94)
    obtain ⟨rfl, Nq94, Kq94, nf94_0⟩ := hQ94
    have N94 : Fr n0 qL94 := by rw [ql94]; exact Fr.app N89 Nq94
    have pre94 : Go p.tables e below S0 T94 (mkF m 293 #[vJ q0, .second, vJ q1, .second, vI p2, vI p3, vI v1, vI v2, vI v3, vI v4, vI (0 : Int32), vI (0 : Int32), vI (0 : Int32), vI v1, vI v5, vI j82_l15_10, vI j82_l16_11, vI v15, vI j119_l18_20, vI j119_l19_21, vI v25, vI (0 : Int32), vR b28, vR b56, vR b61, .unset] []) := fun t k => pre93 t (st94.trans k)
    have f95_1 := f90_1.keep Kq94 (ninS ne57 nin0)
    have f95_2 := Exa.keep nf89_0 Kq94
    have f95_3 := Fld.keep nf89_1 Kq94 (ninS (Ne.symm ne63) nin0)
    have f95_4 := Fld.keep nf89_2 Kq94 (ninS (Ne.symm ne63) nin0)
    have f95_5 := Fld.keep nf89_3 Kq94 (ninS (Ne.symm ne63) nin0)
    have f95_6 := Fld.keep nf89_4 Kq94 (ninS (Ne.symm ne63) nin0)
    have f95_7 := Fld.keep nf89_5 Kq94 (ninS (Ne.symm ne63) nin0)
    have f95_8 := f90_3.keep Kq94 (ninS (Ne.symm ne69) nin0)
    have f95_9 := nf89_6.keep Kq94 (ninS (Ne.symm nn89_0_1) nin0)
    have f95_10 := nf89_7.keep Kq94 (ninS (Ne.symm nn89_1_1) nin0)
    have f95_11 := nf89_8.keep Kq94 (ninS (Ne.symm nn89_2_1) nin0)
    have f95_12 := nf89_9.keep Kq94 (ninS (Ne.symm nn89_3_1) nin0)
    have zz96 : n0 ≤ T94.heap.size := Nat.le_trans zz91 Kq94.1
    have pre97 : Go p.tables e below S0 T94 (mkF m 295 #[vJ q0, .second, vJ q1, .second, vI p2, vI p3, vI v1, vI v2, vI v3, vI v4, vI (0 : Int32), vI (0 : Int32), vI (0 : Int32), vI v1, vI v5, vI j82_l15_10, vI j82_l16_11, vI v15, vI j119_l18_20, vI j119_l19_21, vI v25, vI (0 : Int32), vR b28, vR b56, vR b61, .unset] [(.ref b56)]) := fun t k => pre94 t (by
      refine XS.aload X94.here hx rfl (hb hby at_293) rfl rfl ?_
      exact k)
    obtain ⟨cl98, Ar98, q98, S98, M98, H98, G98⟩ := id nf94_0
    have pre99 : Go p.tables e below S0 T94 (mkF m 465 #[vJ q0, .second, vJ q1, .second, vI p2, vI p3, vI v1, vI v2, vI v3, vI v4, vI (0 : Int32), vI (0 : Int32), vI (0 : Int32), vI v1, vI v5, vI j82_l15_10, vI j82_l16_11, vI v15, vI j119_l18_20, vI j119_l19_21, vI v25, vI (0 : Int32), vR b28, vR b56, vR b61, vI (1 : Int32)] [(.int (1 : Int32))]) := fun t k => pre97 t (by
      refine X94.arraylength hx Ar98.1 (State.isArrayOf_alike hZ.alike Ar98.2.1) (g := (mkF m 295 #[vJ q0, .second, vJ q1, .second, vI p2, vI p3, vI v1, vI v2, vI v3, vI v4, vI (0 : Int32), vI (0 : Int32), vI (0 : Int32), vI v1, vI v5, vI j82_l15_10, vI j82_l16_11, vI v15, vI j119_l18_20, vI j119_l19_21, vI v25, vI (0 : Int32), vR b28, vR b56, vR b61, .unset] [(.ref b56)])) rfl rfl (hb hby at_295) _ ?_
      rw [len_of S98 M98]
      refine XS.iload X94.here hx rfl (hb hby at_296) rfl ?_
      refine XS.icmpNo X94.here hx rfl (hb hby at_298) rfl (teq (rfl : (0 : Int32) = (0 : Int32))).2 ?_
      show Steps p.tables e below (T94.setTop (mkF m 301 #[vJ q0, .second, vJ q1, .second, vI p2, vI p3, vI v1, vI v2, vI v3, vI v4, vI (0 : Int32), vI (0 : Int32), vI (0 : Int32), vI v1, vI v5, vI j82_l15_10, vI j82_l16_11, vI v15, vI j119_l18_20, vI j119_l19_21, vI v25, vI (0 : Int32), vR b28, vR b56, vR b61, .unset] [])) _
      refine XS.iconst X94.here hx rfl (hb hby at_301) ?_
      refine XS.goto X94.here hx rfl (pc0 := 302) (pc' := 306) rfl (hb hby at_302) (by decide) (by decide) ?_
      refine XS.istore X94.here hx rfl (hb hby at_306) rfl (l' := #[vJ q0, .second, vJ q1, .second, vI p2, vI p3, vI v1, vI v2, vI v3, vI v4, vI (0 : Int32), vI (0 : Int32), vI (0 : Int32), vI v1, vI v5, vI j82_l15_10, vI j82_l16_11, vI v15, vI j119_l18_20, vI j119_l19_21, vI v25, vI (0 : Int32), vR b28, vR b56, vR b61, vI (1 : Int32)]) rfl ?_
      show Steps p.tables e below (T94.setTop (mkF m 308 #[vJ q0, .second, vJ q1, .second, vI p2, vI p3, vI v1, vI v2, vI v3, vI v4, vI (0 : Int32), vI (0 : Int32), vI (0 : Int32), vI v1, vI v5, vI j82_l15_10, vI j82_l16_11, vI v15, vI j119_l18_20, vI j119_l19_21, vI v25, vI (0 : Int32), vR b28, vR b56, vR b61, vI (1 : Int32)] [])) _
      refine XS.iload X94.here hx rfl (hb hby at_308) rfl ?_
      refine XS.ifYes X94.here hx rfl (pc0 := 310) (pc' := 346) rfl (hb hby at_310) rfl ((if0 _ _).trans (flt (by decide : ¬ ((0 : Int32) < (0 : Int32)))).2.2.2) (by decide) (by decide) ?_
      refine XS.iload X94.here hx rfl (hb hby at_346) rfl ?_
      show Steps p.tables e below (T94.setTop (mkF m 348 #[vJ q0, .second, vJ q1, .second, vI p2, vI p3, vI v1, vI v2, vI v3, vI v4, vI (0 : Int32), vI (0 : Int32), vI (0 : Int32), vI v1, vI v5, vI j82_l15_10, vI j82_l16_11, vI v15, vI j119_l18_20, vI j119_l19_21, vI v25, vI (0 : Int32), vR b28, vR b56, vR b61, vI (1 : Int32)] [(.int (0 : Int32))])) _
      refine XS.iconst X94.here hx rfl (hb hby at_348) ?_
      refine XS.icmpYes X94.here hx rfl (pc0 := 349) (pc' := 385) rfl (hb hby at_349) rfl (flt (by decide : ¬ ((1 : Int32) < (0 : Int32)))).2.2.2 (by decide) (by decide) ?_
      refine XS.iload X94.here hx rfl (hb hby at_385) rfl ?_
      show Steps p.tables e below (T94.setTop (mkF m 387 #[vJ q0, .second, vJ q1, .second, vI p2, vI p3, vI v1, vI v2, vI v3, vI v4, vI (0 : Int32), vI (0 : Int32), vI (0 : Int32), vI v1, vI v5, vI j82_l15_10, vI j82_l16_11, vI v15, vI j119_l18_20, vI j119_l19_21, vI v25, vI (0 : Int32), vR b28, vR b56, vR b61, vI (1 : Int32)] [(.int (0 : Int32))])) _
      refine XS.iconst X94.here hx rfl (hb hby at_387) ?_
      refine XS.icmpYes X94.here hx rfl (pc0 := 388) (pc' := 424) rfl (hb hby at_388) rfl (flt (by decide : ¬ ((2 : Int32) < (0 : Int32)))).2.2.2 (by decide) (by decide) ?_
      refine XS.iload X94.here hx rfl (hb hby at_424) rfl ?_
      show Steps p.tables e below (T94.setTop (mkF m 426 #[vJ q0, .second, vJ q1, .second, vI p2, vI p3, vI v1, vI v2, vI v3, vI v4, vI (0 : Int32), vI (0 : Int32), vI (0 : Int32), vI v1, vI v5, vI j82_l15_10, vI j82_l16_11, vI v15, vI j119_l18_20, vI j119_l19_21, vI v25, vI (0 : Int32), vR b28, vR b56, vR b61, vI (1 : Int32)] [(.int (0 : Int32))])) _
      refine XS.iconst X94.here hx rfl (hb hby at_426) ?_
      refine XS.icmpYes X94.here hx rfl (pc0 := 427) (pc' := 463) rfl (hb hby at_427) rfl (flt (by decide : ¬ ((3 : Int32) < (0 : Int32)))).2.2.2 (by decide) (by decide) ?_
      refine XS.iload X94.here hx rfl (hb hby at_463) rfl ?_
      show Steps p.tables e below (T94.setTop (mkF m 465 #[vJ q0, .second, vJ q1, .second, vI p2, vI p3, vI v1, vI v2, vI v3, vI v4, vI (0 : Int32), vI (0 : Int32), vI (0 : Int32), vI v1, vI v5, vI j82_l15_10, vI j82_l16_11, vI v15, vI j119_l18_20, vI j119_l19_21, vI v25, vI (0 : Int32), vR b28, vR b56, vR b61, vI (1 : Int32)] [(.int (1 : Int32))])) _
      exact k)
    obtain ⟨fs, hr, hrun, hended, hW, hsame⟩ := X94.leave (v := some (.int (1 : Int32))) (fun h => by rw [Bd.returns] at h; cases h)
    exact ⟨_, _, pre99.fin hS0 (retN X94 hx (t := .boolean) Bd.returns (by simp) (hb hby at_465) hr), hrun, hended, _, _, rfl, (by
      show Q0 Z q0 q1 p2 p3 h0 n0 _ T94.heap _
      rw [show T94.heap = T94.heap from rfl]
      exact ⟨rfl, N94⟩), ⟨_, rfl⟩, hW, hsame.mono (by decide) (by decide)⟩
  · skip
    have pre100 : Go p.tables e below S0 T52 (mkF m 203 #[vJ q0, .second, vJ q1, .second, vI p2, vI p3, vI v1, vI v2, vI v3, vI v4, vI (0 : Int32), vI (0 : Int32), vI (0 : Int32), vI v1, vI v5, vI j82_l15_10, vI j82_l16_11, vI v15, vI j119_l18_20, vI j119_l19_21, vI v25, vI (1 : Int32), vR b28, .unset, .unset, .unset] [(.int (1 : Int32))]) := fun t k => pre52 t (by
      refine XS.iload X52.here hx rfl (hb hby at_201) rfl ?_
      exact k)
    obtain ⟨T101, h101, kA101, X101, e101, E101, A101, st101⟩ := newP X52 hx hZ (hw _ (List.mem_of_getElem? (i := 4) rfl)) e52 (g := (mkF m 203 #[vJ q0, .second, vJ q1, .second, vI p2, vI p3, vI v1, vI v2, vI v3, vI v4, vI (0 : Int32), vI (0 : Int32), vI (0 : Int32), vI v1, vI v5, vI j82_l15_10, vI j82_l16_11, vI v15, vI j119_l18_20, vI j119_l19_21, vI v25, vI (1 : Int32), vR b28, .unset, .unset, .unset] [(.int (1 : Int32))])) rfl (hb hby at_203) rfl (by decide) (cap := 1) (by decide) (by decide) (by decide) (by decide)
    obtain ⟨b101, g101⟩ : ∃ z, z = h52.size := ⟨_, rfl⟩
    rw [← g101] at A101 st101
    have pre101 : Go p.tables e below S0 T101 (mkF m 205 #[vJ q0, .second, vJ q1, .second, vI p2, vI p3, vI v1, vI v2, vI v3, vI v4, vI (0 : Int32), vI (0 : Int32), vI (0 : Int32), vI v1, vI v5, vI j82_l15_10, vI j82_l16_11, vI v15, vI j119_l18_20, vI j119_l19_21, vI v25, vI (1 : Int32), vR b28, .unset, .unset, .unset] [(.ref b101)]) := fun t k => pre100 t (st101 t k)
    have ne102 : b28 ≠ b101 := Nat.ne_of_lt (Nat.lt_of_lt_of_le av52.lt (Nat.le_of_eq g101.symm))
    have bo101 : n0 ≤ b101 := Nat.le_trans zz54 (Nat.le_of_eq g101.symm)
    have f103_1 := av52.ext E101
    have zz104 : n0 ≤ h101.size := Nat.le_trans zz54 E101.1
    have av101 : Arv Z h101 b101 kA101 .int (1 : Int32) [(.int (0 : Int32))] (.int (0 : Int32)) := (Arv.new A101 (by decide)).pad (pad_rep [] (.int (0 : Int32)) 1)
    have pre105 : Go p.tables e below S0 T101 (mkF m 216 #[vJ q0, .second, vJ q1, .second, vI p2, vI p3, vI v1, vI v2, vI v3, vI v4, vI (0 : Int32), vI (0 : Int32), vI (0 : Int32), vI v1, vI v5, vI j82_l15_10, vI j82_l16_11, vI v15, vI j119_l18_20, vI j119_l19_21, vI v25, vI (1 : Int32), vR b28, vR b101, .unset, .unset] [(.int (-1 : Int32)), (.int (0 : Int32)), (.ref b101)]) := fun t k => pre101 t (by
      refine XS.astore X101.here hx rfl (hb hby at_205) rfl rfl (l' := #[vJ q0, .second, vJ q1, .second, vI p2, vI p3, vI v1, vI v2, vI v3, vI v4, vI (0 : Int32), vI (0 : Int32), vI (0 : Int32), vI v1, vI v5, vI j82_l15_10, vI j82_l16_11, vI v15, vI j119_l18_20, vI j119_l19_21, vI v25, vI (1 : Int32), vR b28, vR b101, .unset, .unset]) rfl ?_
      refine XS.iload X101.here hx rfl (hb hby at_207) rfl ?_
      refine XS.ifNo X101.here hx rfl (hb hby at_209) rfl ((if0 _ _).trans (tlt (by decide : (0 : Int32) < (1 : Int32))).2.2.2) ?_
      show Steps p.tables e below (T101.setTop (mkF m 212 #[vJ q0, .second, vJ q1, .second, vI p2, vI p3, vI v1, vI v2, vI v3, vI v4, vI (0 : Int32), vI (0 : Int32), vI (0 : Int32), vI v1, vI v5, vI j82_l15_10, vI j82_l16_11, vI v15, vI j119_l18_20, vI j119_l19_21, vI v25, vI (1 : Int32), vR b28, vR b101, .unset, .unset] [])) _
      refine XS.aload X101.here hx rfl (hb hby at_212) rfl rfl ?_
      refine XS.iconst X101.here hx rfl (hb hby at_214) ?_
      refine XS.iconst X101.here hx rfl (hb hby at_215) ?_
      show Steps p.tables e below (T101.setTop (mkF m 216 #[vJ q0, .second, vJ q1, .second, vI p2, vI p3, vI v1, vI v2, vI v3, vI v4, vI (0 : Int32), vI (0 : Int32), vI (0 : Int32), vI v1, vI v5, vI j82_l15_10, vI j82_l16_11, vI v15, vI j119_l18_20, vI j119_l19_21, vI v25, vI (1 : Int32), vR b28, vR b101, .unset, .unset] [(.int (-1 : Int32)), (.int (0 : Int32)), (.ref b101)])) _
      exact k)
    obtain ⟨cl106, Ar106, q106, S106, M106, H106, G106⟩ := id av101
    have in106 : ¬ ((0 : Int32) < 0 ∨ cl106.slots.size ≤ ((0 : Int32)).toNatClampNeg) := inb_of S106 ⟨by decide, by decide⟩
    obtain ⟨T106, h106, X106, e106, W106, st106⟩ := stI X101 hx hZ e101 Ar106 (j := (0 : Int32)) in106 (g := (mkF m 216 #[vJ q0, .second, vJ q1, .second, vI p2, vI p3, vI v1, vI v2, vI v3, vI v4, vI (0 : Int32), vI (0 : Int32), vI (0 : Int32), vI v1, vI v5, vI j82_l15_10, vI j82_l16_11, vI v15, vI j119_l18_20, vI j119_l19_21, vI v25, vI (1 : Int32), vR b28, vR b101, .unset, .unset] [(.int (-1 : Int32)), (.int (0 : Int32)), (.ref b101)])) rfl rfl (hb hby at_216)
    have pre106 : Go p.tables e below S0 T106 (mkF m 217 #[vJ q0, .second, vJ q1, .second, vI p2, vI p3, vI v1, vI v2, vI v3, vI v4, vI (0 : Int32), vI (0 : Int32), vI (0 : Int32), vI v1, vI v5, vI j82_l15_10, vI j82_l16_11, vI v15, vI j119_l18_20, vI j119_l19_21, vI v25, vI (1 : Int32), vR b28, vR b101, .unset, .unset] []) := fun t k => pre105 t (st106 t k)
    obtain ⟨lo106, N106, X106⟩ : ∃ lo, Fr n0 lo ∧ Stand p l e room_1 s m #[(.long q0), (.long q1), (.int p2), (.int p3)] below meth c T106 lo 2 5 := ⟨_, Fr.snoc X106 N52 bo101, X106⟩
    have av106 : Arv Z h106 b101 kA101 .int (1 : Int32) [(.int (-1 : Int32))] (.int (0 : Int32)) := Arv.set Ar106 q106 S106 M106 H106 G106 rfl W106 0 rfl (Nat.le_of_ble_eq_true rfl)
    have f107_1 := f103_1.other W106 ne102
    have zz108 : n0 ≤ h106.size := Nat.le_trans zz104 (Keep.of_wr W106).1
    have pre109 : Go p.tables e below S0 T106 (mkF m 250 #[vJ q0, .second, vJ q1, .second, vI p2, vI p3, vI v1, vI v2, vI v3, vI v4, vI (0 : Int32), vI (0 : Int32), vI (0 : Int32), vI v1, vI v5, vI j82_l15_10, vI j82_l16_11, vI v15, vI j119_l18_20, vI j119_l19_21, vI v25, vI (1 : Int32), vR b28, vR b101, .unset, .unset] []) := fun t k => pre106 t (by
      refine XS.iload X106.here hx rfl (hb hby at_217) rfl ?_
      refine XS.iconst X106.here hx rfl (hb hby at_219) ?_
      refine XS.icmpYes X106.here hx rfl (pc0 := 220) (pc' := 228) rfl (hb hby at_220) rfl (flt (by decide : ¬ ((1 : Int32) < (1 : Int32)))).2.2.2 (by decide) (by decide) ?_
      show Steps p.tables e below (T106.setTop (mkF m 228 #[vJ q0, .second, vJ q1, .second, vI p2, vI p3, vI v1, vI v2, vI v3, vI v4, vI (0 : Int32), vI (0 : Int32), vI (0 : Int32), vI v1, vI v5, vI j82_l15_10, vI j82_l16_11, vI v15, vI j119_l18_20, vI j119_l19_21, vI v25, vI (1 : Int32), vR b28, vR b101, .unset, .unset] [])) _
      refine XS.iload X106.here hx rfl (hb hby at_228) rfl ?_
      refine XS.iconst X106.here hx rfl (hb hby at_230) ?_
      refine XS.icmpYes X106.here hx rfl (pc0 := 231) (pc' := 239) rfl (hb hby at_231) rfl (flt (by decide : ¬ ((2 : Int32) < (1 : Int32)))).2.2.2 (by decide) (by decide) ?_
      show Steps p.tables e below (T106.setTop (mkF m 239 #[vJ q0, .second, vJ q1, .second, vI p2, vI p3, vI v1, vI v2, vI v3, vI v4, vI (0 : Int32), vI (0 : Int32), vI (0 : Int32), vI v1, vI v5, vI j82_l15_10, vI j82_l16_11, vI v15, vI j119_l18_20, vI j119_l19_21, vI v25, vI (1 : Int32), vR b28, vR b101, .unset, .unset] [])) _
      refine XS.iload X106.here hx rfl (hb hby at_239) rfl ?_
      refine XS.iconst X106.here hx rfl (hb hby at_241) ?_
      refine XS.icmpYes X106.here hx rfl (pc0 := 242) (pc' := 250) rfl (hb hby at_242) rfl (flt (by decide : ¬ ((3 : Int32) < (1 : Int32)))).2.2.2 (by decide) (by decide) ?_
      show Steps p.tables e below (T106.setTop (mkF m 250 #[vJ q0, .second, vJ q1, .second, vI p2, vI p3, vI v1, vI v2, vI v3, vI v4, vI (0 : Int32), vI (0 : Int32), vI (0 : Int32), vI v1, vI v5, vI j82_l15_10, vI j82_l16_11, vI v15, vI j119_l18_20, vI j119_l19_21, vI v25, vI (1 : Int32), vR b28, vR b101, .unset, .unset] [])) _
      exact k)
    obtain ⟨T110, h110, X110, e110, E110, A110, D110, -, st110⟩ := newO X106 hx hZ hown (hw _ (List.mem_of_getElem? (i := 5) rfl)) (hw _ (List.mem_of_getElem? (i := 6) rfl)) (hw _ (List.mem_of_getElem? (i := 7) rfl)) e106 (g := (mkF m 250 #[vJ q0, .second, vJ q1, .second, vI p2, vI p3, vI v1, vI v2, vI v3, vI v4, vI (0 : Int32), vI (0 : Int32), vI (0 : Int32), vI v1, vI v5, vI j82_l15_10, vI j82_l16_11, vI v15, vI j119_l18_20, vI j119_l19_21, vI v25, vI (1 : Int32), vR b28, vR b101, .unset, .unset] [])) rfl (hb hby at_250) (by decide) (by decide)
    obtain ⟨b110, g110⟩ : ∃ z, z = h106.size := ⟨_, rfl⟩
    rw [← g110] at A110 D110 st110
    have pre110 : Go p.tables e below S0 T110 (mkF m 253 #[vJ q0, .second, vJ q1, .second, vI p2, vI p3, vI v1, vI v2, vI v3, vI v4, vI (0 : Int32), vI (0 : Int32), vI (0 : Int32), vI v1, vI v5, vI j82_l15_10, vI j82_l16_11, vI v15, vI j119_l18_20, vI j119_l19_21, vI v25, vI (1 : Int32), vR b28, vR b101, .unset, .unset] [(.ref b110)]) := fun t k => pre109 t (st110 t k)
    have ne111 : b28 ≠ b110 := Nat.ne_of_lt (Nat.lt_of_lt_of_le f107_1.lt (Nat.le_of_eq g110.symm))
    have ne112 : b101 ≠ b110 := Nat.ne_of_lt (Nat.lt_of_lt_of_le av106.lt (Nat.le_of_eq g110.symm))
    have bo110 : n0 ≤ b110 := Nat.le_trans zz108 (Nat.le_of_eq g110.symm)
    have f113_1 := f107_1.ext E110
    have f113_2 := av106.ext E110
    have zz114 : n0 ≤ h110.size := Nat.le_trans zz108 E110.1
    have fn110_word : Fld Z h110 b110 "com/example/garantia/garantia/engine/StateLayout" "word" "[I" .null := D110 (Or.inr (hw _ (List.mem_of_getElem? (i := 15) rfl))) (ty := (.array .int)) (by decide)
    have fn110_shift : Fld Z h110 b110 "com/example/garantia/garantia/engine/StateLayout" "shift" "[I" .null := D110 (Or.inr (hw _ (List.mem_of_getElem? (i := 17) rfl))) (ty := (.array .int)) (by decide)
    have fn110_mask : Fld Z h110 b110 "com/example/garantia/garantia/engine/StateLayout" "mask" "[J" .null := D110 (Or.inr (hw _ (List.mem_of_getElem? (i := 19) rfl))) (ty := (.array .long)) (by decide)
    have fn110_others : Fld Z h110 b110 "com/example/garantia/garantia/engine/StateLayout" "others" "[J" .null := D110 (Or.inr (hw _ (List.mem_of_getElem? (i := 21) rfl))) (ty := (.array .long)) (by decide)
    have fn110_words : Fld Z h110 b110 "com/example/garantia/garantia/engine/StateLayout" "words" "I" (.int (0 : Int32)) := D110 (Or.inr (hw _ (List.mem_of_getElem? (i := 24) rfl))) (ty := .int) (by decide)
    have fn110_narrow : Fld Z h110 b110 "com/example/garantia/garantia/engine/StateLayout" "narrow" "Z" (.int (0 : Int32)) := D110 (Or.inr (hw _ (List.mem_of_getElem? (i := 26) rfl))) (ty := .boolean) (by decide)
    have pre115 : Go p.tables e below S0 T110 (mkF m 255 #[vJ q0, .second, vJ q1, .second, vI p2, vI p3, vI v1, vI v2, vI v3, vI v4, vI (0 : Int32), vI (0 : Int32), vI (0 : Int32), vI v1, vI v5, vI j82_l15_10, vI j82_l16_11, vI v15, vI j119_l18_20, vI j119_l19_21, vI v25, vI (1 : Int32), vR b28, vR b101, .unset, .unset] [(.int (4 : Int32)), (.ref b110), (.ref b110)]) := fun t k => pre110 t (by
      refine XS.dup X110.here hx rfl (hb hby at_253) rfl rfl ?_
      refine XS.iconst X110.here hx rfl (hb hby at_254) ?_
      exact k)
    obtain ⟨T116, h116, kA116, X116, e116, E116, A116, st116⟩ := newP X110 hx hZ (hw _ (List.mem_of_getElem? (i := 4) rfl)) e110 (g := (mkF m 255 #[vJ q0, .second, vJ q1, .second, vI p2, vI p3, vI v1, vI v2, vI v3, vI v4, vI (0 : Int32), vI (0 : Int32), vI (0 : Int32), vI v1, vI v5, vI j82_l15_10, vI j82_l16_11, vI v15, vI j119_l18_20, vI j119_l19_21, vI v25, vI (1 : Int32), vR b28, vR b101, .unset, .unset] [(.int (4 : Int32)), (.ref b110), (.ref b110)])) rfl (hb hby at_255) rfl (by decide) (cap := 4) (by decide) (by decide) (by decide) (by decide)
    obtain ⟨b116, g116⟩ : ∃ z, z = h110.size := ⟨_, rfl⟩
    rw [← g116] at A116 st116
    have pre116 : Go p.tables e below S0 T116 (mkF m 257 #[vJ q0, .second, vJ q1, .second, vI p2, vI p3, vI v1, vI v2, vI v3, vI v4, vI (0 : Int32), vI (0 : Int32), vI (0 : Int32), vI v1, vI v5, vI j82_l15_10, vI j82_l16_11, vI v15, vI j119_l18_20, vI j119_l19_21, vI v25, vI (1 : Int32), vR b28, vR b101, .unset, .unset] [(.ref b116), (.ref b110), (.ref b110)]) := fun t k => pre115 t (st116 t k)
    have ne117 : b28 ≠ b116 := Nat.ne_of_lt (Nat.lt_of_lt_of_le f113_1.lt (Nat.le_of_eq g116.symm))
    have ne118 : b101 ≠ b116 := Nat.ne_of_lt (Nat.lt_of_lt_of_le f113_2.lt (Nat.le_of_eq g116.symm))
    have ne119 : b110 ≠ b116 := Nat.ne_of_lt (Nat.lt_of_lt_of_le A110.lt (Nat.le_of_eq g116.symm))
    have bo116 : n0 ≤ b116 := Nat.le_trans zz114 (Nat.le_of_eq g116.symm)
    have f120_1 := f113_1.ext E116
    have f120_2 := f113_2.ext E116
    have f120_3 := Exa.ext E116 A110
    have f120_4 := Fld.ext E116 fn110_word
    have f120_5 := Fld.ext E116 fn110_shift
    have f120_6 := Fld.ext E116 fn110_mask
    have f120_7 := Fld.ext E116 fn110_others
    have f120_8 := Fld.ext E116 fn110_words
    have f120_9 := Fld.ext E116 fn110_narrow
    have zz121 : n0 ≤ h116.size := Nat.le_trans zz114 E116.1
    have av116 : Arv Z h116 b116 kA116 .int (4 : Int32) [(.int (0 : Int32)), (.int (0 : Int32)), (.int (0 : Int32)), (.int (0 : Int32))] (.int (0 : Int32)) := (Arv.new A116 (by decide)).pad (pad_rep [] (.int (0 : Int32)) 4)
    have pre122 : Go p.tables e below S0 T116 (mkF m 261 #[vJ q0, .second, vJ q1, .second, vI p2, vI p3, vI v1, vI v2, vI v3, vI v4, vI (0 : Int32), vI (0 : Int32), vI (0 : Int32), vI v1, vI v5, vI j82_l15_10, vI j82_l16_11, vI v15, vI j119_l18_20, vI j119_l19_21, vI v25, vI (1 : Int32), vR b28, vR b101, .unset, .unset] [(.int v1), (.int (0 : Int32)), (.ref b116), (.ref b116), (.ref b110), (.ref b110)]) := fun t k => pre116 t (by
      refine XS.dup X116.here hx rfl (hb hby at_257) rfl rfl ?_
      refine XS.iconst X116.here hx rfl (hb hby at_258) ?_
      refine XS.iload X116.here hx rfl (hb hby at_259) rfl ?_
      show Steps p.tables e below (T116.setTop (mkF m 261 #[vJ q0, .second, vJ q1, .second, vI p2, vI p3, vI v1, vI v2, vI v3, vI v4, vI (0 : Int32), vI (0 : Int32), vI (0 : Int32), vI v1, vI v5, vI j82_l15_10, vI j82_l16_11, vI v15, vI j119_l18_20, vI j119_l19_21, vI v25, vI (1 : Int32), vR b28, vR b101, .unset, .unset] [(.int v1), (.int (0 : Int32)), (.ref b116), (.ref b116), (.ref b110), (.ref b110)])) _
      exact k)
    obtain ⟨cl123, Ar123, q123, S123, M123, H123, G123⟩ := id av116
    have in123 : ¬ ((0 : Int32) < 0 ∨ cl123.slots.size ≤ ((0 : Int32)).toNatClampNeg) := inb_of S123 ⟨by decide, by decide⟩
    obtain ⟨T123, h123, X123, e123, W123, st123⟩ := stI X116 hx hZ e116 Ar123 (j := (0 : Int32)) in123 (g := (mkF m 261 #[vJ q0, .second, vJ q1, .second, vI p2, vI p3, vI v1, vI v2, vI v3, vI v4, vI (0 : Int32), vI (0 : Int32), vI (0 : Int32), vI v1, vI v5, vI j82_l15_10, vI j82_l16_11, vI v15, vI j119_l18_20, vI j119_l19_21, vI v25, vI (1 : Int32), vR b28, vR b101, .unset, .unset] [(.int v1), (.int (0 : Int32)), (.ref b116), (.ref b116), (.ref b110), (.ref b110)])) rfl rfl (hb hby at_261)
    have pre123 : Go p.tables e below S0 T123 (mkF m 262 #[vJ q0, .second, vJ q1, .second, vI p2, vI p3, vI v1, vI v2, vI v3, vI v4, vI (0 : Int32), vI (0 : Int32), vI (0 : Int32), vI v1, vI v5, vI j82_l15_10, vI j82_l16_11, vI v15, vI j119_l18_20, vI j119_l19_21, vI v25, vI (1 : Int32), vR b28, vR b101, .unset, .unset] [(.ref b116), (.ref b110), (.ref b110)]) := fun t k => pre122 t (st123 t k)
    obtain ⟨lo123, N123, X123⟩ : ∃ lo, Fr n0 lo ∧ Stand p l e room_1 s m #[(.long q0), (.long q1), (.int p2), (.int p3)] below meth c T123 lo 4 15 := ⟨_, Fr.snoc X123 N106 bo116, X123⟩
    have av123 : Arv Z h123 b116 kA116 .int (4 : Int32) [(.int v1), (.int (0 : Int32)), (.int (0 : Int32)), (.int (0 : Int32))] (.int (0 : Int32)) := Arv.set Ar123 q123 S123 M123 H123 G123 rfl W123 0 rfl (Nat.le_of_ble_eq_true rfl)
    have f124_1 := f120_1.other W123 ne117
    have f124_2 := f120_2.other W123 ne118
    have f124_3 := Exa.wr W123 f120_3
    have f124_4 := Fld.other W123 f120_4 (Or.inl ne119)
    have f124_5 := Fld.other W123 f120_5 (Or.inl ne119)
    have f124_6 := Fld.other W123 f120_6 (Or.inl ne119)
    have f124_7 := Fld.other W123 f120_7 (Or.inl ne119)
    have f124_8 := Fld.other W123 f120_8 (Or.inl ne119)
    have f124_9 := Fld.other W123 f120_9 (Or.inl ne119)
    have zz125 : n0 ≤ h123.size := Nat.le_trans zz121 (Keep.of_wr W123).1
    have pre126 : Go p.tables e below S0 T123 (mkF m 266 #[vJ q0, .second, vJ q1, .second, vI p2, vI p3, vI v1, vI v2, vI v3, vI v4, vI (0 : Int32), vI (0 : Int32), vI (0 : Int32), vI v1, vI v5, vI j82_l15_10, vI j82_l16_11, vI v15, vI j119_l18_20, vI j119_l19_21, vI v25, vI (1 : Int32), vR b28, vR b101, .unset, .unset] [(.int v2), (.int (1 : Int32)), (.ref b116), (.ref b116), (.ref b110), (.ref b110)]) := fun t k => pre123 t (by
      refine XS.dup X123.here hx rfl (hb hby at_262) rfl rfl ?_
      refine XS.iconst X123.here hx rfl (hb hby at_263) ?_
      refine XS.iload X123.here hx rfl (hb hby at_264) rfl ?_
      show Steps p.tables e below (T123.setTop (mkF m 266 #[vJ q0, .second, vJ q1, .second, vI p2, vI p3, vI v1, vI v2, vI v3, vI v4, vI (0 : Int32), vI (0 : Int32), vI (0 : Int32), vI v1, vI v5, vI j82_l15_10, vI j82_l16_11, vI v15, vI j119_l18_20, vI j119_l19_21, vI v25, vI (1 : Int32), vR b28, vR b101, .unset, .unset] [(.int v2), (.int (1 : Int32)), (.ref b116), (.ref b116), (.ref b110), (.ref b110)])) _
      exact k)
    obtain ⟨cl127, Ar127, q127, S127, M127, H127, G127⟩ := id av123
    have in127 : ¬ ((1 : Int32) < 0 ∨ cl127.slots.size ≤ ((1 : Int32)).toNatClampNeg) := inb_of S127 ⟨by decide, by decide⟩
    obtain ⟨T127, h127, X127, e127, W127, st127⟩ := stI X123 hx hZ e123 Ar127 (j := (1 : Int32)) in127 (g := (mkF m 266 #[vJ q0, .second, vJ q1, .second, vI p2, vI p3, vI v1, vI v2, vI v3, vI v4, vI (0 : Int32), vI (0 : Int32), vI (0 : Int32), vI v1, vI v5, vI j82_l15_10, vI j82_l16_11, vI v15, vI j119_l18_20, vI j119_l19_21, vI v25, vI (1 : Int32), vR b28, vR b101, .unset, .unset] [(.int v2), (.int (1 : Int32)), (.ref b116), (.ref b116), (.ref b110), (.ref b110)])) rfl rfl (hb hby at_266)
    have pre127 : Go p.tables e below S0 T127 (mkF m 267 #[vJ q0, .second, vJ q1, .second, vI p2, vI p3, vI v1, vI v2, vI v3, vI v4, vI (0 : Int32), vI (0 : Int32), vI (0 : Int32), vI v1, vI v5, vI j82_l15_10, vI j82_l16_11, vI v15, vI j119_l18_20, vI j119_l19_21, vI v25, vI (1 : Int32), vR b28, vR b101, .unset, .unset] [(.ref b116), (.ref b110), (.ref b110)]) := fun t k => pre126 t (st127 t k)
    obtain ⟨lo127, N127, X127⟩ : ∃ lo, Fr n0 lo ∧ Stand p l e room_1 s m #[(.long q0), (.long q1), (.int p2), (.int p3)] below meth c T127 lo 4 15 := ⟨_, Fr.snoc X127 N123 bo116, X127⟩
    have av127 : Arv Z h127 b116 kA116 .int (4 : Int32) [(.int v1), (.int v2), (.int (0 : Int32)), (.int (0 : Int32))] (.int (0 : Int32)) := Arv.set Ar127 q127 S127 M127 H127 G127 rfl W127 1 rfl (Nat.le_of_ble_eq_true rfl)
    have f128_1 := f124_1.other W127 ne117
    have f128_2 := f124_2.other W127 ne118
    have f128_3 := Exa.wr W127 f124_3
    have f128_4 := Fld.other W127 f124_4 (Or.inl ne119)
    have f128_5 := Fld.other W127 f124_5 (Or.inl ne119)
    have f128_6 := Fld.other W127 f124_6 (Or.inl ne119)
    have f128_7 := Fld.other W127 f124_7 (Or.inl ne119)
    have f128_8 := Fld.other W127 f124_8 (Or.inl ne119)
    have f128_9 := Fld.other W127 f124_9 (Or.inl ne119)
    have zz129 : n0 ≤ h127.size := Nat.le_trans zz125 (Keep.of_wr W127).1
    have pre130 : Go p.tables e below S0 T127 (mkF m 271 #[vJ q0, .second, vJ q1, .second, vI p2, vI p3, vI v1, vI v2, vI v3, vI v4, vI (0 : Int32), vI (0 : Int32), vI (0 : Int32), vI v1, vI v5, vI j82_l15_10, vI j82_l16_11, vI v15, vI j119_l18_20, vI j119_l19_21, vI v25, vI (1 : Int32), vR b28, vR b101, .unset, .unset] [(.int v3), (.int (2 : Int32)), (.ref b116), (.ref b116), (.ref b110), (.ref b110)]) := fun t k => pre127 t (by
      refine XS.dup X127.here hx rfl (hb hby at_267) rfl rfl ?_
      refine XS.iconst X127.here hx rfl (hb hby at_268) ?_
      refine XS.iload X127.here hx rfl (hb hby at_269) rfl ?_
      show Steps p.tables e below (T127.setTop (mkF m 271 #[vJ q0, .second, vJ q1, .second, vI p2, vI p3, vI v1, vI v2, vI v3, vI v4, vI (0 : Int32), vI (0 : Int32), vI (0 : Int32), vI v1, vI v5, vI j82_l15_10, vI j82_l16_11, vI v15, vI j119_l18_20, vI j119_l19_21, vI v25, vI (1 : Int32), vR b28, vR b101, .unset, .unset] [(.int v3), (.int (2 : Int32)), (.ref b116), (.ref b116), (.ref b110), (.ref b110)])) _
      exact k)
    obtain ⟨cl131, Ar131, q131, S131, M131, H131, G131⟩ := id av127
    have in131 : ¬ ((2 : Int32) < 0 ∨ cl131.slots.size ≤ ((2 : Int32)).toNatClampNeg) := inb_of S131 ⟨by decide, by decide⟩
    obtain ⟨T131, h131, X131, e131, W131, st131⟩ := stI X127 hx hZ e127 Ar131 (j := (2 : Int32)) in131 (g := (mkF m 271 #[vJ q0, .second, vJ q1, .second, vI p2, vI p3, vI v1, vI v2, vI v3, vI v4, vI (0 : Int32), vI (0 : Int32), vI (0 : Int32), vI v1, vI v5, vI j82_l15_10, vI j82_l16_11, vI v15, vI j119_l18_20, vI j119_l19_21, vI v25, vI (1 : Int32), vR b28, vR b101, .unset, .unset] [(.int v3), (.int (2 : Int32)), (.ref b116), (.ref b116), (.ref b110), (.ref b110)])) rfl rfl (hb hby at_271)
    have pre131 : Go p.tables e below S0 T131 (mkF m 272 #[vJ q0, .second, vJ q1, .second, vI p2, vI p3, vI v1, vI v2, vI v3, vI v4, vI (0 : Int32), vI (0 : Int32), vI (0 : Int32), vI v1, vI v5, vI j82_l15_10, vI j82_l16_11, vI v15, vI j119_l18_20, vI j119_l19_21, vI v25, vI (1 : Int32), vR b28, vR b101, .unset, .unset] [(.ref b116), (.ref b110), (.ref b110)]) := fun t k => pre130 t (st131 t k)
    obtain ⟨lo131, N131, X131⟩ : ∃ lo, Fr n0 lo ∧ Stand p l e room_1 s m #[(.long q0), (.long q1), (.int p2), (.int p3)] below meth c T131 lo 4 15 := ⟨_, Fr.snoc X131 N127 bo116, X131⟩
    have av131 : Arv Z h131 b116 kA116 .int (4 : Int32) [(.int v1), (.int v2), (.int v3), (.int (0 : Int32))] (.int (0 : Int32)) := Arv.set Ar131 q131 S131 M131 H131 G131 rfl W131 2 rfl (Nat.le_of_ble_eq_true rfl)
    have f132_1 := f128_1.other W131 ne117
    have f132_2 := f128_2.other W131 ne118
    have f132_3 := Exa.wr W131 f128_3
    have f132_4 := Fld.other W131 f128_4 (Or.inl ne119)
    have f132_5 := Fld.other W131 f128_5 (Or.inl ne119)
    have f132_6 := Fld.other W131 f128_6 (Or.inl ne119)
    have f132_7 := Fld.other W131 f128_7 (Or.inl ne119)
    have f132_8 := Fld.other W131 f128_8 (Or.inl ne119)
    have f132_9 := Fld.other W131 f128_9 (Or.inl ne119)
    have zz133 : n0 ≤ h131.size := Nat.le_trans zz129 (Keep.of_wr W131).1
    have pre134 : Go p.tables e below S0 T131 (mkF m 276 #[vJ q0, .second, vJ q1, .second, vI p2, vI p3, vI v1, vI v2, vI v3, vI v4, vI (0 : Int32), vI (0 : Int32), vI (0 : Int32), vI v1, vI v5, vI j82_l15_10, vI j82_l16_11, vI v15, vI j119_l18_20, vI j119_l19_21, vI v25, vI (1 : Int32), vR b28, vR b101, .unset, .unset] [(.int v4), (.int (3 : Int32)), (.ref b116), (.ref b116), (.ref b110), (.ref b110)]) := fun t k => pre131 t (by
      refine XS.dup X131.here hx rfl (hb hby at_272) rfl rfl ?_
      refine XS.iconst X131.here hx rfl (hb hby at_273) ?_
      refine XS.iload X131.here hx rfl (hb hby at_274) rfl ?_
      show Steps p.tables e below (T131.setTop (mkF m 276 #[vJ q0, .second, vJ q1, .second, vI p2, vI p3, vI v1, vI v2, vI v3, vI v4, vI (0 : Int32), vI (0 : Int32), vI (0 : Int32), vI v1, vI v5, vI j82_l15_10, vI j82_l16_11, vI v15, vI j119_l18_20, vI j119_l19_21, vI v25, vI (1 : Int32), vR b28, vR b101, .unset, .unset] [(.int v4), (.int (3 : Int32)), (.ref b116), (.ref b116), (.ref b110), (.ref b110)])) _
      exact k)
    obtain ⟨cl135, Ar135, q135, S135, M135, H135, G135⟩ := id av131
    have in135 : ¬ ((3 : Int32) < 0 ∨ cl135.slots.size ≤ ((3 : Int32)).toNatClampNeg) := inb_of S135 ⟨by decide, by decide⟩
    obtain ⟨T135, h135, X135, e135, W135, st135⟩ := stI X131 hx hZ e131 Ar135 (j := (3 : Int32)) in135 (g := (mkF m 276 #[vJ q0, .second, vJ q1, .second, vI p2, vI p3, vI v1, vI v2, vI v3, vI v4, vI (0 : Int32), vI (0 : Int32), vI (0 : Int32), vI v1, vI v5, vI j82_l15_10, vI j82_l16_11, vI v15, vI j119_l18_20, vI j119_l19_21, vI v25, vI (1 : Int32), vR b28, vR b101, .unset, .unset] [(.int v4), (.int (3 : Int32)), (.ref b116), (.ref b116), (.ref b110), (.ref b110)])) rfl rfl (hb hby at_276)
    have pre135 : Go p.tables e below S0 T135 (mkF m 277 #[vJ q0, .second, vJ q1, .second, vI p2, vI p3, vI v1, vI v2, vI v3, vI v4, vI (0 : Int32), vI (0 : Int32), vI (0 : Int32), vI v1, vI v5, vI j82_l15_10, vI j82_l16_11, vI v15, vI j119_l18_20, vI j119_l19_21, vI v25, vI (1 : Int32), vR b28, vR b101, .unset, .unset] [(.ref b116), (.ref b110), (.ref b110)]) := fun t k => pre134 t (st135 t k)
    obtain ⟨lo135, N135, X135⟩ : ∃ lo, Fr n0 lo ∧ Stand p l e room_1 s m #[(.long q0), (.long q1), (.int p2), (.int p3)] below meth c T135 lo 4 15 := ⟨_, Fr.snoc X135 N131 bo116, X135⟩
    have av135 : Arv Z h135 b116 kA116 .int (4 : Int32) [(.int v1), (.int v2), (.int v3), (.int v4)] (.int (0 : Int32)) := Arv.set Ar135 q135 S135 M135 H135 G135 rfl W135 3 rfl (Nat.le_of_ble_eq_true rfl)
    have f136_1 := f132_1.other W135 ne117
    have f136_2 := f132_2.other W135 ne118
    have f136_3 := Exa.wr W135 f132_3
    have f136_4 := Fld.other W135 f132_4 (Or.inl ne119)
    have f136_5 := Fld.other W135 f132_5 (Or.inl ne119)
    have f136_6 := Fld.other W135 f132_6 (Or.inl ne119)
    have f136_7 := Fld.other W135 f132_7 (Or.inl ne119)
    have f136_8 := Fld.other W135 f132_8 (Or.inl ne119)
    have f136_9 := Fld.other W135 f132_9 (Or.inl ne119)
    have zz137 : n0 ≤ h135.size := Nat.le_trans zz133 (Keep.of_wr W135).1
    obtain ⟨_, _, ⟨T138, qL138, qk138, qn138⟩, -, X138, ⟨Lc138, hQ138, ql138, qy138, qz138⟩, st138⟩ := X135.specialBack hx (y := (⟨"com/example/garantia/garantia/engine/StateLayout", "<init>", "([I)V"⟩ : MethodName)) rfl hown (mvT hZ (hw _ (List.mem_of_getElem? (i := 8) rfl))) (mvT hZ (hw _ (List.mem_of_getElem? (i := 9) rfl))) (mvT hZ (hw _ (List.mem_of_getElem? (i := 10) rfl))) (by decide) (backOf (W := 1) (rm1 l Z A0 hw [] b110 b116 kA116 v1 v2 v3 v4 h135 n0 zz137 f136_3 f136_4 f136_5 f136_6 f136_7 f136_8 f136_9 av135 (Ne.symm ne119) bo110 hw0 hw1 hw2 hw3) hZ (hw _ (List.mem_of_getElem? (i := 10) rfl)) (hw _ (List.mem_of_getElem? (i := 7) rfl)) (by decide) (by decide)) (g := (mkF m 277 #[vJ q0, .second, vJ q1, .second, vI p2, vI p3, vI v1, vI v2, vI v3, vI v4, vI (0 : Int32), vI (0 : Int32), vI (0 : Int32), vI v1, vI v5, vI j82_l15_10, vI j82_l16_11, vI v15, vI j119_l18_20, vI j119_l19_21, vI v25, vI (1 : Int32), vR b28, vR b101, .unset, .unset] [(.ref b116), (.ref b110), (.ref b110)])) rfl (by rw [hml]; rfl) (Steps.refl _) (a := b110) (argsL := [(.ref b116)]) (rest := [(.ref b110)]) (lenOf pd_0 rfl) rfl (by show 2 * 0 + _ ≤ _; exact Nat.le_of_eq rfl) (hb hby at_277) (fun _ _ => ⟨rfl, e135, (by decide : 4 + 4 ≤ _), (by decide : 15 + 16 ≤ _)⟩)
    dsimp only [Pt.U, Pt.locs, Pt.cells, Pt.slots] at X138 ql138 qy138 qz138 st138 hQ138
    replace X138 := X138.more (Nat.le_of_eq qy138) (Nat.le_of_eq qz138)
    obtain ⟨rfl, Nq138, aw_138, as_138, am_138, ao_138, kw_138, ks_138, km_138, ko_138, c2_138, u2_138, c3_138, u3_138, hq138, ho138, hn138, Kq138, nf138_0, nf138_1, nf138_2, nf138_3, nf138_4, nf138_5, nf138_6, nf138_7, nf138_8, nf138_9⟩ := hQ138
    have N138 : Fr n0 qL138 := by rw [ql138]; exact Fr.app N135 Nq138
    have pre138 : Go p.tables e below S0 T138 (mkF m 280 #[vJ q0, .second, vJ q1, .second, vI p2, vI p3, vI v1, vI v2, vI v3, vI v4, vI (0 : Int32), vI (0 : Int32), vI (0 : Int32), vI v1, vI v5, vI j82_l15_10, vI j82_l16_11, vI v15, vI j119_l18_20, vI j119_l19_21, vI v25, vI (1 : Int32), vR b28, vR b101, .unset, .unset] [(.ref b110)]) := fun t k => pre135 t (st138.trans k)
    have f139_1 := f136_1.keep Kq138 (ninS ne111 nin0)
    have f139_2 := f136_2.keep Kq138 (ninS ne112 nin0)
    have f139_3 := av135.keep Kq138 (ninS (Ne.symm ne119) nin0)
    have zz140 : n0 ≤ T138.heap.size := Nat.le_trans zz137 Kq138.1
    have bo138_0 : n0 ≤ aw_138 := Nat.le_trans zz137 ho138.1
    have nn138_0_0 : b28 ≠ aw_138 := Nat.ne_of_lt (Nat.lt_of_lt_of_le f136_1.lt ho138.1)
    have nn138_0_1 : b101 ≠ aw_138 := Nat.ne_of_lt (Nat.lt_of_lt_of_le f136_2.lt ho138.1)
    have nn138_0_2 : b110 ≠ aw_138 := Nat.ne_of_lt (Nat.lt_of_lt_of_le f136_9.lt ho138.1)
    have nn138_0_3 : b116 ≠ aw_138 := Nat.ne_of_lt (Nat.lt_of_lt_of_le av135.lt ho138.1)
    have bo138_1 : n0 ≤ as_138 := Nat.le_trans zz137 ho138.2.1
    have nn138_1_0 : b28 ≠ as_138 := Nat.ne_of_lt (Nat.lt_of_lt_of_le f136_1.lt ho138.2.1)
    have nn138_1_1 : b101 ≠ as_138 := Nat.ne_of_lt (Nat.lt_of_lt_of_le f136_2.lt ho138.2.1)
    have nn138_1_2 : b110 ≠ as_138 := Nat.ne_of_lt (Nat.lt_of_lt_of_le f136_9.lt ho138.2.1)
    have nn138_1_3 : b116 ≠ as_138 := Nat.ne_of_lt (Nat.lt_of_lt_of_le av135.lt ho138.2.1)
    have bo138_2 : n0 ≤ am_138 := Nat.le_trans zz137 ho138.2.2.1
    have nn138_2_0 : b28 ≠ am_138 := Nat.ne_of_lt (Nat.lt_of_lt_of_le f136_1.lt ho138.2.2.1)
    have nn138_2_1 : b101 ≠ am_138 := Nat.ne_of_lt (Nat.lt_of_lt_of_le f136_2.lt ho138.2.2.1)
    have nn138_2_2 : b110 ≠ am_138 := Nat.ne_of_lt (Nat.lt_of_lt_of_le f136_9.lt ho138.2.2.1)
    have nn138_2_3 : b116 ≠ am_138 := Nat.ne_of_lt (Nat.lt_of_lt_of_le av135.lt ho138.2.2.1)
    have bo138_3 : n0 ≤ ao_138 := Nat.le_trans zz137 ho138.2.2.2
    have nn138_3_0 : b28 ≠ ao_138 := Nat.ne_of_lt (Nat.lt_of_lt_of_le f136_1.lt ho138.2.2.2)
    have nn138_3_1 : b101 ≠ ao_138 := Nat.ne_of_lt (Nat.lt_of_lt_of_le f136_2.lt ho138.2.2.2)
    have nn138_3_2 : b110 ≠ ao_138 := Nat.ne_of_lt (Nat.lt_of_lt_of_le f136_9.lt ho138.2.2.2)
    have nn138_3_3 : b116 ≠ ao_138 := Nat.ne_of_lt (Nat.lt_of_lt_of_le av135.lt ho138.2.2.2)
    have pre141 : Go p.tables e below S0 T138 (mkF m 282 #[vJ q0, .second, vJ q1, .second, vI p2, vI p3, vI v1, vI v2, vI v3, vI v4, vI (0 : Int32), vI (0 : Int32), vI (0 : Int32), vI v1, vI v5, vI j82_l15_10, vI j82_l16_11, vI v15, vI j119_l18_20, vI j119_l19_21, vI v25, vI (1 : Int32), vR b28, vR b101, vR b110, .unset] []) := fun t k => pre138 t (by
      refine XS.astore X138.here hx rfl (hb hby at_280) rfl rfl (l' := #[vJ q0, .second, vJ q1, .second, vI p2, vI p3, vI v1, vI v2, vI v3, vI v4, vI (0 : Int32), vI (0 : Int32), vI (0 : Int32), vI v1, vI v5, vI j82_l15_10, vI j82_l16_11, vI v15, vI j119_l18_20, vI j119_l19_21, vI v25, vI (1 : Int32), vR b28, vR b101, vR b110, .unset]) rfl ?_
      exact k)
    obtain rfl : j82_l15_10 = c2_138 := by rw [hj82_12.1, (hq138.1).1, hv5, Int32.zero_add]
    obtain rfl : j82_l16_11 = u2_138 := by rw [hj82_12.2, (hq138.1).2, hv5, Int32.zero_add]
    obtain rfl : j119_l18_20 = c3_138 := by rw [hj119_22.1, (hq138.2).1, hv15]
    obtain rfl : j119_l19_21 = u3_138 := by rw [hj119_22.2, (hq138.2).2, hv15]
    have hp := own_pat4 hw0 hw1 hw2 hw3 (hq138.1) (hq138.2)
    have hc2 : j82_l15_10 = (0 : Int32) ∨ j82_l15_10 = (1 : Int32) := by rcases hp with q | q | q <;> first | exact Or.inl q.1 | exact Or.inr q.1
    have hc3 : j119_l18_20 = (0 : Int32) ∨ j119_l18_20 = (1 : Int32) := by rcases hp with q | q | q <;> first | exact Or.inl q.2.1 | exact Or.inr q.2.1
    have pre142 : Go p.tables e below S0 T138 (mkF m 290 #[vJ q0, .second, vJ q1, .second, vI p2, vI p3, vI v1, vI v2, vI v3, vI v4, vI (0 : Int32), vI (0 : Int32), vI (0 : Int32), vI v1, vI v5, vI j82_l15_10, vI j82_l16_11, vI v15, vI j119_l18_20, vI j119_l19_21, vI v25, vI (1 : Int32), vR b28, vR b101, vR b110, .unset] [(.ref b101), (.int v25), (.ref b28), (.ref b110)]) := fun t k => pre141 t (by
      refine XS.aload X138.here hx rfl (hb hby at_282) rfl rfl ?_
      refine XS.aload X138.here hx rfl (hb hby at_284) rfl rfl ?_
      refine XS.iload X138.here hx rfl (hb hby at_286) rfl ?_
      show Steps p.tables e below (T138.setTop (mkF m 288 #[vJ q0, .second, vJ q1, .second, vI p2, vI p3, vI v1, vI v2, vI v3, vI v4, vI (0 : Int32), vI (0 : Int32), vI (0 : Int32), vI v1, vI v5, vI j82_l15_10, vI j82_l16_11, vI v15, vI j119_l18_20, vI j119_l19_21, vI v25, vI (1 : Int32), vR b28, vR b101, vR b110, .unset] [(.int v25), (.ref b28), (.ref b110)])) _
      refine XS.aload X138.here hx rfl (hb hby at_288) rfl rfl ?_
      exact k)
    obtain ⟨cq143, kq143, qa143, qb143, qc143⟩ := isOf hZ rfl nf138_0
    obtain ⟨_, _, ⟨T143, qL143, qk143, qn143⟩, -, X143, ⟨Lc143, hQ143, ql143, qy143, qz143⟩, st143⟩ := X138.virtualBack hx (y := (⟨"com/example/garantia/garantia/engine/StateLayout", "unpack", "([JI[I)V"⟩ : MethodName)) (z := (⟨"com/example/garantia/garantia/engine/StateLayout", "unpack", "([JI[I)V"⟩ : MethodName)) hown (mvT hZ (hw _ (List.mem_of_getElem? (i := 27) rfl))) (mvT hZ (hw _ (List.mem_of_getElem? (i := 28) rfl))) (notFace_of_selects (args := #[]) (mvT hZ (hw _ (List.mem_of_getElem? (i := 30) rfl)))) (mvT hZ (hw _ (List.mem_of_getElem? (i := 30) rfl))) (mvT hZ (hw _ (List.mem_of_getElem? (i := 29) rfl))) (by decide) (backOf (W := 0) (rm3_1 l Z A0 hw [] b110 b28 v25 b101 aw_138 as_138 am_138 kw_138 ks_138 km_138 kA28 kA101 (0 : Int32) (0 : Int32) j82_l15_10 j119_l18_20 (0 : Int32) ((0 : Int32) + v1) j82_l16_11 j119_l19_21 (((1 : Int64) <<< (v1 &&& 0x3f).toInt64) - (1 : Int64)) (((1 : Int64) <<< (v2 &&& 0x3f).toInt64) - (1 : Int64)) (((1 : Int64) <<< (v3 &&& 0x3f).toInt64) - (1 : Int64)) (((1 : Int64) <<< (v4 &&& 0x3f).toInt64) - (1 : Int64)) (own_putL (v25 + (1 : Int32)) (0 : Int32) q1 (own_putL v25 (0 : Int32) q0 (q0 ^^^ (-1 : Int64)))) (own_putL (v25 + (1 : Int32)) (1 : Int32) q1 (own_putL v25 (1 : Int32) q0 (q1 ^^^ (-1 : Int64)))) (own_putL (v25 + (1 : Int32)) (2 : Int32) q1 (own_putL v25 (2 : Int32) q0 ((q0 ^^^ (-1 : Int64)) ^^^ (6148914691236517205 : Int64)))) (own_putL (v25 + (1 : Int32)) (3 : Int32) q1 (own_putL v25 (3 : Int32) q0 ((q1 ^^^ (-1 : Int64)) ^^^ (3689348814741910323 : Int64)))) (-1 : Int32) T138.heap n0 zz140 nf138_1 nf138_2 nf138_3 nf138_6 nf138_7 nf138_8 f139_1 f139_2 (Ne.symm ne112) (Ne.symm nn138_0_1) (Ne.symm nn138_1_1) (Ne.symm nn138_2_1) ne102 bo101 (own_oc hoff (Or.inl rfl))) hZ (hw _ (List.mem_of_getElem? (i := 31) rfl)) (hw _ (List.mem_of_getElem? (i := 7) rfl)) (by decide) (by decide)) qa143 qc143 (g := (mkF m 290 #[vJ q0, .second, vJ q1, .second, vI p2, vI p3, vI v1, vI v2, vI v3, vI v4, vI (0 : Int32), vI (0 : Int32), vI (0 : Int32), vI v1, vI v5, vI j82_l15_10, vI j82_l16_11, vI v15, vI j119_l18_20, vI j119_l19_21, vI v25, vI (1 : Int32), vR b28, vR b101, vR b110, .unset] [(.ref b101), (.int v25), (.ref b28), (.ref b110)])) rfl (by rw [hml]; rfl) (Steps.refl _) (argsL := [(.ref b28), (.int v25), (.ref b101)]) (rest := []) (lenOf pd_1 rfl) rfl (by show 2 * 0 + _ ≤ _; exact Nat.le_of_eq rfl) (hb hby at_290) (fun _ _ => ⟨rfl, rfl, (by decide : 8 + 0 ≤ _), (by decide : 31 + 0 ≤ _)⟩)
    dsimp only [Pt.U, Pt.locs, Pt.cells, Pt.slots] at X143 ql143 qy143 qz143 st143 hQ143
    replace X143 := X143.more (Nat.le_of_eq qy143) (Nat.le_of_eq qz143)
    obtain ⟨rfl, Nq143, r143_0, hR143, Kq143, nf143_0⟩ := hQ143
    have N143 : Fr n0 qL143 := by rw [ql143]; exact Fr.app N138 Nq143
    have pre143 : Go p.tables e below S0 T143 (mkF m 293 #[vJ q0, .second, vJ q1, .second, vI p2, vI p3, vI v1, vI v2, vI v3, vI v4, vI (0 : Int32), vI (0 : Int32), vI (0 : Int32), vI v1, vI v5, vI j82_l15_10, vI j82_l16_11, vI v15, vI j119_l18_20, vI j119_l19_21, vI v25, vI (1 : Int32), vR b28, vR b101, vR b110, .unset] []) := fun t k => pre142 t (st143.trans k)
    have f144_1 := f139_1.keep Kq143 (ninS ne102 nin0)
    have f144_2 := Exa.keep nf138_0 Kq143
    have f144_3 := Fld.keep nf138_1 Kq143 (ninS (Ne.symm ne112) nin0)
    have f144_4 := Fld.keep nf138_2 Kq143 (ninS (Ne.symm ne112) nin0)
    have f144_5 := Fld.keep nf138_3 Kq143 (ninS (Ne.symm ne112) nin0)
    have f144_6 := Fld.keep nf138_4 Kq143 (ninS (Ne.symm ne112) nin0)
    have f144_7 := Fld.keep nf138_5 Kq143 (ninS (Ne.symm ne112) nin0)
    have f144_8 := f139_3.keep Kq143 (ninS (Ne.symm ne118) nin0)
    have f144_9 := nf138_6.keep Kq143 (ninS (Ne.symm nn138_0_1) nin0)
    have f144_10 := nf138_7.keep Kq143 (ninS (Ne.symm nn138_1_1) nin0)
    have f144_11 := nf138_8.keep Kq143 (ninS (Ne.symm nn138_2_1) nin0)
    have f144_12 := nf138_9.keep Kq143 (ninS (Ne.symm nn138_3_1) nin0)
    have zz145 : n0 ≤ T143.heap.size := Nat.le_trans zz140 Kq143.1
    have pre146 : Go p.tables e below S0 T143 (mkF m 295 #[vJ q0, .second, vJ q1, .second, vI p2, vI p3, vI v1, vI v2, vI v3, vI v4, vI (0 : Int32), vI (0 : Int32), vI (0 : Int32), vI v1, vI v5, vI j82_l15_10, vI j82_l16_11, vI v15, vI j119_l18_20, vI j119_l19_21, vI v25, vI (1 : Int32), vR b28, vR b101, vR b110, .unset] [(.ref b101)]) := fun t k => pre143 t (by
      refine XS.aload X143.here hx rfl (hb hby at_293) rfl rfl ?_
      exact k)
    obtain ⟨cl147, Ar147, q147, S147, M147, H147, G147⟩ := id nf143_0
    have pre148 : Go p.tables e below S0 T143 (mkF m 321 #[vJ q0, .second, vJ q1, .second, vI p2, vI p3, vI v1, vI v2, vI v3, vI v4, vI (0 : Int32), vI (0 : Int32), vI (0 : Int32), vI v1, vI v5, vI j82_l15_10, vI j82_l16_11, vI v15, vI j119_l18_20, vI j119_l19_21, vI v25, vI (1 : Int32), vR b28, vR b101, vR b110, vI (1 : Int32)] [(.int (0 : Int32)), (.ref b101)]) := fun t k => pre146 t (by
      refine X143.arraylength hx Ar147.1 (State.isArrayOf_alike hZ.alike Ar147.2.1) (g := (mkF m 295 #[vJ q0, .second, vJ q1, .second, vI p2, vI p3, vI v1, vI v2, vI v3, vI v4, vI (0 : Int32), vI (0 : Int32), vI (0 : Int32), vI v1, vI v5, vI j82_l15_10, vI j82_l16_11, vI v15, vI j119_l18_20, vI j119_l19_21, vI v25, vI (1 : Int32), vR b28, vR b101, vR b110, .unset] [(.ref b101)])) rfl rfl (hb hby at_295) _ ?_
      rw [len_of S147 M147]
      refine XS.iload X143.here hx rfl (hb hby at_296) rfl ?_
      refine XS.icmpNo X143.here hx rfl (hb hby at_298) rfl (teq (rfl : (1 : Int32) = (1 : Int32))).2 ?_
      show Steps p.tables e below (T143.setTop (mkF m 301 #[vJ q0, .second, vJ q1, .second, vI p2, vI p3, vI v1, vI v2, vI v3, vI v4, vI (0 : Int32), vI (0 : Int32), vI (0 : Int32), vI v1, vI v5, vI j82_l15_10, vI j82_l16_11, vI v15, vI j119_l18_20, vI j119_l19_21, vI v25, vI (1 : Int32), vR b28, vR b101, vR b110, .unset] [])) _
      refine XS.iconst X143.here hx rfl (hb hby at_301) ?_
      refine XS.goto X143.here hx rfl (pc0 := 302) (pc' := 306) rfl (hb hby at_302) (by decide) (by decide) ?_
      refine XS.istore X143.here hx rfl (hb hby at_306) rfl (l' := #[vJ q0, .second, vJ q1, .second, vI p2, vI p3, vI v1, vI v2, vI v3, vI v4, vI (0 : Int32), vI (0 : Int32), vI (0 : Int32), vI v1, vI v5, vI j82_l15_10, vI j82_l16_11, vI v15, vI j119_l18_20, vI j119_l19_21, vI v25, vI (1 : Int32), vR b28, vR b101, vR b110, vI (1 : Int32)]) rfl ?_
      show Steps p.tables e below (T143.setTop (mkF m 308 #[vJ q0, .second, vJ q1, .second, vI p2, vI p3, vI v1, vI v2, vI v3, vI v4, vI (0 : Int32), vI (0 : Int32), vI (0 : Int32), vI v1, vI v5, vI j82_l15_10, vI j82_l16_11, vI v15, vI j119_l18_20, vI j119_l19_21, vI v25, vI (1 : Int32), vR b28, vR b101, vR b110, vI (1 : Int32)] [])) _
      refine XS.iload X143.here hx rfl (hb hby at_308) rfl ?_
      refine XS.ifNo X143.here hx rfl (hb hby at_310) rfl ((if0 _ _).trans (tlt (by decide : (0 : Int32) < (1 : Int32))).2.2.2) ?_
      refine XS.iload X143.here hx rfl (hb hby at_313) rfl ?_
      show Steps p.tables e below (T143.setTop (mkF m 315 #[vJ q0, .second, vJ q1, .second, vI p2, vI p3, vI v1, vI v2, vI v3, vI v4, vI (0 : Int32), vI (0 : Int32), vI (0 : Int32), vI v1, vI v5, vI j82_l15_10, vI j82_l16_11, vI v15, vI j119_l18_20, vI j119_l19_21, vI v25, vI (1 : Int32), vR b28, vR b101, vR b110, vI (1 : Int32)] [(.int (1 : Int32))])) _
      refine XS.ifNo X143.here hx rfl (hb hby at_315) rfl ((if0 _ _).trans (feq (by decide : ¬ ((1 : Int32) = (0 : Int32)))).1) ?_
      refine XS.aload X143.here hx rfl (hb hby at_318) rfl rfl ?_
      refine XS.iconst X143.here hx rfl (hb hby at_320) ?_
      show Steps p.tables e below (T143.setTop (mkF m 321 #[vJ q0, .second, vJ q1, .second, vI p2, vI p3, vI v1, vI v2, vI v3, vI v4, vI (0 : Int32), vI (0 : Int32), vI (0 : Int32), vI v1, vI v5, vI j82_l15_10, vI j82_l16_11, vI v15, vI j119_l18_20, vI j119_l19_21, vI v25, vI (1 : Int32), vR b28, vR b101, vR b110, vI (1 : Int32)] [(.int (0 : Int32)), (.ref b101)])) _
      exact k)
    obtain ⟨cl149, Ar149, q149, S149, M149, H149, G149⟩ := id nf143_0
    have in149 : ¬ ((0 : Int32) < 0 ∨ cl149.slots.size ≤ ((0 : Int32)).toNatClampNeg) := inb_of S149 ⟨by decide, by decide⟩
    have at149 : cl149.slots[((0 : Int32)).toNatClampNeg]? = some (.int r143_0) := H149.at in149 rfl
    have pre150 : Go p.tables e below S0 T143 (mkF m 326 #[vJ q0, .second, vJ q1, .second, vI p2, vI p3, vI v1, vI v2, vI v3, vI v4, vI (0 : Int32), vI (0 : Int32), vI (0 : Int32), vI v1, vI v5, vI j82_l15_10, vI j82_l16_11, vI v15, vI j119_l18_20, vI j119_l19_21, vI v25, vI (1 : Int32), vR b28, vR b101, vR b110, vI (1 : Int32)] [(.int (0 : Int32)), (.long q1), (.long q0), (.int r143_0)]) := fun t k => pre148 t (by
      refine X143.iaload hx (j := (0 : Int32)) (v := (.int r143_0)) Ar149.1 (State.isArrayOf_alike hZ.alike Ar149.2.1) Ar149.2.2 in149 at149 (g := (mkF m 321 #[vJ q0, .second, vJ q1, .second, vI p2, vI p3, vI v1, vI v2, vI v3, vI v4, vI (0 : Int32), vI (0 : Int32), vI (0 : Int32), vI v1, vI v5, vI j82_l15_10, vI j82_l16_11, vI v15, vI j119_l18_20, vI j119_l19_21, vI v25, vI (1 : Int32), vR b28, vR b101, vR b110, vI (1 : Int32)] [(.int (0 : Int32)), (.ref b101)])) rfl rfl (hb hby at_321) _ ?_
      refine XS.lloadN X143.here hx rfl (hb hby at_322) rfl ?_
      refine XS.lloadN X143.here hx rfl (hb hby at_323) rfl ?_
      show Steps p.tables e below (T143.setTop (mkF m 324 #[vJ q0, .second, vJ q1, .second, vI p2, vI p3, vI v1, vI v2, vI v3, vI v4, vI (0 : Int32), vI (0 : Int32), vI (0 : Int32), vI v1, vI v5, vI j82_l15_10, vI j82_l16_11, vI v15, vI j119_l18_20, vI j119_l19_21, vI v25, vI (1 : Int32), vR b28, vR b101, vR b110, vI (1 : Int32)] [(.long q1), (.long q0), (.int r143_0)])) _
      refine XS.iload X143.here hx rfl (hb hby at_324) rfl ?_
      exact k)
    obtain ⟨_, _, ⟨T151, qL151, qk151, qn151⟩, -, X151, ⟨Lc151, hQ151, ql151, qy151, qz151⟩, st151⟩ := Jvm.LawKit.callS X143 hx (y := (⟨"com/example/garantia/garantia/engine/StateLayoutUnpackPinLaw", "pick", "(JJI)J"⟩ : MethodName)) hown (mvT hZ (hw _ (List.mem_of_getElem? (i := 32) rfl))) (mvT hZ (hw _ (List.mem_of_getElem? (i := 33) rfl))) (mvT hZ (hw _ (List.mem_of_getElem? (i := 34) rfl))) (mvT hZ (hw _ (List.mem_of_getElem? (i := 35) rfl))) (by decide) (backOf (W := 1) (rm4 l Z A0 hw [] q0 q1 (0 : Int32) T143.heap n0 zz145) hZ (hw _ (List.mem_of_getElem? (i := 35) rfl)) (hw _ (List.mem_of_getElem? (i := 34) rfl)) (by decide) (by decide)) (g := (mkF m 326 #[vJ q0, .second, vJ q1, .second, vI p2, vI p3, vI v1, vI v2, vI v3, vI v4, vI (0 : Int32), vI (0 : Int32), vI (0 : Int32), vI v1, vI v5, vI j82_l15_10, vI j82_l16_11, vI v15, vI j119_l18_20, vI j119_l19_21, vI v25, vI (1 : Int32), vR b28, vR b101, vR b110, vI (1 : Int32)] [(.int (0 : Int32)), (.long q1), (.long q0), (.int r143_0)])) rfl (by rw [hml]; rfl) (argsL := [(.long q0), (.long q1), (.int (0 : Int32))]) (rest := [(.int r143_0)]) (lenOf pd_2 rfl) rfl (by show 2 * 0 + _ ≤ _; exact Nat.le_of_eq rfl) (hb hby at_326) (fun _ _ => ⟨rfl, rfl, (by decide : 8 + 0 ≤ _), (by decide : 31 + 0 ≤ _)⟩)
    dsimp only [Pt.U, Pt.locs, Pt.cells, Pt.slots] at X151 ql151 qy151 qz151 st151 hQ151
    replace X151 := X151.more (Nat.le_of_eq qy151) (Nat.le_of_eq qz151)
    obtain ⟨rfl, Nq151, eq151⟩ := hQ151
    have N151 : Fr n0 qL151 := by rw [ql151]; exact Fr.app N143 Nq151
    have pre151 : Go p.tables e below S0 T151 (mkF m 329 #[vJ q0, .second, vJ q1, .second, vI p2, vI p3, vI v1, vI v2, vI v3, vI v4, vI (0 : Int32), vI (0 : Int32), vI (0 : Int32), vI v1, vI v5, vI j82_l15_10, vI j82_l16_11, vI v15, vI j119_l18_20, vI j119_l19_21, vI v25, vI (1 : Int32), vR b28, vR b101, vR b110, vI (1 : Int32)] [(.long (own_pick q0 q1 (0 : Int32))), (.int r143_0)]) := fun t k => pre150 t (st151 t k)
    have pre152 : Go p.tables e below S0 T151 (mkF m 333 #[vJ q0, .second, vJ q1, .second, vI p2, vI p3, vI v1, vI v2, vI v3, vI v4, vI (0 : Int32), vI (0 : Int32), vI (0 : Int32), vI v1, vI v5, vI j82_l15_10, vI j82_l16_11, vI v15, vI j119_l18_20, vI j119_l19_21, vI v25, vI (1 : Int32), vR b28, vR b101, vR b110, vI (1 : Int32)] [(.int v1), (.int (0 : Int32)), (.long (own_pick q0 q1 (0 : Int32))), (.int r143_0)]) := fun t k => pre151 t (by
      refine XS.iload X151.here hx rfl (hb hby at_329) rfl ?_
      refine XS.iload X151.here hx rfl (hb hby at_331) rfl ?_
      exact k)
    obtain ⟨_, _, ⟨T153, qL153, qk153, qn153⟩, -, X153, ⟨Lc153, hQ153, ql153, qy153, qz153⟩, st153⟩ := Jvm.LawKit.callS X151 hx (y := (⟨"com/example/garantia/garantia/engine/StateLayoutUnpackPinLaw", "ref", "(JII)I"⟩ : MethodName)) hown (mvT hZ (hw _ (List.mem_of_getElem? (i := 36) rfl))) (mvT hZ (hw _ (List.mem_of_getElem? (i := 37) rfl))) (mvT hZ (hw _ (List.mem_of_getElem? (i := 34) rfl))) (mvT hZ (hw _ (List.mem_of_getElem? (i := 38) rfl))) (by decide) (backOf (W := 1) (rm5 l Z A0 hw [] (own_pick q0 q1 (0 : Int32)) (0 : Int32) v1 T143.heap n0 zz145) hZ (hw _ (List.mem_of_getElem? (i := 38) rfl)) (hw _ (List.mem_of_getElem? (i := 34) rfl)) (by decide) (by decide)) (g := (mkF m 333 #[vJ q0, .second, vJ q1, .second, vI p2, vI p3, vI v1, vI v2, vI v3, vI v4, vI (0 : Int32), vI (0 : Int32), vI (0 : Int32), vI v1, vI v5, vI j82_l15_10, vI j82_l16_11, vI v15, vI j119_l18_20, vI j119_l19_21, vI v25, vI (1 : Int32), vR b28, vR b101, vR b110, vI (1 : Int32)] [(.int v1), (.int (0 : Int32)), (.long (own_pick q0 q1 (0 : Int32))), (.int r143_0)])) rfl (by rw [hml]; rfl) (argsL := [(.long (own_pick q0 q1 (0 : Int32))), (.int (0 : Int32)), (.int v1)]) (rest := [(.int r143_0)]) (lenOf pd_3 rfl) rfl (by show 2 * 0 + _ ≤ _; exact Nat.le_of_eq rfl) (hb hby at_333) (fun _ _ => ⟨rfl, eq151, (by decide : 8 + 0 ≤ _), (by decide : 31 + 0 ≤ _)⟩)
    dsimp only [Pt.U, Pt.locs, Pt.cells, Pt.slots] at X153 ql153 qy153 qz153 st153 hQ153
    replace X153 := X153.more (Nat.le_of_eq qy153) (Nat.le_of_eq qz153)
    obtain ⟨rfl, Nq153, eq153⟩ := hQ153
    have N153 : Fr n0 qL153 := by rw [ql153]; exact Fr.app N151 Nq153
    have pre153 : Go p.tables e below S0 T153 (mkF m 336 #[vJ q0, .second, vJ q1, .second, vI p2, vI p3, vI v1, vI v2, vI v3, vI v4, vI (0 : Int32), vI (0 : Int32), vI (0 : Int32), vI v1, vI v5, vI j82_l15_10, vI j82_l16_11, vI v15, vI j119_l18_20, vI j119_l19_21, vI v25, vI (1 : Int32), vR b28, vR b101, vR b110, vI (1 : Int32)] [(.int (own_ref (own_pick q0 q1 (0 : Int32)) (0 : Int32) v1)), (.int r143_0)]) := fun t k => pre152 t (st153 t k)
    have cc154 : r143_0 = (own_ref (own_pick q0 q1 (0 : Int32)) (0 : Int32) v1) := own_key (f := 0) hR143 (own_from hoff (Or.inl rfl)) (by decide) hw0 (by show (0 : Int) + _ ≤ 64; omega)
    have pre155 : Go p.tables e below S0 T153 (mkF m 465 #[vJ q0, .second, vJ q1, .second, vI p2, vI p3, vI v1, vI v2, vI v3, vI v4, vI (0 : Int32), vI (0 : Int32), vI (0 : Int32), vI v1, vI v5, vI j82_l15_10, vI j82_l16_11, vI v15, vI j119_l18_20, vI j119_l19_21, vI v25, vI (1 : Int32), vR b28, vR b101, vR b110, vI (1 : Int32)] [(.int (1 : Int32))]) := fun t k => pre153 t (by
      refine XS.icmpNo X153.here hx rfl (hb hby at_336) rfl (teq cc154).2 ?_
      refine XS.iconst X153.here hx rfl (hb hby at_339) ?_
      refine XS.goto X153.here hx rfl (pc0 := 340) (pc' := 344) rfl (hb hby at_340) (by decide) (by decide) ?_
      show Steps p.tables e below (T153.setTop (mkF m 344 #[vJ q0, .second, vJ q1, .second, vI p2, vI p3, vI v1, vI v2, vI v3, vI v4, vI (0 : Int32), vI (0 : Int32), vI (0 : Int32), vI v1, vI v5, vI j82_l15_10, vI j82_l16_11, vI v15, vI j119_l18_20, vI j119_l19_21, vI v25, vI (1 : Int32), vR b28, vR b101, vR b110, vI (1 : Int32)] [(.int (1 : Int32))])) _
      refine XS.istore X153.here hx rfl (hb hby at_344) rfl (l' := #[vJ q0, .second, vJ q1, .second, vI p2, vI p3, vI v1, vI v2, vI v3, vI v4, vI (0 : Int32), vI (0 : Int32), vI (0 : Int32), vI v1, vI v5, vI j82_l15_10, vI j82_l16_11, vI v15, vI j119_l18_20, vI j119_l19_21, vI v25, vI (1 : Int32), vR b28, vR b101, vR b110, vI (1 : Int32)]) rfl ?_
      refine XS.iload X153.here hx rfl (hb hby at_346) rfl ?_
      refine XS.iconst X153.here hx rfl (hb hby at_348) ?_
      show Steps p.tables e below (T153.setTop (mkF m 349 #[vJ q0, .second, vJ q1, .second, vI p2, vI p3, vI v1, vI v2, vI v3, vI v4, vI (0 : Int32), vI (0 : Int32), vI (0 : Int32), vI v1, vI v5, vI j82_l15_10, vI j82_l16_11, vI v15, vI j119_l18_20, vI j119_l19_21, vI v25, vI (1 : Int32), vR b28, vR b101, vR b110, vI (1 : Int32)] [(.int (1 : Int32)), (.int (1 : Int32))])) _
      refine XS.icmpYes X153.here hx rfl (pc0 := 349) (pc' := 385) rfl (hb hby at_349) rfl (flt (by decide : ¬ ((1 : Int32) < (1 : Int32)))).2.2.2 (by decide) (by decide) ?_
      refine XS.iload X153.here hx rfl (hb hby at_385) rfl ?_
      refine XS.iconst X153.here hx rfl (hb hby at_387) ?_
      show Steps p.tables e below (T153.setTop (mkF m 388 #[vJ q0, .second, vJ q1, .second, vI p2, vI p3, vI v1, vI v2, vI v3, vI v4, vI (0 : Int32), vI (0 : Int32), vI (0 : Int32), vI v1, vI v5, vI j82_l15_10, vI j82_l16_11, vI v15, vI j119_l18_20, vI j119_l19_21, vI v25, vI (1 : Int32), vR b28, vR b101, vR b110, vI (1 : Int32)] [(.int (2 : Int32)), (.int (1 : Int32))])) _
      refine XS.icmpYes X153.here hx rfl (pc0 := 388) (pc' := 424) rfl (hb hby at_388) rfl (flt (by decide : ¬ ((2 : Int32) < (1 : Int32)))).2.2.2 (by decide) (by decide) ?_
      refine XS.iload X153.here hx rfl (hb hby at_424) rfl ?_
      refine XS.iconst X153.here hx rfl (hb hby at_426) ?_
      show Steps p.tables e below (T153.setTop (mkF m 427 #[vJ q0, .second, vJ q1, .second, vI p2, vI p3, vI v1, vI v2, vI v3, vI v4, vI (0 : Int32), vI (0 : Int32), vI (0 : Int32), vI v1, vI v5, vI j82_l15_10, vI j82_l16_11, vI v15, vI j119_l18_20, vI j119_l19_21, vI v25, vI (1 : Int32), vR b28, vR b101, vR b110, vI (1 : Int32)] [(.int (3 : Int32)), (.int (1 : Int32))])) _
      refine XS.icmpYes X153.here hx rfl (pc0 := 427) (pc' := 463) rfl (hb hby at_427) rfl (flt (by decide : ¬ ((3 : Int32) < (1 : Int32)))).2.2.2 (by decide) (by decide) ?_
      refine XS.iload X153.here hx rfl (hb hby at_463) rfl ?_
      exact k)
    obtain ⟨fs, hr, hrun, hended, hW, hsame⟩ := X153.leave (v := some (.int (1 : Int32))) (fun h => by rw [Bd.returns] at h; cases h)
    exact ⟨_, _, pre155.fin hS0 (retN X153 hx (t := .boolean) Bd.returns (by simp) (hb hby at_465) hr), hrun, hended, _, _, rfl, (by
      show Q0 Z q0 q1 p2 p3 h0 n0 _ T153.heap _
      rw [eq153]
      exact ⟨rfl, N153⟩), ⟨_, rfl⟩, hW, hsame.mono (by decide) (by decide)⟩
  · skip
    have pre156 : Go p.tables e below S0 T52 (mkF m 203 #[vJ q0, .second, vJ q1, .second, vI p2, vI p3, vI v1, vI v2, vI v3, vI v4, vI (0 : Int32), vI (0 : Int32), vI (0 : Int32), vI v1, vI v5, vI j82_l15_10, vI j82_l16_11, vI v15, vI j119_l18_20, vI j119_l19_21, vI v25, vI (2 : Int32), vR b28, .unset, .unset, .unset] [(.int (2 : Int32))]) := fun t k => pre52 t (by
      refine XS.iload X52.here hx rfl (hb hby at_201) rfl ?_
      exact k)
    obtain ⟨T157, h157, kA157, X157, e157, E157, A157, st157⟩ := newP X52 hx hZ (hw _ (List.mem_of_getElem? (i := 4) rfl)) e52 (g := (mkF m 203 #[vJ q0, .second, vJ q1, .second, vI p2, vI p3, vI v1, vI v2, vI v3, vI v4, vI (0 : Int32), vI (0 : Int32), vI (0 : Int32), vI v1, vI v5, vI j82_l15_10, vI j82_l16_11, vI v15, vI j119_l18_20, vI j119_l19_21, vI v25, vI (2 : Int32), vR b28, .unset, .unset, .unset] [(.int (2 : Int32))])) rfl (hb hby at_203) rfl (by decide) (cap := 2) (by decide) (by decide) (by decide) (by decide)
    obtain ⟨b157, g157⟩ : ∃ z, z = h52.size := ⟨_, rfl⟩
    rw [← g157] at A157 st157
    have pre157 : Go p.tables e below S0 T157 (mkF m 205 #[vJ q0, .second, vJ q1, .second, vI p2, vI p3, vI v1, vI v2, vI v3, vI v4, vI (0 : Int32), vI (0 : Int32), vI (0 : Int32), vI v1, vI v5, vI j82_l15_10, vI j82_l16_11, vI v15, vI j119_l18_20, vI j119_l19_21, vI v25, vI (2 : Int32), vR b28, .unset, .unset, .unset] [(.ref b157)]) := fun t k => pre156 t (st157 t k)
    have ne158 : b28 ≠ b157 := Nat.ne_of_lt (Nat.lt_of_lt_of_le av52.lt (Nat.le_of_eq g157.symm))
    have bo157 : n0 ≤ b157 := Nat.le_trans zz54 (Nat.le_of_eq g157.symm)
    have f159_1 := av52.ext E157
    have zz160 : n0 ≤ h157.size := Nat.le_trans zz54 E157.1
    have av157 : Arv Z h157 b157 kA157 .int (2 : Int32) [(.int (0 : Int32)), (.int (0 : Int32))] (.int (0 : Int32)) := (Arv.new A157 (by decide)).pad (pad_rep [] (.int (0 : Int32)) 2)
    have pre161 : Go p.tables e below S0 T157 (mkF m 216 #[vJ q0, .second, vJ q1, .second, vI p2, vI p3, vI v1, vI v2, vI v3, vI v4, vI (0 : Int32), vI (0 : Int32), vI (0 : Int32), vI v1, vI v5, vI j82_l15_10, vI j82_l16_11, vI v15, vI j119_l18_20, vI j119_l19_21, vI v25, vI (2 : Int32), vR b28, vR b157, .unset, .unset] [(.int (-1 : Int32)), (.int (0 : Int32)), (.ref b157)]) := fun t k => pre157 t (by
      refine XS.astore X157.here hx rfl (hb hby at_205) rfl rfl (l' := #[vJ q0, .second, vJ q1, .second, vI p2, vI p3, vI v1, vI v2, vI v3, vI v4, vI (0 : Int32), vI (0 : Int32), vI (0 : Int32), vI v1, vI v5, vI j82_l15_10, vI j82_l16_11, vI v15, vI j119_l18_20, vI j119_l19_21, vI v25, vI (2 : Int32), vR b28, vR b157, .unset, .unset]) rfl ?_
      refine XS.iload X157.here hx rfl (hb hby at_207) rfl ?_
      refine XS.ifNo X157.here hx rfl (hb hby at_209) rfl ((if0 _ _).trans (tlt (by decide : (0 : Int32) < (2 : Int32))).2.2.2) ?_
      show Steps p.tables e below (T157.setTop (mkF m 212 #[vJ q0, .second, vJ q1, .second, vI p2, vI p3, vI v1, vI v2, vI v3, vI v4, vI (0 : Int32), vI (0 : Int32), vI (0 : Int32), vI v1, vI v5, vI j82_l15_10, vI j82_l16_11, vI v15, vI j119_l18_20, vI j119_l19_21, vI v25, vI (2 : Int32), vR b28, vR b157, .unset, .unset] [])) _
      refine XS.aload X157.here hx rfl (hb hby at_212) rfl rfl ?_
      refine XS.iconst X157.here hx rfl (hb hby at_214) ?_
      refine XS.iconst X157.here hx rfl (hb hby at_215) ?_
      show Steps p.tables e below (T157.setTop (mkF m 216 #[vJ q0, .second, vJ q1, .second, vI p2, vI p3, vI v1, vI v2, vI v3, vI v4, vI (0 : Int32), vI (0 : Int32), vI (0 : Int32), vI v1, vI v5, vI j82_l15_10, vI j82_l16_11, vI v15, vI j119_l18_20, vI j119_l19_21, vI v25, vI (2 : Int32), vR b28, vR b157, .unset, .unset] [(.int (-1 : Int32)), (.int (0 : Int32)), (.ref b157)])) _
      exact k)
    obtain ⟨cl162, Ar162, q162, S162, M162, H162, G162⟩ := id av157
    have in162 : ¬ ((0 : Int32) < 0 ∨ cl162.slots.size ≤ ((0 : Int32)).toNatClampNeg) := inb_of S162 ⟨by decide, by decide⟩
    obtain ⟨T162, h162, X162, e162, W162, st162⟩ := stI X157 hx hZ e157 Ar162 (j := (0 : Int32)) in162 (g := (mkF m 216 #[vJ q0, .second, vJ q1, .second, vI p2, vI p3, vI v1, vI v2, vI v3, vI v4, vI (0 : Int32), vI (0 : Int32), vI (0 : Int32), vI v1, vI v5, vI j82_l15_10, vI j82_l16_11, vI v15, vI j119_l18_20, vI j119_l19_21, vI v25, vI (2 : Int32), vR b28, vR b157, .unset, .unset] [(.int (-1 : Int32)), (.int (0 : Int32)), (.ref b157)])) rfl rfl (hb hby at_216)
    have pre162 : Go p.tables e below S0 T162 (mkF m 217 #[vJ q0, .second, vJ q1, .second, vI p2, vI p3, vI v1, vI v2, vI v3, vI v4, vI (0 : Int32), vI (0 : Int32), vI (0 : Int32), vI v1, vI v5, vI j82_l15_10, vI j82_l16_11, vI v15, vI j119_l18_20, vI j119_l19_21, vI v25, vI (2 : Int32), vR b28, vR b157, .unset, .unset] []) := fun t k => pre161 t (st162 t k)
    obtain ⟨lo162, N162, X162⟩ : ∃ lo, Fr n0 lo ∧ Stand p l e room_1 s m #[(.long q0), (.long q1), (.int p2), (.int p3)] below meth c T162 lo 2 6 := ⟨_, Fr.snoc X162 N52 bo157, X162⟩
    have av162 : Arv Z h162 b157 kA157 .int (2 : Int32) [(.int (-1 : Int32)), (.int (0 : Int32))] (.int (0 : Int32)) := Arv.set Ar162 q162 S162 M162 H162 G162 rfl W162 0 rfl (Nat.le_of_ble_eq_true rfl)
    have f163_1 := f159_1.other W162 ne158
    have zz164 : n0 ≤ h162.size := Nat.le_trans zz160 (Keep.of_wr W162).1
    have pre165 : Go p.tables e below S0 T162 (mkF m 227 #[vJ q0, .second, vJ q1, .second, vI p2, vI p3, vI v1, vI v2, vI v3, vI v4, vI (0 : Int32), vI (0 : Int32), vI (0 : Int32), vI v1, vI v5, vI j82_l15_10, vI j82_l16_11, vI v15, vI j119_l18_20, vI j119_l19_21, vI v25, vI (2 : Int32), vR b28, vR b157, .unset, .unset] [(.int (-1 : Int32)), (.int (1 : Int32)), (.ref b157)]) := fun t k => pre162 t (by
      refine XS.iload X162.here hx rfl (hb hby at_217) rfl ?_
      refine XS.iconst X162.here hx rfl (hb hby at_219) ?_
      refine XS.icmpNo X162.here hx rfl (hb hby at_220) rfl (tlt (by decide : (1 : Int32) < (2 : Int32))).2.2.2 ?_
      show Steps p.tables e below (T162.setTop (mkF m 223 #[vJ q0, .second, vJ q1, .second, vI p2, vI p3, vI v1, vI v2, vI v3, vI v4, vI (0 : Int32), vI (0 : Int32), vI (0 : Int32), vI v1, vI v5, vI j82_l15_10, vI j82_l16_11, vI v15, vI j119_l18_20, vI j119_l19_21, vI v25, vI (2 : Int32), vR b28, vR b157, .unset, .unset] [])) _
      refine XS.aload X162.here hx rfl (hb hby at_223) rfl rfl ?_
      refine XS.iconst X162.here hx rfl (hb hby at_225) ?_
      refine XS.iconst X162.here hx rfl (hb hby at_226) ?_
      show Steps p.tables e below (T162.setTop (mkF m 227 #[vJ q0, .second, vJ q1, .second, vI p2, vI p3, vI v1, vI v2, vI v3, vI v4, vI (0 : Int32), vI (0 : Int32), vI (0 : Int32), vI v1, vI v5, vI j82_l15_10, vI j82_l16_11, vI v15, vI j119_l18_20, vI j119_l19_21, vI v25, vI (2 : Int32), vR b28, vR b157, .unset, .unset] [(.int (-1 : Int32)), (.int (1 : Int32)), (.ref b157)])) _
      exact k)
    obtain ⟨cl166, Ar166, q166, S166, M166, H166, G166⟩ := id av162
    have in166 : ¬ ((1 : Int32) < 0 ∨ cl166.slots.size ≤ ((1 : Int32)).toNatClampNeg) := inb_of S166 ⟨by decide, by decide⟩
    obtain ⟨T166, h166, X166, e166, W166, st166⟩ := stI X162 hx hZ e162 Ar166 (j := (1 : Int32)) in166 (g := (mkF m 227 #[vJ q0, .second, vJ q1, .second, vI p2, vI p3, vI v1, vI v2, vI v3, vI v4, vI (0 : Int32), vI (0 : Int32), vI (0 : Int32), vI v1, vI v5, vI j82_l15_10, vI j82_l16_11, vI v15, vI j119_l18_20, vI j119_l19_21, vI v25, vI (2 : Int32), vR b28, vR b157, .unset, .unset] [(.int (-1 : Int32)), (.int (1 : Int32)), (.ref b157)])) rfl rfl (hb hby at_227)
    have pre166 : Go p.tables e below S0 T166 (mkF m 228 #[vJ q0, .second, vJ q1, .second, vI p2, vI p3, vI v1, vI v2, vI v3, vI v4, vI (0 : Int32), vI (0 : Int32), vI (0 : Int32), vI v1, vI v5, vI j82_l15_10, vI j82_l16_11, vI v15, vI j119_l18_20, vI j119_l19_21, vI v25, vI (2 : Int32), vR b28, vR b157, .unset, .unset] []) := fun t k => pre165 t (st166 t k)
    obtain ⟨lo166, N166, X166⟩ : ∃ lo, Fr n0 lo ∧ Stand p l e room_1 s m #[(.long q0), (.long q1), (.int p2), (.int p3)] below meth c T166 lo 2 6 := ⟨_, Fr.snoc X166 N162 bo157, X166⟩
    have av166 : Arv Z h166 b157 kA157 .int (2 : Int32) [(.int (-1 : Int32)), (.int (-1 : Int32))] (.int (0 : Int32)) := Arv.set Ar166 q166 S166 M166 H166 G166 rfl W166 1 rfl (Nat.le_of_ble_eq_true rfl)
    have f167_1 := f163_1.other W166 ne158
    have zz168 : n0 ≤ h166.size := Nat.le_trans zz164 (Keep.of_wr W166).1
    have pre169 : Go p.tables e below S0 T166 (mkF m 250 #[vJ q0, .second, vJ q1, .second, vI p2, vI p3, vI v1, vI v2, vI v3, vI v4, vI (0 : Int32), vI (0 : Int32), vI (0 : Int32), vI v1, vI v5, vI j82_l15_10, vI j82_l16_11, vI v15, vI j119_l18_20, vI j119_l19_21, vI v25, vI (2 : Int32), vR b28, vR b157, .unset, .unset] []) := fun t k => pre166 t (by
      refine XS.iload X166.here hx rfl (hb hby at_228) rfl ?_
      refine XS.iconst X166.here hx rfl (hb hby at_230) ?_
      refine XS.icmpYes X166.here hx rfl (pc0 := 231) (pc' := 239) rfl (hb hby at_231) rfl (flt (by decide : ¬ ((2 : Int32) < (2 : Int32)))).2.2.2 (by decide) (by decide) ?_
      show Steps p.tables e below (T166.setTop (mkF m 239 #[vJ q0, .second, vJ q1, .second, vI p2, vI p3, vI v1, vI v2, vI v3, vI v4, vI (0 : Int32), vI (0 : Int32), vI (0 : Int32), vI v1, vI v5, vI j82_l15_10, vI j82_l16_11, vI v15, vI j119_l18_20, vI j119_l19_21, vI v25, vI (2 : Int32), vR b28, vR b157, .unset, .unset] [])) _
      refine XS.iload X166.here hx rfl (hb hby at_239) rfl ?_
      refine XS.iconst X166.here hx rfl (hb hby at_241) ?_
      refine XS.icmpYes X166.here hx rfl (pc0 := 242) (pc' := 250) rfl (hb hby at_242) rfl (flt (by decide : ¬ ((3 : Int32) < (2 : Int32)))).2.2.2 (by decide) (by decide) ?_
      show Steps p.tables e below (T166.setTop (mkF m 250 #[vJ q0, .second, vJ q1, .second, vI p2, vI p3, vI v1, vI v2, vI v3, vI v4, vI (0 : Int32), vI (0 : Int32), vI (0 : Int32), vI v1, vI v5, vI j82_l15_10, vI j82_l16_11, vI v15, vI j119_l18_20, vI j119_l19_21, vI v25, vI (2 : Int32), vR b28, vR b157, .unset, .unset] [])) _
      exact k)
    obtain ⟨T170, h170, X170, e170, E170, A170, D170, -, st170⟩ := newO X166 hx hZ hown (hw _ (List.mem_of_getElem? (i := 5) rfl)) (hw _ (List.mem_of_getElem? (i := 6) rfl)) (hw _ (List.mem_of_getElem? (i := 7) rfl)) e166 (g := (mkF m 250 #[vJ q0, .second, vJ q1, .second, vI p2, vI p3, vI v1, vI v2, vI v3, vI v4, vI (0 : Int32), vI (0 : Int32), vI (0 : Int32), vI v1, vI v5, vI j82_l15_10, vI j82_l16_11, vI v15, vI j119_l18_20, vI j119_l19_21, vI v25, vI (2 : Int32), vR b28, vR b157, .unset, .unset] [])) rfl (hb hby at_250) (by decide) (by decide)
    obtain ⟨b170, g170⟩ : ∃ z, z = h166.size := ⟨_, rfl⟩
    rw [← g170] at A170 D170 st170
    have pre170 : Go p.tables e below S0 T170 (mkF m 253 #[vJ q0, .second, vJ q1, .second, vI p2, vI p3, vI v1, vI v2, vI v3, vI v4, vI (0 : Int32), vI (0 : Int32), vI (0 : Int32), vI v1, vI v5, vI j82_l15_10, vI j82_l16_11, vI v15, vI j119_l18_20, vI j119_l19_21, vI v25, vI (2 : Int32), vR b28, vR b157, .unset, .unset] [(.ref b170)]) := fun t k => pre169 t (st170 t k)
    have ne171 : b28 ≠ b170 := Nat.ne_of_lt (Nat.lt_of_lt_of_le f167_1.lt (Nat.le_of_eq g170.symm))
    have ne172 : b157 ≠ b170 := Nat.ne_of_lt (Nat.lt_of_lt_of_le av166.lt (Nat.le_of_eq g170.symm))
    have bo170 : n0 ≤ b170 := Nat.le_trans zz168 (Nat.le_of_eq g170.symm)
    have f173_1 := f167_1.ext E170
    have f173_2 := av166.ext E170
    have zz174 : n0 ≤ h170.size := Nat.le_trans zz168 E170.1
    have fn170_word : Fld Z h170 b170 "com/example/garantia/garantia/engine/StateLayout" "word" "[I" .null := D170 (Or.inr (hw _ (List.mem_of_getElem? (i := 15) rfl))) (ty := (.array .int)) (by decide)
    have fn170_shift : Fld Z h170 b170 "com/example/garantia/garantia/engine/StateLayout" "shift" "[I" .null := D170 (Or.inr (hw _ (List.mem_of_getElem? (i := 17) rfl))) (ty := (.array .int)) (by decide)
    have fn170_mask : Fld Z h170 b170 "com/example/garantia/garantia/engine/StateLayout" "mask" "[J" .null := D170 (Or.inr (hw _ (List.mem_of_getElem? (i := 19) rfl))) (ty := (.array .long)) (by decide)
    have fn170_others : Fld Z h170 b170 "com/example/garantia/garantia/engine/StateLayout" "others" "[J" .null := D170 (Or.inr (hw _ (List.mem_of_getElem? (i := 21) rfl))) (ty := (.array .long)) (by decide)
    have fn170_words : Fld Z h170 b170 "com/example/garantia/garantia/engine/StateLayout" "words" "I" (.int (0 : Int32)) := D170 (Or.inr (hw _ (List.mem_of_getElem? (i := 24) rfl))) (ty := .int) (by decide)
    have fn170_narrow : Fld Z h170 b170 "com/example/garantia/garantia/engine/StateLayout" "narrow" "Z" (.int (0 : Int32)) := D170 (Or.inr (hw _ (List.mem_of_getElem? (i := 26) rfl))) (ty := .boolean) (by decide)
    have pre175 : Go p.tables e below S0 T170 (mkF m 255 #[vJ q0, .second, vJ q1, .second, vI p2, vI p3, vI v1, vI v2, vI v3, vI v4, vI (0 : Int32), vI (0 : Int32), vI (0 : Int32), vI v1, vI v5, vI j82_l15_10, vI j82_l16_11, vI v15, vI j119_l18_20, vI j119_l19_21, vI v25, vI (2 : Int32), vR b28, vR b157, .unset, .unset] [(.int (4 : Int32)), (.ref b170), (.ref b170)]) := fun t k => pre170 t (by
      refine XS.dup X170.here hx rfl (hb hby at_253) rfl rfl ?_
      refine XS.iconst X170.here hx rfl (hb hby at_254) ?_
      exact k)
    obtain ⟨T176, h176, kA176, X176, e176, E176, A176, st176⟩ := newP X170 hx hZ (hw _ (List.mem_of_getElem? (i := 4) rfl)) e170 (g := (mkF m 255 #[vJ q0, .second, vJ q1, .second, vI p2, vI p3, vI v1, vI v2, vI v3, vI v4, vI (0 : Int32), vI (0 : Int32), vI (0 : Int32), vI v1, vI v5, vI j82_l15_10, vI j82_l16_11, vI v15, vI j119_l18_20, vI j119_l19_21, vI v25, vI (2 : Int32), vR b28, vR b157, .unset, .unset] [(.int (4 : Int32)), (.ref b170), (.ref b170)])) rfl (hb hby at_255) rfl (by decide) (cap := 4) (by decide) (by decide) (by decide) (by decide)
    obtain ⟨b176, g176⟩ : ∃ z, z = h170.size := ⟨_, rfl⟩
    rw [← g176] at A176 st176
    have pre176 : Go p.tables e below S0 T176 (mkF m 257 #[vJ q0, .second, vJ q1, .second, vI p2, vI p3, vI v1, vI v2, vI v3, vI v4, vI (0 : Int32), vI (0 : Int32), vI (0 : Int32), vI v1, vI v5, vI j82_l15_10, vI j82_l16_11, vI v15, vI j119_l18_20, vI j119_l19_21, vI v25, vI (2 : Int32), vR b28, vR b157, .unset, .unset] [(.ref b176), (.ref b170), (.ref b170)]) := fun t k => pre175 t (st176 t k)
    have ne177 : b28 ≠ b176 := Nat.ne_of_lt (Nat.lt_of_lt_of_le f173_1.lt (Nat.le_of_eq g176.symm))
    have ne178 : b157 ≠ b176 := Nat.ne_of_lt (Nat.lt_of_lt_of_le f173_2.lt (Nat.le_of_eq g176.symm))
    have ne179 : b170 ≠ b176 := Nat.ne_of_lt (Nat.lt_of_lt_of_le A170.lt (Nat.le_of_eq g176.symm))
    have bo176 : n0 ≤ b176 := Nat.le_trans zz174 (Nat.le_of_eq g176.symm)
    have f180_1 := f173_1.ext E176
    have f180_2 := f173_2.ext E176
    have f180_3 := Exa.ext E176 A170
    have f180_4 := Fld.ext E176 fn170_word
    have f180_5 := Fld.ext E176 fn170_shift
    have f180_6 := Fld.ext E176 fn170_mask
    have f180_7 := Fld.ext E176 fn170_others
    have f180_8 := Fld.ext E176 fn170_words
    have f180_9 := Fld.ext E176 fn170_narrow
    have zz181 : n0 ≤ h176.size := Nat.le_trans zz174 E176.1
    have av176 : Arv Z h176 b176 kA176 .int (4 : Int32) [(.int (0 : Int32)), (.int (0 : Int32)), (.int (0 : Int32)), (.int (0 : Int32))] (.int (0 : Int32)) := (Arv.new A176 (by decide)).pad (pad_rep [] (.int (0 : Int32)) 4)
    have pre182 : Go p.tables e below S0 T176 (mkF m 261 #[vJ q0, .second, vJ q1, .second, vI p2, vI p3, vI v1, vI v2, vI v3, vI v4, vI (0 : Int32), vI (0 : Int32), vI (0 : Int32), vI v1, vI v5, vI j82_l15_10, vI j82_l16_11, vI v15, vI j119_l18_20, vI j119_l19_21, vI v25, vI (2 : Int32), vR b28, vR b157, .unset, .unset] [(.int v1), (.int (0 : Int32)), (.ref b176), (.ref b176), (.ref b170), (.ref b170)]) := fun t k => pre176 t (by
      refine XS.dup X176.here hx rfl (hb hby at_257) rfl rfl ?_
      refine XS.iconst X176.here hx rfl (hb hby at_258) ?_
      refine XS.iload X176.here hx rfl (hb hby at_259) rfl ?_
      show Steps p.tables e below (T176.setTop (mkF m 261 #[vJ q0, .second, vJ q1, .second, vI p2, vI p3, vI v1, vI v2, vI v3, vI v4, vI (0 : Int32), vI (0 : Int32), vI (0 : Int32), vI v1, vI v5, vI j82_l15_10, vI j82_l16_11, vI v15, vI j119_l18_20, vI j119_l19_21, vI v25, vI (2 : Int32), vR b28, vR b157, .unset, .unset] [(.int v1), (.int (0 : Int32)), (.ref b176), (.ref b176), (.ref b170), (.ref b170)])) _
      exact k)
    obtain ⟨cl183, Ar183, q183, S183, M183, H183, G183⟩ := id av176
    have in183 : ¬ ((0 : Int32) < 0 ∨ cl183.slots.size ≤ ((0 : Int32)).toNatClampNeg) := inb_of S183 ⟨by decide, by decide⟩
    obtain ⟨T183, h183, X183, e183, W183, st183⟩ := stI X176 hx hZ e176 Ar183 (j := (0 : Int32)) in183 (g := (mkF m 261 #[vJ q0, .second, vJ q1, .second, vI p2, vI p3, vI v1, vI v2, vI v3, vI v4, vI (0 : Int32), vI (0 : Int32), vI (0 : Int32), vI v1, vI v5, vI j82_l15_10, vI j82_l16_11, vI v15, vI j119_l18_20, vI j119_l19_21, vI v25, vI (2 : Int32), vR b28, vR b157, .unset, .unset] [(.int v1), (.int (0 : Int32)), (.ref b176), (.ref b176), (.ref b170), (.ref b170)])) rfl rfl (hb hby at_261)
    have pre183 : Go p.tables e below S0 T183 (mkF m 262 #[vJ q0, .second, vJ q1, .second, vI p2, vI p3, vI v1, vI v2, vI v3, vI v4, vI (0 : Int32), vI (0 : Int32), vI (0 : Int32), vI v1, vI v5, vI j82_l15_10, vI j82_l16_11, vI v15, vI j119_l18_20, vI j119_l19_21, vI v25, vI (2 : Int32), vR b28, vR b157, .unset, .unset] [(.ref b176), (.ref b170), (.ref b170)]) := fun t k => pre182 t (st183 t k)
    obtain ⟨lo183, N183, X183⟩ : ∃ lo, Fr n0 lo ∧ Stand p l e room_1 s m #[(.long q0), (.long q1), (.int p2), (.int p3)] below meth c T183 lo 4 16 := ⟨_, Fr.snoc X183 N166 bo176, X183⟩
    have av183 : Arv Z h183 b176 kA176 .int (4 : Int32) [(.int v1), (.int (0 : Int32)), (.int (0 : Int32)), (.int (0 : Int32))] (.int (0 : Int32)) := Arv.set Ar183 q183 S183 M183 H183 G183 rfl W183 0 rfl (Nat.le_of_ble_eq_true rfl)
    have f184_1 := f180_1.other W183 ne177
    have f184_2 := f180_2.other W183 ne178
    have f184_3 := Exa.wr W183 f180_3
    have f184_4 := Fld.other W183 f180_4 (Or.inl ne179)
    have f184_5 := Fld.other W183 f180_5 (Or.inl ne179)
    have f184_6 := Fld.other W183 f180_6 (Or.inl ne179)
    have f184_7 := Fld.other W183 f180_7 (Or.inl ne179)
    have f184_8 := Fld.other W183 f180_8 (Or.inl ne179)
    have f184_9 := Fld.other W183 f180_9 (Or.inl ne179)
    have zz185 : n0 ≤ h183.size := Nat.le_trans zz181 (Keep.of_wr W183).1
    have pre186 : Go p.tables e below S0 T183 (mkF m 266 #[vJ q0, .second, vJ q1, .second, vI p2, vI p3, vI v1, vI v2, vI v3, vI v4, vI (0 : Int32), vI (0 : Int32), vI (0 : Int32), vI v1, vI v5, vI j82_l15_10, vI j82_l16_11, vI v15, vI j119_l18_20, vI j119_l19_21, vI v25, vI (2 : Int32), vR b28, vR b157, .unset, .unset] [(.int v2), (.int (1 : Int32)), (.ref b176), (.ref b176), (.ref b170), (.ref b170)]) := fun t k => pre183 t (by
      refine XS.dup X183.here hx rfl (hb hby at_262) rfl rfl ?_
      refine XS.iconst X183.here hx rfl (hb hby at_263) ?_
      refine XS.iload X183.here hx rfl (hb hby at_264) rfl ?_
      show Steps p.tables e below (T183.setTop (mkF m 266 #[vJ q0, .second, vJ q1, .second, vI p2, vI p3, vI v1, vI v2, vI v3, vI v4, vI (0 : Int32), vI (0 : Int32), vI (0 : Int32), vI v1, vI v5, vI j82_l15_10, vI j82_l16_11, vI v15, vI j119_l18_20, vI j119_l19_21, vI v25, vI (2 : Int32), vR b28, vR b157, .unset, .unset] [(.int v2), (.int (1 : Int32)), (.ref b176), (.ref b176), (.ref b170), (.ref b170)])) _
      exact k)
    obtain ⟨cl187, Ar187, q187, S187, M187, H187, G187⟩ := id av183
    have in187 : ¬ ((1 : Int32) < 0 ∨ cl187.slots.size ≤ ((1 : Int32)).toNatClampNeg) := inb_of S187 ⟨by decide, by decide⟩
    obtain ⟨T187, h187, X187, e187, W187, st187⟩ := stI X183 hx hZ e183 Ar187 (j := (1 : Int32)) in187 (g := (mkF m 266 #[vJ q0, .second, vJ q1, .second, vI p2, vI p3, vI v1, vI v2, vI v3, vI v4, vI (0 : Int32), vI (0 : Int32), vI (0 : Int32), vI v1, vI v5, vI j82_l15_10, vI j82_l16_11, vI v15, vI j119_l18_20, vI j119_l19_21, vI v25, vI (2 : Int32), vR b28, vR b157, .unset, .unset] [(.int v2), (.int (1 : Int32)), (.ref b176), (.ref b176), (.ref b170), (.ref b170)])) rfl rfl (hb hby at_266)
    have pre187 : Go p.tables e below S0 T187 (mkF m 267 #[vJ q0, .second, vJ q1, .second, vI p2, vI p3, vI v1, vI v2, vI v3, vI v4, vI (0 : Int32), vI (0 : Int32), vI (0 : Int32), vI v1, vI v5, vI j82_l15_10, vI j82_l16_11, vI v15, vI j119_l18_20, vI j119_l19_21, vI v25, vI (2 : Int32), vR b28, vR b157, .unset, .unset] [(.ref b176), (.ref b170), (.ref b170)]) := fun t k => pre186 t (st187 t k)
    obtain ⟨lo187, N187, X187⟩ : ∃ lo, Fr n0 lo ∧ Stand p l e room_1 s m #[(.long q0), (.long q1), (.int p2), (.int p3)] below meth c T187 lo 4 16 := ⟨_, Fr.snoc X187 N183 bo176, X187⟩
    have av187 : Arv Z h187 b176 kA176 .int (4 : Int32) [(.int v1), (.int v2), (.int (0 : Int32)), (.int (0 : Int32))] (.int (0 : Int32)) := Arv.set Ar187 q187 S187 M187 H187 G187 rfl W187 1 rfl (Nat.le_of_ble_eq_true rfl)
    have f188_1 := f184_1.other W187 ne177
    have f188_2 := f184_2.other W187 ne178
    have f188_3 := Exa.wr W187 f184_3
    have f188_4 := Fld.other W187 f184_4 (Or.inl ne179)
    have f188_5 := Fld.other W187 f184_5 (Or.inl ne179)
    have f188_6 := Fld.other W187 f184_6 (Or.inl ne179)
    have f188_7 := Fld.other W187 f184_7 (Or.inl ne179)
    have f188_8 := Fld.other W187 f184_8 (Or.inl ne179)
    have f188_9 := Fld.other W187 f184_9 (Or.inl ne179)
    have zz189 : n0 ≤ h187.size := Nat.le_trans zz185 (Keep.of_wr W187).1
    have pre190 : Go p.tables e below S0 T187 (mkF m 271 #[vJ q0, .second, vJ q1, .second, vI p2, vI p3, vI v1, vI v2, vI v3, vI v4, vI (0 : Int32), vI (0 : Int32), vI (0 : Int32), vI v1, vI v5, vI j82_l15_10, vI j82_l16_11, vI v15, vI j119_l18_20, vI j119_l19_21, vI v25, vI (2 : Int32), vR b28, vR b157, .unset, .unset] [(.int v3), (.int (2 : Int32)), (.ref b176), (.ref b176), (.ref b170), (.ref b170)]) := fun t k => pre187 t (by
      refine XS.dup X187.here hx rfl (hb hby at_267) rfl rfl ?_
      refine XS.iconst X187.here hx rfl (hb hby at_268) ?_
      refine XS.iload X187.here hx rfl (hb hby at_269) rfl ?_
      show Steps p.tables e below (T187.setTop (mkF m 271 #[vJ q0, .second, vJ q1, .second, vI p2, vI p3, vI v1, vI v2, vI v3, vI v4, vI (0 : Int32), vI (0 : Int32), vI (0 : Int32), vI v1, vI v5, vI j82_l15_10, vI j82_l16_11, vI v15, vI j119_l18_20, vI j119_l19_21, vI v25, vI (2 : Int32), vR b28, vR b157, .unset, .unset] [(.int v3), (.int (2 : Int32)), (.ref b176), (.ref b176), (.ref b170), (.ref b170)])) _
      exact k)
    obtain ⟨cl191, Ar191, q191, S191, M191, H191, G191⟩ := id av187
    have in191 : ¬ ((2 : Int32) < 0 ∨ cl191.slots.size ≤ ((2 : Int32)).toNatClampNeg) := inb_of S191 ⟨by decide, by decide⟩
    obtain ⟨T191, h191, X191, e191, W191, st191⟩ := stI X187 hx hZ e187 Ar191 (j := (2 : Int32)) in191 (g := (mkF m 271 #[vJ q0, .second, vJ q1, .second, vI p2, vI p3, vI v1, vI v2, vI v3, vI v4, vI (0 : Int32), vI (0 : Int32), vI (0 : Int32), vI v1, vI v5, vI j82_l15_10, vI j82_l16_11, vI v15, vI j119_l18_20, vI j119_l19_21, vI v25, vI (2 : Int32), vR b28, vR b157, .unset, .unset] [(.int v3), (.int (2 : Int32)), (.ref b176), (.ref b176), (.ref b170), (.ref b170)])) rfl rfl (hb hby at_271)
    have pre191 : Go p.tables e below S0 T191 (mkF m 272 #[vJ q0, .second, vJ q1, .second, vI p2, vI p3, vI v1, vI v2, vI v3, vI v4, vI (0 : Int32), vI (0 : Int32), vI (0 : Int32), vI v1, vI v5, vI j82_l15_10, vI j82_l16_11, vI v15, vI j119_l18_20, vI j119_l19_21, vI v25, vI (2 : Int32), vR b28, vR b157, .unset, .unset] [(.ref b176), (.ref b170), (.ref b170)]) := fun t k => pre190 t (st191 t k)
    obtain ⟨lo191, N191, X191⟩ : ∃ lo, Fr n0 lo ∧ Stand p l e room_1 s m #[(.long q0), (.long q1), (.int p2), (.int p3)] below meth c T191 lo 4 16 := ⟨_, Fr.snoc X191 N187 bo176, X191⟩
    have av191 : Arv Z h191 b176 kA176 .int (4 : Int32) [(.int v1), (.int v2), (.int v3), (.int (0 : Int32))] (.int (0 : Int32)) := Arv.set Ar191 q191 S191 M191 H191 G191 rfl W191 2 rfl (Nat.le_of_ble_eq_true rfl)
    have f192_1 := f188_1.other W191 ne177
    have f192_2 := f188_2.other W191 ne178
    have f192_3 := Exa.wr W191 f188_3
    have f192_4 := Fld.other W191 f188_4 (Or.inl ne179)
    have f192_5 := Fld.other W191 f188_5 (Or.inl ne179)
    have f192_6 := Fld.other W191 f188_6 (Or.inl ne179)
    have f192_7 := Fld.other W191 f188_7 (Or.inl ne179)
    have f192_8 := Fld.other W191 f188_8 (Or.inl ne179)
    have f192_9 := Fld.other W191 f188_9 (Or.inl ne179)
    have zz193 : n0 ≤ h191.size := Nat.le_trans zz189 (Keep.of_wr W191).1
    have pre194 : Go p.tables e below S0 T191 (mkF m 276 #[vJ q0, .second, vJ q1, .second, vI p2, vI p3, vI v1, vI v2, vI v3, vI v4, vI (0 : Int32), vI (0 : Int32), vI (0 : Int32), vI v1, vI v5, vI j82_l15_10, vI j82_l16_11, vI v15, vI j119_l18_20, vI j119_l19_21, vI v25, vI (2 : Int32), vR b28, vR b157, .unset, .unset] [(.int v4), (.int (3 : Int32)), (.ref b176), (.ref b176), (.ref b170), (.ref b170)]) := fun t k => pre191 t (by
      refine XS.dup X191.here hx rfl (hb hby at_272) rfl rfl ?_
      refine XS.iconst X191.here hx rfl (hb hby at_273) ?_
      refine XS.iload X191.here hx rfl (hb hby at_274) rfl ?_
      show Steps p.tables e below (T191.setTop (mkF m 276 #[vJ q0, .second, vJ q1, .second, vI p2, vI p3, vI v1, vI v2, vI v3, vI v4, vI (0 : Int32), vI (0 : Int32), vI (0 : Int32), vI v1, vI v5, vI j82_l15_10, vI j82_l16_11, vI v15, vI j119_l18_20, vI j119_l19_21, vI v25, vI (2 : Int32), vR b28, vR b157, .unset, .unset] [(.int v4), (.int (3 : Int32)), (.ref b176), (.ref b176), (.ref b170), (.ref b170)])) _
      exact k)
    obtain ⟨cl195, Ar195, q195, S195, M195, H195, G195⟩ := id av191
    have in195 : ¬ ((3 : Int32) < 0 ∨ cl195.slots.size ≤ ((3 : Int32)).toNatClampNeg) := inb_of S195 ⟨by decide, by decide⟩
    obtain ⟨T195, h195, X195, e195, W195, st195⟩ := stI X191 hx hZ e191 Ar195 (j := (3 : Int32)) in195 (g := (mkF m 276 #[vJ q0, .second, vJ q1, .second, vI p2, vI p3, vI v1, vI v2, vI v3, vI v4, vI (0 : Int32), vI (0 : Int32), vI (0 : Int32), vI v1, vI v5, vI j82_l15_10, vI j82_l16_11, vI v15, vI j119_l18_20, vI j119_l19_21, vI v25, vI (2 : Int32), vR b28, vR b157, .unset, .unset] [(.int v4), (.int (3 : Int32)), (.ref b176), (.ref b176), (.ref b170), (.ref b170)])) rfl rfl (hb hby at_276)
    have pre195 : Go p.tables e below S0 T195 (mkF m 277 #[vJ q0, .second, vJ q1, .second, vI p2, vI p3, vI v1, vI v2, vI v3, vI v4, vI (0 : Int32), vI (0 : Int32), vI (0 : Int32), vI v1, vI v5, vI j82_l15_10, vI j82_l16_11, vI v15, vI j119_l18_20, vI j119_l19_21, vI v25, vI (2 : Int32), vR b28, vR b157, .unset, .unset] [(.ref b176), (.ref b170), (.ref b170)]) := fun t k => pre194 t (st195 t k)
    obtain ⟨lo195, N195, X195⟩ : ∃ lo, Fr n0 lo ∧ Stand p l e room_1 s m #[(.long q0), (.long q1), (.int p2), (.int p3)] below meth c T195 lo 4 16 := ⟨_, Fr.snoc X195 N191 bo176, X195⟩
    have av195 : Arv Z h195 b176 kA176 .int (4 : Int32) [(.int v1), (.int v2), (.int v3), (.int v4)] (.int (0 : Int32)) := Arv.set Ar195 q195 S195 M195 H195 G195 rfl W195 3 rfl (Nat.le_of_ble_eq_true rfl)
    have f196_1 := f192_1.other W195 ne177
    have f196_2 := f192_2.other W195 ne178
    have f196_3 := Exa.wr W195 f192_3
    have f196_4 := Fld.other W195 f192_4 (Or.inl ne179)
    have f196_5 := Fld.other W195 f192_5 (Or.inl ne179)
    have f196_6 := Fld.other W195 f192_6 (Or.inl ne179)
    have f196_7 := Fld.other W195 f192_7 (Or.inl ne179)
    have f196_8 := Fld.other W195 f192_8 (Or.inl ne179)
    have f196_9 := Fld.other W195 f192_9 (Or.inl ne179)
    have zz197 : n0 ≤ h195.size := Nat.le_trans zz193 (Keep.of_wr W195).1
    obtain ⟨_, _, ⟨T198, qL198, qk198, qn198⟩, -, X198, ⟨Lc198, hQ198, ql198, qy198, qz198⟩, st198⟩ := X195.specialBack hx (y := (⟨"com/example/garantia/garantia/engine/StateLayout", "<init>", "([I)V"⟩ : MethodName)) rfl hown (mvT hZ (hw _ (List.mem_of_getElem? (i := 8) rfl))) (mvT hZ (hw _ (List.mem_of_getElem? (i := 9) rfl))) (mvT hZ (hw _ (List.mem_of_getElem? (i := 10) rfl))) (by decide) (backOf (W := 1) (rm1 l Z A0 hw [] b170 b176 kA176 v1 v2 v3 v4 h195 n0 zz197 f196_3 f196_4 f196_5 f196_6 f196_7 f196_8 f196_9 av195 (Ne.symm ne179) bo170 hw0 hw1 hw2 hw3) hZ (hw _ (List.mem_of_getElem? (i := 10) rfl)) (hw _ (List.mem_of_getElem? (i := 7) rfl)) (by decide) (by decide)) (g := (mkF m 277 #[vJ q0, .second, vJ q1, .second, vI p2, vI p3, vI v1, vI v2, vI v3, vI v4, vI (0 : Int32), vI (0 : Int32), vI (0 : Int32), vI v1, vI v5, vI j82_l15_10, vI j82_l16_11, vI v15, vI j119_l18_20, vI j119_l19_21, vI v25, vI (2 : Int32), vR b28, vR b157, .unset, .unset] [(.ref b176), (.ref b170), (.ref b170)])) rfl (by rw [hml]; rfl) (Steps.refl _) (a := b170) (argsL := [(.ref b176)]) (rest := [(.ref b170)]) (lenOf pd_0 rfl) rfl (by show 2 * 0 + _ ≤ _; exact Nat.le_of_eq rfl) (hb hby at_277) (fun _ _ => ⟨rfl, e195, (by decide : 4 + 4 ≤ _), (by decide : 16 + 16 ≤ _)⟩)
    dsimp only [Pt.U, Pt.locs, Pt.cells, Pt.slots] at X198 ql198 qy198 qz198 st198 hQ198
    replace X198 := X198.more (Nat.le_of_eq qy198) (Nat.le_of_eq qz198)
    obtain ⟨rfl, Nq198, aw_198, as_198, am_198, ao_198, kw_198, ks_198, km_198, ko_198, c2_198, u2_198, c3_198, u3_198, hq198, ho198, hn198, Kq198, nf198_0, nf198_1, nf198_2, nf198_3, nf198_4, nf198_5, nf198_6, nf198_7, nf198_8, nf198_9⟩ := hQ198
    have N198 : Fr n0 qL198 := by rw [ql198]; exact Fr.app N195 Nq198
    have pre198 : Go p.tables e below S0 T198 (mkF m 280 #[vJ q0, .second, vJ q1, .second, vI p2, vI p3, vI v1, vI v2, vI v3, vI v4, vI (0 : Int32), vI (0 : Int32), vI (0 : Int32), vI v1, vI v5, vI j82_l15_10, vI j82_l16_11, vI v15, vI j119_l18_20, vI j119_l19_21, vI v25, vI (2 : Int32), vR b28, vR b157, .unset, .unset] [(.ref b170)]) := fun t k => pre195 t (st198.trans k)
    have f199_1 := f196_1.keep Kq198 (ninS ne171 nin0)
    have f199_2 := f196_2.keep Kq198 (ninS ne172 nin0)
    have f199_3 := av195.keep Kq198 (ninS (Ne.symm ne179) nin0)
    have zz200 : n0 ≤ T198.heap.size := Nat.le_trans zz197 Kq198.1
    have bo198_0 : n0 ≤ aw_198 := Nat.le_trans zz197 ho198.1
    have nn198_0_0 : b28 ≠ aw_198 := Nat.ne_of_lt (Nat.lt_of_lt_of_le f196_1.lt ho198.1)
    have nn198_0_1 : b157 ≠ aw_198 := Nat.ne_of_lt (Nat.lt_of_lt_of_le f196_2.lt ho198.1)
    have nn198_0_2 : b170 ≠ aw_198 := Nat.ne_of_lt (Nat.lt_of_lt_of_le f196_9.lt ho198.1)
    have nn198_0_3 : b176 ≠ aw_198 := Nat.ne_of_lt (Nat.lt_of_lt_of_le av195.lt ho198.1)
    have bo198_1 : n0 ≤ as_198 := Nat.le_trans zz197 ho198.2.1
    have nn198_1_0 : b28 ≠ as_198 := Nat.ne_of_lt (Nat.lt_of_lt_of_le f196_1.lt ho198.2.1)
    have nn198_1_1 : b157 ≠ as_198 := Nat.ne_of_lt (Nat.lt_of_lt_of_le f196_2.lt ho198.2.1)
    have nn198_1_2 : b170 ≠ as_198 := Nat.ne_of_lt (Nat.lt_of_lt_of_le f196_9.lt ho198.2.1)
    have nn198_1_3 : b176 ≠ as_198 := Nat.ne_of_lt (Nat.lt_of_lt_of_le av195.lt ho198.2.1)
    have bo198_2 : n0 ≤ am_198 := Nat.le_trans zz197 ho198.2.2.1
    have nn198_2_0 : b28 ≠ am_198 := Nat.ne_of_lt (Nat.lt_of_lt_of_le f196_1.lt ho198.2.2.1)
    have nn198_2_1 : b157 ≠ am_198 := Nat.ne_of_lt (Nat.lt_of_lt_of_le f196_2.lt ho198.2.2.1)
    have nn198_2_2 : b170 ≠ am_198 := Nat.ne_of_lt (Nat.lt_of_lt_of_le f196_9.lt ho198.2.2.1)
    have nn198_2_3 : b176 ≠ am_198 := Nat.ne_of_lt (Nat.lt_of_lt_of_le av195.lt ho198.2.2.1)
    have bo198_3 : n0 ≤ ao_198 := Nat.le_trans zz197 ho198.2.2.2
    have nn198_3_0 : b28 ≠ ao_198 := Nat.ne_of_lt (Nat.lt_of_lt_of_le f196_1.lt ho198.2.2.2)
    have nn198_3_1 : b157 ≠ ao_198 := Nat.ne_of_lt (Nat.lt_of_lt_of_le f196_2.lt ho198.2.2.2)
    have nn198_3_2 : b170 ≠ ao_198 := Nat.ne_of_lt (Nat.lt_of_lt_of_le f196_9.lt ho198.2.2.2)
    have nn198_3_3 : b176 ≠ ao_198 := Nat.ne_of_lt (Nat.lt_of_lt_of_le av195.lt ho198.2.2.2)
    have pre201 : Go p.tables e below S0 T198 (mkF m 282 #[vJ q0, .second, vJ q1, .second, vI p2, vI p3, vI v1, vI v2, vI v3, vI v4, vI (0 : Int32), vI (0 : Int32), vI (0 : Int32), vI v1, vI v5, vI j82_l15_10, vI j82_l16_11, vI v15, vI j119_l18_20, vI j119_l19_21, vI v25, vI (2 : Int32), vR b28, vR b157, vR b170, .unset] []) := fun t k => pre198 t (by
      refine XS.astore X198.here hx rfl (hb hby at_280) rfl rfl (l' := #[vJ q0, .second, vJ q1, .second, vI p2, vI p3, vI v1, vI v2, vI v3, vI v4, vI (0 : Int32), vI (0 : Int32), vI (0 : Int32), vI v1, vI v5, vI j82_l15_10, vI j82_l16_11, vI v15, vI j119_l18_20, vI j119_l19_21, vI v25, vI (2 : Int32), vR b28, vR b157, vR b170, .unset]) rfl ?_
      exact k)
    obtain rfl : j82_l15_10 = c2_198 := by rw [hj82_12.1, (hq198.1).1, hv5, Int32.zero_add]
    obtain rfl : j82_l16_11 = u2_198 := by rw [hj82_12.2, (hq198.1).2, hv5, Int32.zero_add]
    obtain rfl : j119_l18_20 = c3_198 := by rw [hj119_22.1, (hq198.2).1, hv15]
    obtain rfl : j119_l19_21 = u3_198 := by rw [hj119_22.2, (hq198.2).2, hv15]
    have hp := own_pat4 hw0 hw1 hw2 hw3 (hq198.1) (hq198.2)
    have hc2 : j82_l15_10 = (0 : Int32) ∨ j82_l15_10 = (1 : Int32) := by rcases hp with q | q | q <;> first | exact Or.inl q.1 | exact Or.inr q.1
    have hc3 : j119_l18_20 = (0 : Int32) ∨ j119_l18_20 = (1 : Int32) := by rcases hp with q | q | q <;> first | exact Or.inl q.2.1 | exact Or.inr q.2.1
    have pre202 : Go p.tables e below S0 T198 (mkF m 290 #[vJ q0, .second, vJ q1, .second, vI p2, vI p3, vI v1, vI v2, vI v3, vI v4, vI (0 : Int32), vI (0 : Int32), vI (0 : Int32), vI v1, vI v5, vI j82_l15_10, vI j82_l16_11, vI v15, vI j119_l18_20, vI j119_l19_21, vI v25, vI (2 : Int32), vR b28, vR b157, vR b170, .unset] [(.ref b157), (.int v25), (.ref b28), (.ref b170)]) := fun t k => pre201 t (by
      refine XS.aload X198.here hx rfl (hb hby at_282) rfl rfl ?_
      refine XS.aload X198.here hx rfl (hb hby at_284) rfl rfl ?_
      refine XS.iload X198.here hx rfl (hb hby at_286) rfl ?_
      show Steps p.tables e below (T198.setTop (mkF m 288 #[vJ q0, .second, vJ q1, .second, vI p2, vI p3, vI v1, vI v2, vI v3, vI v4, vI (0 : Int32), vI (0 : Int32), vI (0 : Int32), vI v1, vI v5, vI j82_l15_10, vI j82_l16_11, vI v15, vI j119_l18_20, vI j119_l19_21, vI v25, vI (2 : Int32), vR b28, vR b157, vR b170, .unset] [(.int v25), (.ref b28), (.ref b170)])) _
      refine XS.aload X198.here hx rfl (hb hby at_288) rfl rfl ?_
      exact k)
    obtain ⟨cq203, kq203, qa203, qb203, qc203⟩ := isOf hZ rfl nf198_0
    obtain ⟨_, _, ⟨T203, qL203, qk203, qn203⟩, -, X203, ⟨Lc203, hQ203, ql203, qy203, qz203⟩, st203⟩ := X198.virtualBack hx (y := (⟨"com/example/garantia/garantia/engine/StateLayout", "unpack", "([JI[I)V"⟩ : MethodName)) (z := (⟨"com/example/garantia/garantia/engine/StateLayout", "unpack", "([JI[I)V"⟩ : MethodName)) hown (mvT hZ (hw _ (List.mem_of_getElem? (i := 27) rfl))) (mvT hZ (hw _ (List.mem_of_getElem? (i := 28) rfl))) (notFace_of_selects (args := #[]) (mvT hZ (hw _ (List.mem_of_getElem? (i := 30) rfl)))) (mvT hZ (hw _ (List.mem_of_getElem? (i := 30) rfl))) (mvT hZ (hw _ (List.mem_of_getElem? (i := 29) rfl))) (by decide) (backOf (W := 0) (rm3_2 l Z A0 hw [] b170 b28 v25 b157 aw_198 as_198 am_198 kw_198 ks_198 km_198 kA28 kA157 (0 : Int32) (0 : Int32) j82_l15_10 j119_l18_20 (0 : Int32) ((0 : Int32) + v1) j82_l16_11 j119_l19_21 (((1 : Int64) <<< (v1 &&& 0x3f).toInt64) - (1 : Int64)) (((1 : Int64) <<< (v2 &&& 0x3f).toInt64) - (1 : Int64)) (((1 : Int64) <<< (v3 &&& 0x3f).toInt64) - (1 : Int64)) (((1 : Int64) <<< (v4 &&& 0x3f).toInt64) - (1 : Int64)) (own_putL (v25 + (1 : Int32)) (0 : Int32) q1 (own_putL v25 (0 : Int32) q0 (q0 ^^^ (-1 : Int64)))) (own_putL (v25 + (1 : Int32)) (1 : Int32) q1 (own_putL v25 (1 : Int32) q0 (q1 ^^^ (-1 : Int64)))) (own_putL (v25 + (1 : Int32)) (2 : Int32) q1 (own_putL v25 (2 : Int32) q0 ((q0 ^^^ (-1 : Int64)) ^^^ (6148914691236517205 : Int64)))) (own_putL (v25 + (1 : Int32)) (3 : Int32) q1 (own_putL v25 (3 : Int32) q0 ((q1 ^^^ (-1 : Int64)) ^^^ (3689348814741910323 : Int64)))) (-1 : Int32) (-1 : Int32) T198.heap n0 zz200 nf198_1 nf198_2 nf198_3 nf198_6 nf198_7 nf198_8 f199_1 f199_2 (Ne.symm ne172) (Ne.symm nn198_0_1) (Ne.symm nn198_1_1) (Ne.symm nn198_2_1) ne158 bo157 (own_oc hoff (Or.inl rfl)) (own_oc hoff (Or.inl rfl))) hZ (hw _ (List.mem_of_getElem? (i := 31) rfl)) (hw _ (List.mem_of_getElem? (i := 7) rfl)) (by decide) (by decide)) qa203 qc203 (g := (mkF m 290 #[vJ q0, .second, vJ q1, .second, vI p2, vI p3, vI v1, vI v2, vI v3, vI v4, vI (0 : Int32), vI (0 : Int32), vI (0 : Int32), vI v1, vI v5, vI j82_l15_10, vI j82_l16_11, vI v15, vI j119_l18_20, vI j119_l19_21, vI v25, vI (2 : Int32), vR b28, vR b157, vR b170, .unset] [(.ref b157), (.int v25), (.ref b28), (.ref b170)])) rfl (by rw [hml]; rfl) (Steps.refl _) (argsL := [(.ref b28), (.int v25), (.ref b157)]) (rest := []) (lenOf pd_1 rfl) rfl (by show 2 * 0 + _ ≤ _; exact Nat.le_of_eq rfl) (hb hby at_290) (fun _ _ => ⟨rfl, rfl, (by decide : 8 + 0 ≤ _), (by decide : 32 + 0 ≤ _)⟩)
    dsimp only [Pt.U, Pt.locs, Pt.cells, Pt.slots] at X203 ql203 qy203 qz203 st203 hQ203
    replace X203 := X203.more (Nat.le_of_eq qy203) (Nat.le_of_eq qz203)
    obtain ⟨rfl, Nq203, r203_0, r203_1, hR203, Kq203, nf203_0⟩ := hQ203
    have N203 : Fr n0 qL203 := by rw [ql203]; exact Fr.app N198 Nq203
    have pre203 : Go p.tables e below S0 T203 (mkF m 293 #[vJ q0, .second, vJ q1, .second, vI p2, vI p3, vI v1, vI v2, vI v3, vI v4, vI (0 : Int32), vI (0 : Int32), vI (0 : Int32), vI v1, vI v5, vI j82_l15_10, vI j82_l16_11, vI v15, vI j119_l18_20, vI j119_l19_21, vI v25, vI (2 : Int32), vR b28, vR b157, vR b170, .unset] []) := fun t k => pre202 t (st203.trans k)
    have f204_1 := f199_1.keep Kq203 (ninS ne158 nin0)
    have f204_2 := Exa.keep nf198_0 Kq203
    have f204_3 := Fld.keep nf198_1 Kq203 (ninS (Ne.symm ne172) nin0)
    have f204_4 := Fld.keep nf198_2 Kq203 (ninS (Ne.symm ne172) nin0)
    have f204_5 := Fld.keep nf198_3 Kq203 (ninS (Ne.symm ne172) nin0)
    have f204_6 := Fld.keep nf198_4 Kq203 (ninS (Ne.symm ne172) nin0)
    have f204_7 := Fld.keep nf198_5 Kq203 (ninS (Ne.symm ne172) nin0)
    have f204_8 := f199_3.keep Kq203 (ninS (Ne.symm ne178) nin0)
    have f204_9 := nf198_6.keep Kq203 (ninS (Ne.symm nn198_0_1) nin0)
    have f204_10 := nf198_7.keep Kq203 (ninS (Ne.symm nn198_1_1) nin0)
    have f204_11 := nf198_8.keep Kq203 (ninS (Ne.symm nn198_2_1) nin0)
    have f204_12 := nf198_9.keep Kq203 (ninS (Ne.symm nn198_3_1) nin0)
    have zz205 : n0 ≤ T203.heap.size := Nat.le_trans zz200 Kq203.1
    have pre206 : Go p.tables e below S0 T203 (mkF m 295 #[vJ q0, .second, vJ q1, .second, vI p2, vI p3, vI v1, vI v2, vI v3, vI v4, vI (0 : Int32), vI (0 : Int32), vI (0 : Int32), vI v1, vI v5, vI j82_l15_10, vI j82_l16_11, vI v15, vI j119_l18_20, vI j119_l19_21, vI v25, vI (2 : Int32), vR b28, vR b157, vR b170, .unset] [(.ref b157)]) := fun t k => pre203 t (by
      refine XS.aload X203.here hx rfl (hb hby at_293) rfl rfl ?_
      exact k)
    obtain ⟨cl207, Ar207, q207, S207, M207, H207, G207⟩ := id nf203_0
    have pre208 : Go p.tables e below S0 T203 (mkF m 321 #[vJ q0, .second, vJ q1, .second, vI p2, vI p3, vI v1, vI v2, vI v3, vI v4, vI (0 : Int32), vI (0 : Int32), vI (0 : Int32), vI v1, vI v5, vI j82_l15_10, vI j82_l16_11, vI v15, vI j119_l18_20, vI j119_l19_21, vI v25, vI (2 : Int32), vR b28, vR b157, vR b170, vI (1 : Int32)] [(.int (0 : Int32)), (.ref b157)]) := fun t k => pre206 t (by
      refine X203.arraylength hx Ar207.1 (State.isArrayOf_alike hZ.alike Ar207.2.1) (g := (mkF m 295 #[vJ q0, .second, vJ q1, .second, vI p2, vI p3, vI v1, vI v2, vI v3, vI v4, vI (0 : Int32), vI (0 : Int32), vI (0 : Int32), vI v1, vI v5, vI j82_l15_10, vI j82_l16_11, vI v15, vI j119_l18_20, vI j119_l19_21, vI v25, vI (2 : Int32), vR b28, vR b157, vR b170, .unset] [(.ref b157)])) rfl rfl (hb hby at_295) _ ?_
      rw [len_of S207 M207]
      refine XS.iload X203.here hx rfl (hb hby at_296) rfl ?_
      refine XS.icmpNo X203.here hx rfl (hb hby at_298) rfl (teq (rfl : (2 : Int32) = (2 : Int32))).2 ?_
      show Steps p.tables e below (T203.setTop (mkF m 301 #[vJ q0, .second, vJ q1, .second, vI p2, vI p3, vI v1, vI v2, vI v3, vI v4, vI (0 : Int32), vI (0 : Int32), vI (0 : Int32), vI v1, vI v5, vI j82_l15_10, vI j82_l16_11, vI v15, vI j119_l18_20, vI j119_l19_21, vI v25, vI (2 : Int32), vR b28, vR b157, vR b170, .unset] [])) _
      refine XS.iconst X203.here hx rfl (hb hby at_301) ?_
      refine XS.goto X203.here hx rfl (pc0 := 302) (pc' := 306) rfl (hb hby at_302) (by decide) (by decide) ?_
      refine XS.istore X203.here hx rfl (hb hby at_306) rfl (l' := #[vJ q0, .second, vJ q1, .second, vI p2, vI p3, vI v1, vI v2, vI v3, vI v4, vI (0 : Int32), vI (0 : Int32), vI (0 : Int32), vI v1, vI v5, vI j82_l15_10, vI j82_l16_11, vI v15, vI j119_l18_20, vI j119_l19_21, vI v25, vI (2 : Int32), vR b28, vR b157, vR b170, vI (1 : Int32)]) rfl ?_
      show Steps p.tables e below (T203.setTop (mkF m 308 #[vJ q0, .second, vJ q1, .second, vI p2, vI p3, vI v1, vI v2, vI v3, vI v4, vI (0 : Int32), vI (0 : Int32), vI (0 : Int32), vI v1, vI v5, vI j82_l15_10, vI j82_l16_11, vI v15, vI j119_l18_20, vI j119_l19_21, vI v25, vI (2 : Int32), vR b28, vR b157, vR b170, vI (1 : Int32)] [])) _
      refine XS.iload X203.here hx rfl (hb hby at_308) rfl ?_
      refine XS.ifNo X203.here hx rfl (hb hby at_310) rfl ((if0 _ _).trans (tlt (by decide : (0 : Int32) < (2 : Int32))).2.2.2) ?_
      refine XS.iload X203.here hx rfl (hb hby at_313) rfl ?_
      show Steps p.tables e below (T203.setTop (mkF m 315 #[vJ q0, .second, vJ q1, .second, vI p2, vI p3, vI v1, vI v2, vI v3, vI v4, vI (0 : Int32), vI (0 : Int32), vI (0 : Int32), vI v1, vI v5, vI j82_l15_10, vI j82_l16_11, vI v15, vI j119_l18_20, vI j119_l19_21, vI v25, vI (2 : Int32), vR b28, vR b157, vR b170, vI (1 : Int32)] [(.int (1 : Int32))])) _
      refine XS.ifNo X203.here hx rfl (hb hby at_315) rfl ((if0 _ _).trans (feq (by decide : ¬ ((1 : Int32) = (0 : Int32)))).1) ?_
      refine XS.aload X203.here hx rfl (hb hby at_318) rfl rfl ?_
      refine XS.iconst X203.here hx rfl (hb hby at_320) ?_
      show Steps p.tables e below (T203.setTop (mkF m 321 #[vJ q0, .second, vJ q1, .second, vI p2, vI p3, vI v1, vI v2, vI v3, vI v4, vI (0 : Int32), vI (0 : Int32), vI (0 : Int32), vI v1, vI v5, vI j82_l15_10, vI j82_l16_11, vI v15, vI j119_l18_20, vI j119_l19_21, vI v25, vI (2 : Int32), vR b28, vR b157, vR b170, vI (1 : Int32)] [(.int (0 : Int32)), (.ref b157)])) _
      exact k)
    obtain ⟨cl209, Ar209, q209, S209, M209, H209, G209⟩ := id nf203_0
    have in209 : ¬ ((0 : Int32) < 0 ∨ cl209.slots.size ≤ ((0 : Int32)).toNatClampNeg) := inb_of S209 ⟨by decide, by decide⟩
    have at209 : cl209.slots[((0 : Int32)).toNatClampNeg]? = some (.int r203_0) := H209.at in209 rfl
    have pre210 : Go p.tables e below S0 T203 (mkF m 326 #[vJ q0, .second, vJ q1, .second, vI p2, vI p3, vI v1, vI v2, vI v3, vI v4, vI (0 : Int32), vI (0 : Int32), vI (0 : Int32), vI v1, vI v5, vI j82_l15_10, vI j82_l16_11, vI v15, vI j119_l18_20, vI j119_l19_21, vI v25, vI (2 : Int32), vR b28, vR b157, vR b170, vI (1 : Int32)] [(.int (0 : Int32)), (.long q1), (.long q0), (.int r203_0)]) := fun t k => pre208 t (by
      refine X203.iaload hx (j := (0 : Int32)) (v := (.int r203_0)) Ar209.1 (State.isArrayOf_alike hZ.alike Ar209.2.1) Ar209.2.2 in209 at209 (g := (mkF m 321 #[vJ q0, .second, vJ q1, .second, vI p2, vI p3, vI v1, vI v2, vI v3, vI v4, vI (0 : Int32), vI (0 : Int32), vI (0 : Int32), vI v1, vI v5, vI j82_l15_10, vI j82_l16_11, vI v15, vI j119_l18_20, vI j119_l19_21, vI v25, vI (2 : Int32), vR b28, vR b157, vR b170, vI (1 : Int32)] [(.int (0 : Int32)), (.ref b157)])) rfl rfl (hb hby at_321) _ ?_
      refine XS.lloadN X203.here hx rfl (hb hby at_322) rfl ?_
      refine XS.lloadN X203.here hx rfl (hb hby at_323) rfl ?_
      show Steps p.tables e below (T203.setTop (mkF m 324 #[vJ q0, .second, vJ q1, .second, vI p2, vI p3, vI v1, vI v2, vI v3, vI v4, vI (0 : Int32), vI (0 : Int32), vI (0 : Int32), vI v1, vI v5, vI j82_l15_10, vI j82_l16_11, vI v15, vI j119_l18_20, vI j119_l19_21, vI v25, vI (2 : Int32), vR b28, vR b157, vR b170, vI (1 : Int32)] [(.long q1), (.long q0), (.int r203_0)])) _
      refine XS.iload X203.here hx rfl (hb hby at_324) rfl ?_
      exact k)
    obtain ⟨_, _, ⟨T211, qL211, qk211, qn211⟩, -, X211, ⟨Lc211, hQ211, ql211, qy211, qz211⟩, st211⟩ := Jvm.LawKit.callS X203 hx (y := (⟨"com/example/garantia/garantia/engine/StateLayoutUnpackPinLaw", "pick", "(JJI)J"⟩ : MethodName)) hown (mvT hZ (hw _ (List.mem_of_getElem? (i := 32) rfl))) (mvT hZ (hw _ (List.mem_of_getElem? (i := 33) rfl))) (mvT hZ (hw _ (List.mem_of_getElem? (i := 34) rfl))) (mvT hZ (hw _ (List.mem_of_getElem? (i := 35) rfl))) (by decide) (backOf (W := 1) (rm4 l Z A0 hw [] q0 q1 (0 : Int32) T203.heap n0 zz205) hZ (hw _ (List.mem_of_getElem? (i := 35) rfl)) (hw _ (List.mem_of_getElem? (i := 34) rfl)) (by decide) (by decide)) (g := (mkF m 326 #[vJ q0, .second, vJ q1, .second, vI p2, vI p3, vI v1, vI v2, vI v3, vI v4, vI (0 : Int32), vI (0 : Int32), vI (0 : Int32), vI v1, vI v5, vI j82_l15_10, vI j82_l16_11, vI v15, vI j119_l18_20, vI j119_l19_21, vI v25, vI (2 : Int32), vR b28, vR b157, vR b170, vI (1 : Int32)] [(.int (0 : Int32)), (.long q1), (.long q0), (.int r203_0)])) rfl (by rw [hml]; rfl) (argsL := [(.long q0), (.long q1), (.int (0 : Int32))]) (rest := [(.int r203_0)]) (lenOf pd_2 rfl) rfl (by show 2 * 0 + _ ≤ _; exact Nat.le_of_eq rfl) (hb hby at_326) (fun _ _ => ⟨rfl, rfl, (by decide : 8 + 0 ≤ _), (by decide : 32 + 0 ≤ _)⟩)
    dsimp only [Pt.U, Pt.locs, Pt.cells, Pt.slots] at X211 ql211 qy211 qz211 st211 hQ211
    replace X211 := X211.more (Nat.le_of_eq qy211) (Nat.le_of_eq qz211)
    obtain ⟨rfl, Nq211, eq211⟩ := hQ211
    have N211 : Fr n0 qL211 := by rw [ql211]; exact Fr.app N203 Nq211
    have pre211 : Go p.tables e below S0 T211 (mkF m 329 #[vJ q0, .second, vJ q1, .second, vI p2, vI p3, vI v1, vI v2, vI v3, vI v4, vI (0 : Int32), vI (0 : Int32), vI (0 : Int32), vI v1, vI v5, vI j82_l15_10, vI j82_l16_11, vI v15, vI j119_l18_20, vI j119_l19_21, vI v25, vI (2 : Int32), vR b28, vR b157, vR b170, vI (1 : Int32)] [(.long (own_pick q0 q1 (0 : Int32))), (.int r203_0)]) := fun t k => pre210 t (st211 t k)
    have pre212 : Go p.tables e below S0 T211 (mkF m 333 #[vJ q0, .second, vJ q1, .second, vI p2, vI p3, vI v1, vI v2, vI v3, vI v4, vI (0 : Int32), vI (0 : Int32), vI (0 : Int32), vI v1, vI v5, vI j82_l15_10, vI j82_l16_11, vI v15, vI j119_l18_20, vI j119_l19_21, vI v25, vI (2 : Int32), vR b28, vR b157, vR b170, vI (1 : Int32)] [(.int v1), (.int (0 : Int32)), (.long (own_pick q0 q1 (0 : Int32))), (.int r203_0)]) := fun t k => pre211 t (by
      refine XS.iload X211.here hx rfl (hb hby at_329) rfl ?_
      refine XS.iload X211.here hx rfl (hb hby at_331) rfl ?_
      exact k)
    obtain ⟨_, _, ⟨T213, qL213, qk213, qn213⟩, -, X213, ⟨Lc213, hQ213, ql213, qy213, qz213⟩, st213⟩ := Jvm.LawKit.callS X211 hx (y := (⟨"com/example/garantia/garantia/engine/StateLayoutUnpackPinLaw", "ref", "(JII)I"⟩ : MethodName)) hown (mvT hZ (hw _ (List.mem_of_getElem? (i := 36) rfl))) (mvT hZ (hw _ (List.mem_of_getElem? (i := 37) rfl))) (mvT hZ (hw _ (List.mem_of_getElem? (i := 34) rfl))) (mvT hZ (hw _ (List.mem_of_getElem? (i := 38) rfl))) (by decide) (backOf (W := 1) (rm5 l Z A0 hw [] (own_pick q0 q1 (0 : Int32)) (0 : Int32) v1 T203.heap n0 zz205) hZ (hw _ (List.mem_of_getElem? (i := 38) rfl)) (hw _ (List.mem_of_getElem? (i := 34) rfl)) (by decide) (by decide)) (g := (mkF m 333 #[vJ q0, .second, vJ q1, .second, vI p2, vI p3, vI v1, vI v2, vI v3, vI v4, vI (0 : Int32), vI (0 : Int32), vI (0 : Int32), vI v1, vI v5, vI j82_l15_10, vI j82_l16_11, vI v15, vI j119_l18_20, vI j119_l19_21, vI v25, vI (2 : Int32), vR b28, vR b157, vR b170, vI (1 : Int32)] [(.int v1), (.int (0 : Int32)), (.long (own_pick q0 q1 (0 : Int32))), (.int r203_0)])) rfl (by rw [hml]; rfl) (argsL := [(.long (own_pick q0 q1 (0 : Int32))), (.int (0 : Int32)), (.int v1)]) (rest := [(.int r203_0)]) (lenOf pd_3 rfl) rfl (by show 2 * 0 + _ ≤ _; exact Nat.le_of_eq rfl) (hb hby at_333) (fun _ _ => ⟨rfl, eq211, (by decide : 8 + 0 ≤ _), (by decide : 32 + 0 ≤ _)⟩)
    dsimp only [Pt.U, Pt.locs, Pt.cells, Pt.slots] at X213 ql213 qy213 qz213 st213 hQ213
    replace X213 := X213.more (Nat.le_of_eq qy213) (Nat.le_of_eq qz213)
    obtain ⟨rfl, Nq213, eq213⟩ := hQ213
    have N213 : Fr n0 qL213 := by rw [ql213]; exact Fr.app N211 Nq213
    have pre213 : Go p.tables e below S0 T213 (mkF m 336 #[vJ q0, .second, vJ q1, .second, vI p2, vI p3, vI v1, vI v2, vI v3, vI v4, vI (0 : Int32), vI (0 : Int32), vI (0 : Int32), vI v1, vI v5, vI j82_l15_10, vI j82_l16_11, vI v15, vI j119_l18_20, vI j119_l19_21, vI v25, vI (2 : Int32), vR b28, vR b157, vR b170, vI (1 : Int32)] [(.int (own_ref (own_pick q0 q1 (0 : Int32)) (0 : Int32) v1)), (.int r203_0)]) := fun t k => pre212 t (st213 t k)
    have cc214 : r203_0 = (own_ref (own_pick q0 q1 (0 : Int32)) (0 : Int32) v1) := own_key (f := 0) hR203.1 (own_from hoff (Or.inl rfl)) (by decide) hw0 (by show (0 : Int) + _ ≤ 64; omega)
    have pre215 : Go p.tables e below S0 T213 (mkF m 360 #[vJ q0, .second, vJ q1, .second, vI p2, vI p3, vI v1, vI v2, vI v3, vI v4, vI (0 : Int32), vI (0 : Int32), vI (0 : Int32), vI v1, vI v5, vI j82_l15_10, vI j82_l16_11, vI v15, vI j119_l18_20, vI j119_l19_21, vI v25, vI (2 : Int32), vR b28, vR b157, vR b170, vI (1 : Int32)] [(.int (1 : Int32)), (.ref b157)]) := fun t k => pre213 t (by
      refine XS.icmpNo X213.here hx rfl (hb hby at_336) rfl (teq cc214).2 ?_
      refine XS.iconst X213.here hx rfl (hb hby at_339) ?_
      refine XS.goto X213.here hx rfl (pc0 := 340) (pc' := 344) rfl (hb hby at_340) (by decide) (by decide) ?_
      show Steps p.tables e below (T213.setTop (mkF m 344 #[vJ q0, .second, vJ q1, .second, vI p2, vI p3, vI v1, vI v2, vI v3, vI v4, vI (0 : Int32), vI (0 : Int32), vI (0 : Int32), vI v1, vI v5, vI j82_l15_10, vI j82_l16_11, vI v15, vI j119_l18_20, vI j119_l19_21, vI v25, vI (2 : Int32), vR b28, vR b157, vR b170, vI (1 : Int32)] [(.int (1 : Int32))])) _
      refine XS.istore X213.here hx rfl (hb hby at_344) rfl (l' := #[vJ q0, .second, vJ q1, .second, vI p2, vI p3, vI v1, vI v2, vI v3, vI v4, vI (0 : Int32), vI (0 : Int32), vI (0 : Int32), vI v1, vI v5, vI j82_l15_10, vI j82_l16_11, vI v15, vI j119_l18_20, vI j119_l19_21, vI v25, vI (2 : Int32), vR b28, vR b157, vR b170, vI (1 : Int32)]) rfl ?_
      refine XS.iload X213.here hx rfl (hb hby at_346) rfl ?_
      refine XS.iconst X213.here hx rfl (hb hby at_348) ?_
      show Steps p.tables e below (T213.setTop (mkF m 349 #[vJ q0, .second, vJ q1, .second, vI p2, vI p3, vI v1, vI v2, vI v3, vI v4, vI (0 : Int32), vI (0 : Int32), vI (0 : Int32), vI v1, vI v5, vI j82_l15_10, vI j82_l16_11, vI v15, vI j119_l18_20, vI j119_l19_21, vI v25, vI (2 : Int32), vR b28, vR b157, vR b170, vI (1 : Int32)] [(.int (1 : Int32)), (.int (2 : Int32))])) _
      refine XS.icmpNo X213.here hx rfl (hb hby at_349) rfl (tlt (by decide : (1 : Int32) < (2 : Int32))).2.2.2 ?_
      refine XS.iload X213.here hx rfl (hb hby at_352) rfl ?_
      refine XS.ifNo X213.here hx rfl (hb hby at_354) rfl ((if0 _ _).trans (feq (by decide : ¬ ((1 : Int32) = (0 : Int32)))).1) ?_
      show Steps p.tables e below (T213.setTop (mkF m 357 #[vJ q0, .second, vJ q1, .second, vI p2, vI p3, vI v1, vI v2, vI v3, vI v4, vI (0 : Int32), vI (0 : Int32), vI (0 : Int32), vI v1, vI v5, vI j82_l15_10, vI j82_l16_11, vI v15, vI j119_l18_20, vI j119_l19_21, vI v25, vI (2 : Int32), vR b28, vR b157, vR b170, vI (1 : Int32)] [])) _
      refine XS.aload X213.here hx rfl (hb hby at_357) rfl rfl ?_
      refine XS.iconst X213.here hx rfl (hb hby at_359) ?_
      exact k)
    obtain ⟨cl216, Ar216, q216, S216, M216, H216, G216⟩ := id nf203_0
    have in216 : ¬ ((1 : Int32) < 0 ∨ cl216.slots.size ≤ ((1 : Int32)).toNatClampNeg) := inb_of S216 ⟨by decide, by decide⟩
    have at216 : cl216.slots[((1 : Int32)).toNatClampNeg]? = some (.int r203_1) := H216.at in216 rfl
    have pre217 : Go p.tables e below S0 T213 (mkF m 365 #[vJ q0, .second, vJ q1, .second, vI p2, vI p3, vI v1, vI v2, vI v3, vI v4, vI (0 : Int32), vI (0 : Int32), vI (0 : Int32), vI v1, vI v5, vI j82_l15_10, vI j82_l16_11, vI v15, vI j119_l18_20, vI j119_l19_21, vI v25, vI (2 : Int32), vR b28, vR b157, vR b170, vI (1 : Int32)] [(.int (0 : Int32)), (.long q1), (.long q0), (.int r203_1)]) := fun t k => pre215 t (by
      refine X213.iaload hx (j := (1 : Int32)) (v := (.int r203_1)) (by rw [eq213]; exact Ar216.1) (State.isArrayOf_alike hZ.alike Ar216.2.1) Ar216.2.2 in216 at216 (g := (mkF m 360 #[vJ q0, .second, vJ q1, .second, vI p2, vI p3, vI v1, vI v2, vI v3, vI v4, vI (0 : Int32), vI (0 : Int32), vI (0 : Int32), vI v1, vI v5, vI j82_l15_10, vI j82_l16_11, vI v15, vI j119_l18_20, vI j119_l19_21, vI v25, vI (2 : Int32), vR b28, vR b157, vR b170, vI (1 : Int32)] [(.int (1 : Int32)), (.ref b157)])) rfl rfl (hb hby at_360) _ ?_
      refine XS.lloadN X213.here hx rfl (hb hby at_361) rfl ?_
      refine XS.lloadN X213.here hx rfl (hb hby at_362) rfl ?_
      show Steps p.tables e below (T213.setTop (mkF m 363 #[vJ q0, .second, vJ q1, .second, vI p2, vI p3, vI v1, vI v2, vI v3, vI v4, vI (0 : Int32), vI (0 : Int32), vI (0 : Int32), vI v1, vI v5, vI j82_l15_10, vI j82_l16_11, vI v15, vI j119_l18_20, vI j119_l19_21, vI v25, vI (2 : Int32), vR b28, vR b157, vR b170, vI (1 : Int32)] [(.long q1), (.long q0), (.int r203_1)])) _
      refine XS.iload X213.here hx rfl (hb hby at_363) rfl ?_
      exact k)
    obtain ⟨_, _, ⟨T218, qL218, qk218, qn218⟩, -, X218, ⟨Lc218, hQ218, ql218, qy218, qz218⟩, st218⟩ := Jvm.LawKit.callS X213 hx (y := (⟨"com/example/garantia/garantia/engine/StateLayoutUnpackPinLaw", "pick", "(JJI)J"⟩ : MethodName)) hown (mvT hZ (hw _ (List.mem_of_getElem? (i := 32) rfl))) (mvT hZ (hw _ (List.mem_of_getElem? (i := 33) rfl))) (mvT hZ (hw _ (List.mem_of_getElem? (i := 34) rfl))) (mvT hZ (hw _ (List.mem_of_getElem? (i := 35) rfl))) (by decide) (backOf (W := 1) (rm4 l Z A0 hw [] q0 q1 (0 : Int32) T203.heap n0 zz205) hZ (hw _ (List.mem_of_getElem? (i := 35) rfl)) (hw _ (List.mem_of_getElem? (i := 34) rfl)) (by decide) (by decide)) (g := (mkF m 365 #[vJ q0, .second, vJ q1, .second, vI p2, vI p3, vI v1, vI v2, vI v3, vI v4, vI (0 : Int32), vI (0 : Int32), vI (0 : Int32), vI v1, vI v5, vI j82_l15_10, vI j82_l16_11, vI v15, vI j119_l18_20, vI j119_l19_21, vI v25, vI (2 : Int32), vR b28, vR b157, vR b170, vI (1 : Int32)] [(.int (0 : Int32)), (.long q1), (.long q0), (.int r203_1)])) rfl (by rw [hml]; rfl) (argsL := [(.long q0), (.long q1), (.int (0 : Int32))]) (rest := [(.int r203_1)]) (lenOf pd_2 rfl) rfl (by show 2 * 0 + _ ≤ _; exact Nat.le_of_eq rfl) (hb hby at_365) (fun _ _ => ⟨rfl, eq213, (by decide : 8 + 0 ≤ _), (by decide : 32 + 0 ≤ _)⟩)
    dsimp only [Pt.U, Pt.locs, Pt.cells, Pt.slots] at X218 ql218 qy218 qz218 st218 hQ218
    replace X218 := X218.more (Nat.le_of_eq qy218) (Nat.le_of_eq qz218)
    obtain ⟨rfl, Nq218, eq218⟩ := hQ218
    have N218 : Fr n0 qL218 := by rw [ql218]; exact Fr.app N213 Nq218
    have pre218 : Go p.tables e below S0 T218 (mkF m 368 #[vJ q0, .second, vJ q1, .second, vI p2, vI p3, vI v1, vI v2, vI v3, vI v4, vI (0 : Int32), vI (0 : Int32), vI (0 : Int32), vI v1, vI v5, vI j82_l15_10, vI j82_l16_11, vI v15, vI j119_l18_20, vI j119_l19_21, vI v25, vI (2 : Int32), vR b28, vR b157, vR b170, vI (1 : Int32)] [(.long (own_pick q0 q1 (0 : Int32))), (.int r203_1)]) := fun t k => pre217 t (st218 t k)
    have pre219 : Go p.tables e below S0 T218 (mkF m 372 #[vJ q0, .second, vJ q1, .second, vI p2, vI p3, vI v1, vI v2, vI v3, vI v4, vI (0 : Int32), vI (0 : Int32), vI (0 : Int32), vI v1, vI v5, vI j82_l15_10, vI j82_l16_11, vI v15, vI j119_l18_20, vI j119_l19_21, vI v25, vI (2 : Int32), vR b28, vR b157, vR b170, vI (1 : Int32)] [(.int v2), (.int v1), (.long (own_pick q0 q1 (0 : Int32))), (.int r203_1)]) := fun t k => pre218 t (by
      refine XS.iload X218.here hx rfl (hb hby at_368) rfl ?_
      refine XS.iload X218.here hx rfl (hb hby at_370) rfl ?_
      exact k)
    obtain ⟨_, _, ⟨T220, qL220, qk220, qn220⟩, -, X220, ⟨Lc220, hQ220, ql220, qy220, qz220⟩, st220⟩ := Jvm.LawKit.callS X218 hx (y := (⟨"com/example/garantia/garantia/engine/StateLayoutUnpackPinLaw", "ref", "(JII)I"⟩ : MethodName)) hown (mvT hZ (hw _ (List.mem_of_getElem? (i := 36) rfl))) (mvT hZ (hw _ (List.mem_of_getElem? (i := 37) rfl))) (mvT hZ (hw _ (List.mem_of_getElem? (i := 34) rfl))) (mvT hZ (hw _ (List.mem_of_getElem? (i := 38) rfl))) (by decide) (backOf (W := 1) (rm5 l Z A0 hw [] (own_pick q0 q1 (0 : Int32)) v1 v2 T203.heap n0 zz205) hZ (hw _ (List.mem_of_getElem? (i := 38) rfl)) (hw _ (List.mem_of_getElem? (i := 34) rfl)) (by decide) (by decide)) (g := (mkF m 372 #[vJ q0, .second, vJ q1, .second, vI p2, vI p3, vI v1, vI v2, vI v3, vI v4, vI (0 : Int32), vI (0 : Int32), vI (0 : Int32), vI v1, vI v5, vI j82_l15_10, vI j82_l16_11, vI v15, vI j119_l18_20, vI j119_l19_21, vI v25, vI (2 : Int32), vR b28, vR b157, vR b170, vI (1 : Int32)] [(.int v2), (.int v1), (.long (own_pick q0 q1 (0 : Int32))), (.int r203_1)])) rfl (by rw [hml]; rfl) (argsL := [(.long (own_pick q0 q1 (0 : Int32))), (.int v1), (.int v2)]) (rest := [(.int r203_1)]) (lenOf pd_3 rfl) rfl (by show 2 * 0 + _ ≤ _; exact Nat.le_of_eq rfl) (hb hby at_372) (fun _ _ => ⟨rfl, eq218, (by decide : 8 + 0 ≤ _), (by decide : 32 + 0 ≤ _)⟩)
    dsimp only [Pt.U, Pt.locs, Pt.cells, Pt.slots] at X220 ql220 qy220 qz220 st220 hQ220
    replace X220 := X220.more (Nat.le_of_eq qy220) (Nat.le_of_eq qz220)
    obtain ⟨rfl, Nq220, eq220⟩ := hQ220
    have N220 : Fr n0 qL220 := by rw [ql220]; exact Fr.app N218 Nq220
    have pre220 : Go p.tables e below S0 T220 (mkF m 375 #[vJ q0, .second, vJ q1, .second, vI p2, vI p3, vI v1, vI v2, vI v3, vI v4, vI (0 : Int32), vI (0 : Int32), vI (0 : Int32), vI v1, vI v5, vI j82_l15_10, vI j82_l16_11, vI v15, vI j119_l18_20, vI j119_l19_21, vI v25, vI (2 : Int32), vR b28, vR b157, vR b170, vI (1 : Int32)] [(.int (own_ref (own_pick q0 q1 (0 : Int32)) v1 v2)), (.int r203_1)]) := fun t k => pre219 t (st220 t k)
    have cc221 : r203_1 = (own_ref (own_pick q0 q1 (0 : Int32)) v1 v2) := (own_key (f := 0) hR203.2 (own_from hoff (Or.inl rfl)) (by rw [Int32.zero_add]; exact hw0.1) hw1 (by rw [Int32.zero_add]; omega)).trans (own_z1 _ _ _)
    have pre222 : Go p.tables e below S0 T220 (mkF m 465 #[vJ q0, .second, vJ q1, .second, vI p2, vI p3, vI v1, vI v2, vI v3, vI v4, vI (0 : Int32), vI (0 : Int32), vI (0 : Int32), vI v1, vI v5, vI j82_l15_10, vI j82_l16_11, vI v15, vI j119_l18_20, vI j119_l19_21, vI v25, vI (2 : Int32), vR b28, vR b157, vR b170, vI (1 : Int32)] [(.int (1 : Int32))]) := fun t k => pre220 t (by
      refine XS.icmpNo X220.here hx rfl (hb hby at_375) rfl (teq cc221).2 ?_
      refine XS.iconst X220.here hx rfl (hb hby at_378) ?_
      refine XS.goto X220.here hx rfl (pc0 := 379) (pc' := 383) rfl (hb hby at_379) (by decide) (by decide) ?_
      show Steps p.tables e below (T220.setTop (mkF m 383 #[vJ q0, .second, vJ q1, .second, vI p2, vI p3, vI v1, vI v2, vI v3, vI v4, vI (0 : Int32), vI (0 : Int32), vI (0 : Int32), vI v1, vI v5, vI j82_l15_10, vI j82_l16_11, vI v15, vI j119_l18_20, vI j119_l19_21, vI v25, vI (2 : Int32), vR b28, vR b157, vR b170, vI (1 : Int32)] [(.int (1 : Int32))])) _
      refine XS.istore X220.here hx rfl (hb hby at_383) rfl (l' := #[vJ q0, .second, vJ q1, .second, vI p2, vI p3, vI v1, vI v2, vI v3, vI v4, vI (0 : Int32), vI (0 : Int32), vI (0 : Int32), vI v1, vI v5, vI j82_l15_10, vI j82_l16_11, vI v15, vI j119_l18_20, vI j119_l19_21, vI v25, vI (2 : Int32), vR b28, vR b157, vR b170, vI (1 : Int32)]) rfl ?_
      refine XS.iload X220.here hx rfl (hb hby at_385) rfl ?_
      refine XS.iconst X220.here hx rfl (hb hby at_387) ?_
      show Steps p.tables e below (T220.setTop (mkF m 388 #[vJ q0, .second, vJ q1, .second, vI p2, vI p3, vI v1, vI v2, vI v3, vI v4, vI (0 : Int32), vI (0 : Int32), vI (0 : Int32), vI v1, vI v5, vI j82_l15_10, vI j82_l16_11, vI v15, vI j119_l18_20, vI j119_l19_21, vI v25, vI (2 : Int32), vR b28, vR b157, vR b170, vI (1 : Int32)] [(.int (2 : Int32)), (.int (2 : Int32))])) _
      refine XS.icmpYes X220.here hx rfl (pc0 := 388) (pc' := 424) rfl (hb hby at_388) rfl (flt (by decide : ¬ ((2 : Int32) < (2 : Int32)))).2.2.2 (by decide) (by decide) ?_
      refine XS.iload X220.here hx rfl (hb hby at_424) rfl ?_
      refine XS.iconst X220.here hx rfl (hb hby at_426) ?_
      show Steps p.tables e below (T220.setTop (mkF m 427 #[vJ q0, .second, vJ q1, .second, vI p2, vI p3, vI v1, vI v2, vI v3, vI v4, vI (0 : Int32), vI (0 : Int32), vI (0 : Int32), vI v1, vI v5, vI j82_l15_10, vI j82_l16_11, vI v15, vI j119_l18_20, vI j119_l19_21, vI v25, vI (2 : Int32), vR b28, vR b157, vR b170, vI (1 : Int32)] [(.int (3 : Int32)), (.int (2 : Int32))])) _
      refine XS.icmpYes X220.here hx rfl (pc0 := 427) (pc' := 463) rfl (hb hby at_427) rfl (flt (by decide : ¬ ((3 : Int32) < (2 : Int32)))).2.2.2 (by decide) (by decide) ?_
      refine XS.iload X220.here hx rfl (hb hby at_463) rfl ?_
      exact k)
    obtain ⟨fs, hr, hrun, hended, hW, hsame⟩ := X220.leave (v := some (.int (1 : Int32))) (fun h => by rw [Bd.returns] at h; cases h)
    exact ⟨_, _, pre222.fin hS0 (retN X220 hx (t := .boolean) Bd.returns (by simp) (hb hby at_465) hr), hrun, hended, _, _, rfl, (by
      show Q0 Z q0 q1 p2 p3 h0 n0 _ T220.heap _
      rw [eq220]
      exact ⟨rfl, N220⟩), ⟨_, rfl⟩, hW, hsame.mono (by decide) (by decide)⟩
  · skip
    have pre223 : Go p.tables e below S0 T52 (mkF m 203 #[vJ q0, .second, vJ q1, .second, vI p2, vI p3, vI v1, vI v2, vI v3, vI v4, vI (0 : Int32), vI (0 : Int32), vI (0 : Int32), vI v1, vI v5, vI j82_l15_10, vI j82_l16_11, vI v15, vI j119_l18_20, vI j119_l19_21, vI v25, vI (3 : Int32), vR b28, .unset, .unset, .unset] [(.int (3 : Int32))]) := fun t k => pre52 t (by
      refine XS.iload X52.here hx rfl (hb hby at_201) rfl ?_
      exact k)
    obtain ⟨T224, h224, kA224, X224, e224, E224, A224, st224⟩ := newP X52 hx hZ (hw _ (List.mem_of_getElem? (i := 4) rfl)) e52 (g := (mkF m 203 #[vJ q0, .second, vJ q1, .second, vI p2, vI p3, vI v1, vI v2, vI v3, vI v4, vI (0 : Int32), vI (0 : Int32), vI (0 : Int32), vI v1, vI v5, vI j82_l15_10, vI j82_l16_11, vI v15, vI j119_l18_20, vI j119_l19_21, vI v25, vI (3 : Int32), vR b28, .unset, .unset, .unset] [(.int (3 : Int32))])) rfl (hb hby at_203) rfl (by decide) (cap := 3) (by decide) (by decide) (by decide) (by decide)
    obtain ⟨b224, g224⟩ : ∃ z, z = h52.size := ⟨_, rfl⟩
    rw [← g224] at A224 st224
    have pre224 : Go p.tables e below S0 T224 (mkF m 205 #[vJ q0, .second, vJ q1, .second, vI p2, vI p3, vI v1, vI v2, vI v3, vI v4, vI (0 : Int32), vI (0 : Int32), vI (0 : Int32), vI v1, vI v5, vI j82_l15_10, vI j82_l16_11, vI v15, vI j119_l18_20, vI j119_l19_21, vI v25, vI (3 : Int32), vR b28, .unset, .unset, .unset] [(.ref b224)]) := fun t k => pre223 t (st224 t k)
    have ne225 : b28 ≠ b224 := Nat.ne_of_lt (Nat.lt_of_lt_of_le av52.lt (Nat.le_of_eq g224.symm))
    have bo224 : n0 ≤ b224 := Nat.le_trans zz54 (Nat.le_of_eq g224.symm)
    have f226_1 := av52.ext E224
    have zz227 : n0 ≤ h224.size := Nat.le_trans zz54 E224.1
    have av224 : Arv Z h224 b224 kA224 .int (3 : Int32) [(.int (0 : Int32)), (.int (0 : Int32)), (.int (0 : Int32))] (.int (0 : Int32)) := (Arv.new A224 (by decide)).pad (pad_rep [] (.int (0 : Int32)) 3)
    have pre228 : Go p.tables e below S0 T224 (mkF m 216 #[vJ q0, .second, vJ q1, .second, vI p2, vI p3, vI v1, vI v2, vI v3, vI v4, vI (0 : Int32), vI (0 : Int32), vI (0 : Int32), vI v1, vI v5, vI j82_l15_10, vI j82_l16_11, vI v15, vI j119_l18_20, vI j119_l19_21, vI v25, vI (3 : Int32), vR b28, vR b224, .unset, .unset] [(.int (-1 : Int32)), (.int (0 : Int32)), (.ref b224)]) := fun t k => pre224 t (by
      refine XS.astore X224.here hx rfl (hb hby at_205) rfl rfl (l' := #[vJ q0, .second, vJ q1, .second, vI p2, vI p3, vI v1, vI v2, vI v3, vI v4, vI (0 : Int32), vI (0 : Int32), vI (0 : Int32), vI v1, vI v5, vI j82_l15_10, vI j82_l16_11, vI v15, vI j119_l18_20, vI j119_l19_21, vI v25, vI (3 : Int32), vR b28, vR b224, .unset, .unset]) rfl ?_
      refine XS.iload X224.here hx rfl (hb hby at_207) rfl ?_
      refine XS.ifNo X224.here hx rfl (hb hby at_209) rfl ((if0 _ _).trans (tlt (by decide : (0 : Int32) < (3 : Int32))).2.2.2) ?_
      show Steps p.tables e below (T224.setTop (mkF m 212 #[vJ q0, .second, vJ q1, .second, vI p2, vI p3, vI v1, vI v2, vI v3, vI v4, vI (0 : Int32), vI (0 : Int32), vI (0 : Int32), vI v1, vI v5, vI j82_l15_10, vI j82_l16_11, vI v15, vI j119_l18_20, vI j119_l19_21, vI v25, vI (3 : Int32), vR b28, vR b224, .unset, .unset] [])) _
      refine XS.aload X224.here hx rfl (hb hby at_212) rfl rfl ?_
      refine XS.iconst X224.here hx rfl (hb hby at_214) ?_
      refine XS.iconst X224.here hx rfl (hb hby at_215) ?_
      show Steps p.tables e below (T224.setTop (mkF m 216 #[vJ q0, .second, vJ q1, .second, vI p2, vI p3, vI v1, vI v2, vI v3, vI v4, vI (0 : Int32), vI (0 : Int32), vI (0 : Int32), vI v1, vI v5, vI j82_l15_10, vI j82_l16_11, vI v15, vI j119_l18_20, vI j119_l19_21, vI v25, vI (3 : Int32), vR b28, vR b224, .unset, .unset] [(.int (-1 : Int32)), (.int (0 : Int32)), (.ref b224)])) _
      exact k)
    obtain ⟨cl229, Ar229, q229, S229, M229, H229, G229⟩ := id av224
    have in229 : ¬ ((0 : Int32) < 0 ∨ cl229.slots.size ≤ ((0 : Int32)).toNatClampNeg) := inb_of S229 ⟨by decide, by decide⟩
    obtain ⟨T229, h229, X229, e229, W229, st229⟩ := stI X224 hx hZ e224 Ar229 (j := (0 : Int32)) in229 (g := (mkF m 216 #[vJ q0, .second, vJ q1, .second, vI p2, vI p3, vI v1, vI v2, vI v3, vI v4, vI (0 : Int32), vI (0 : Int32), vI (0 : Int32), vI v1, vI v5, vI j82_l15_10, vI j82_l16_11, vI v15, vI j119_l18_20, vI j119_l19_21, vI v25, vI (3 : Int32), vR b28, vR b224, .unset, .unset] [(.int (-1 : Int32)), (.int (0 : Int32)), (.ref b224)])) rfl rfl (hb hby at_216)
    have pre229 : Go p.tables e below S0 T229 (mkF m 217 #[vJ q0, .second, vJ q1, .second, vI p2, vI p3, vI v1, vI v2, vI v3, vI v4, vI (0 : Int32), vI (0 : Int32), vI (0 : Int32), vI v1, vI v5, vI j82_l15_10, vI j82_l16_11, vI v15, vI j119_l18_20, vI j119_l19_21, vI v25, vI (3 : Int32), vR b28, vR b224, .unset, .unset] []) := fun t k => pre228 t (st229 t k)
    obtain ⟨lo229, N229, X229⟩ : ∃ lo, Fr n0 lo ∧ Stand p l e room_1 s m #[(.long q0), (.long q1), (.int p2), (.int p3)] below meth c T229 lo 2 7 := ⟨_, Fr.snoc X229 N52 bo224, X229⟩
    have av229 : Arv Z h229 b224 kA224 .int (3 : Int32) [(.int (-1 : Int32)), (.int (0 : Int32)), (.int (0 : Int32))] (.int (0 : Int32)) := Arv.set Ar229 q229 S229 M229 H229 G229 rfl W229 0 rfl (Nat.le_of_ble_eq_true rfl)
    have f230_1 := f226_1.other W229 ne225
    have zz231 : n0 ≤ h229.size := Nat.le_trans zz227 (Keep.of_wr W229).1
    have pre232 : Go p.tables e below S0 T229 (mkF m 227 #[vJ q0, .second, vJ q1, .second, vI p2, vI p3, vI v1, vI v2, vI v3, vI v4, vI (0 : Int32), vI (0 : Int32), vI (0 : Int32), vI v1, vI v5, vI j82_l15_10, vI j82_l16_11, vI v15, vI j119_l18_20, vI j119_l19_21, vI v25, vI (3 : Int32), vR b28, vR b224, .unset, .unset] [(.int (-1 : Int32)), (.int (1 : Int32)), (.ref b224)]) := fun t k => pre229 t (by
      refine XS.iload X229.here hx rfl (hb hby at_217) rfl ?_
      refine XS.iconst X229.here hx rfl (hb hby at_219) ?_
      refine XS.icmpNo X229.here hx rfl (hb hby at_220) rfl (tlt (by decide : (1 : Int32) < (3 : Int32))).2.2.2 ?_
      show Steps p.tables e below (T229.setTop (mkF m 223 #[vJ q0, .second, vJ q1, .second, vI p2, vI p3, vI v1, vI v2, vI v3, vI v4, vI (0 : Int32), vI (0 : Int32), vI (0 : Int32), vI v1, vI v5, vI j82_l15_10, vI j82_l16_11, vI v15, vI j119_l18_20, vI j119_l19_21, vI v25, vI (3 : Int32), vR b28, vR b224, .unset, .unset] [])) _
      refine XS.aload X229.here hx rfl (hb hby at_223) rfl rfl ?_
      refine XS.iconst X229.here hx rfl (hb hby at_225) ?_
      refine XS.iconst X229.here hx rfl (hb hby at_226) ?_
      show Steps p.tables e below (T229.setTop (mkF m 227 #[vJ q0, .second, vJ q1, .second, vI p2, vI p3, vI v1, vI v2, vI v3, vI v4, vI (0 : Int32), vI (0 : Int32), vI (0 : Int32), vI v1, vI v5, vI j82_l15_10, vI j82_l16_11, vI v15, vI j119_l18_20, vI j119_l19_21, vI v25, vI (3 : Int32), vR b28, vR b224, .unset, .unset] [(.int (-1 : Int32)), (.int (1 : Int32)), (.ref b224)])) _
      exact k)
    obtain ⟨cl233, Ar233, q233, S233, M233, H233, G233⟩ := id av229
    have in233 : ¬ ((1 : Int32) < 0 ∨ cl233.slots.size ≤ ((1 : Int32)).toNatClampNeg) := inb_of S233 ⟨by decide, by decide⟩
    obtain ⟨T233, h233, X233, e233, W233, st233⟩ := stI X229 hx hZ e229 Ar233 (j := (1 : Int32)) in233 (g := (mkF m 227 #[vJ q0, .second, vJ q1, .second, vI p2, vI p3, vI v1, vI v2, vI v3, vI v4, vI (0 : Int32), vI (0 : Int32), vI (0 : Int32), vI v1, vI v5, vI j82_l15_10, vI j82_l16_11, vI v15, vI j119_l18_20, vI j119_l19_21, vI v25, vI (3 : Int32), vR b28, vR b224, .unset, .unset] [(.int (-1 : Int32)), (.int (1 : Int32)), (.ref b224)])) rfl rfl (hb hby at_227)
    have pre233 : Go p.tables e below S0 T233 (mkF m 228 #[vJ q0, .second, vJ q1, .second, vI p2, vI p3, vI v1, vI v2, vI v3, vI v4, vI (0 : Int32), vI (0 : Int32), vI (0 : Int32), vI v1, vI v5, vI j82_l15_10, vI j82_l16_11, vI v15, vI j119_l18_20, vI j119_l19_21, vI v25, vI (3 : Int32), vR b28, vR b224, .unset, .unset] []) := fun t k => pre232 t (st233 t k)
    obtain ⟨lo233, N233, X233⟩ : ∃ lo, Fr n0 lo ∧ Stand p l e room_1 s m #[(.long q0), (.long q1), (.int p2), (.int p3)] below meth c T233 lo 2 7 := ⟨_, Fr.snoc X233 N229 bo224, X233⟩
    have av233 : Arv Z h233 b224 kA224 .int (3 : Int32) [(.int (-1 : Int32)), (.int (-1 : Int32)), (.int (0 : Int32))] (.int (0 : Int32)) := Arv.set Ar233 q233 S233 M233 H233 G233 rfl W233 1 rfl (Nat.le_of_ble_eq_true rfl)
    have f234_1 := f230_1.other W233 ne225
    have zz235 : n0 ≤ h233.size := Nat.le_trans zz231 (Keep.of_wr W233).1
    have pre236 : Go p.tables e below S0 T233 (mkF m 238 #[vJ q0, .second, vJ q1, .second, vI p2, vI p3, vI v1, vI v2, vI v3, vI v4, vI (0 : Int32), vI (0 : Int32), vI (0 : Int32), vI v1, vI v5, vI j82_l15_10, vI j82_l16_11, vI v15, vI j119_l18_20, vI j119_l19_21, vI v25, vI (3 : Int32), vR b28, vR b224, .unset, .unset] [(.int (-1 : Int32)), (.int (2 : Int32)), (.ref b224)]) := fun t k => pre233 t (by
      refine XS.iload X233.here hx rfl (hb hby at_228) rfl ?_
      refine XS.iconst X233.here hx rfl (hb hby at_230) ?_
      refine XS.icmpNo X233.here hx rfl (hb hby at_231) rfl (tlt (by decide : (2 : Int32) < (3 : Int32))).2.2.2 ?_
      show Steps p.tables e below (T233.setTop (mkF m 234 #[vJ q0, .second, vJ q1, .second, vI p2, vI p3, vI v1, vI v2, vI v3, vI v4, vI (0 : Int32), vI (0 : Int32), vI (0 : Int32), vI v1, vI v5, vI j82_l15_10, vI j82_l16_11, vI v15, vI j119_l18_20, vI j119_l19_21, vI v25, vI (3 : Int32), vR b28, vR b224, .unset, .unset] [])) _
      refine XS.aload X233.here hx rfl (hb hby at_234) rfl rfl ?_
      refine XS.iconst X233.here hx rfl (hb hby at_236) ?_
      refine XS.iconst X233.here hx rfl (hb hby at_237) ?_
      show Steps p.tables e below (T233.setTop (mkF m 238 #[vJ q0, .second, vJ q1, .second, vI p2, vI p3, vI v1, vI v2, vI v3, vI v4, vI (0 : Int32), vI (0 : Int32), vI (0 : Int32), vI v1, vI v5, vI j82_l15_10, vI j82_l16_11, vI v15, vI j119_l18_20, vI j119_l19_21, vI v25, vI (3 : Int32), vR b28, vR b224, .unset, .unset] [(.int (-1 : Int32)), (.int (2 : Int32)), (.ref b224)])) _
      exact k)
    obtain ⟨cl237, Ar237, q237, S237, M237, H237, G237⟩ := id av233
    have in237 : ¬ ((2 : Int32) < 0 ∨ cl237.slots.size ≤ ((2 : Int32)).toNatClampNeg) := inb_of S237 ⟨by decide, by decide⟩
    obtain ⟨T237, h237, X237, e237, W237, st237⟩ := stI X233 hx hZ e233 Ar237 (j := (2 : Int32)) in237 (g := (mkF m 238 #[vJ q0, .second, vJ q1, .second, vI p2, vI p3, vI v1, vI v2, vI v3, vI v4, vI (0 : Int32), vI (0 : Int32), vI (0 : Int32), vI v1, vI v5, vI j82_l15_10, vI j82_l16_11, vI v15, vI j119_l18_20, vI j119_l19_21, vI v25, vI (3 : Int32), vR b28, vR b224, .unset, .unset] [(.int (-1 : Int32)), (.int (2 : Int32)), (.ref b224)])) rfl rfl (hb hby at_238)
    have pre237 : Go p.tables e below S0 T237 (mkF m 239 #[vJ q0, .second, vJ q1, .second, vI p2, vI p3, vI v1, vI v2, vI v3, vI v4, vI (0 : Int32), vI (0 : Int32), vI (0 : Int32), vI v1, vI v5, vI j82_l15_10, vI j82_l16_11, vI v15, vI j119_l18_20, vI j119_l19_21, vI v25, vI (3 : Int32), vR b28, vR b224, .unset, .unset] []) := fun t k => pre236 t (st237 t k)
    obtain ⟨lo237, N237, X237⟩ : ∃ lo, Fr n0 lo ∧ Stand p l e room_1 s m #[(.long q0), (.long q1), (.int p2), (.int p3)] below meth c T237 lo 2 7 := ⟨_, Fr.snoc X237 N233 bo224, X237⟩
    have av237 : Arv Z h237 b224 kA224 .int (3 : Int32) [(.int (-1 : Int32)), (.int (-1 : Int32)), (.int (-1 : Int32))] (.int (0 : Int32)) := Arv.set Ar237 q237 S237 M237 H237 G237 rfl W237 2 rfl (Nat.le_of_ble_eq_true rfl)
    have f238_1 := f234_1.other W237 ne225
    have zz239 : n0 ≤ h237.size := Nat.le_trans zz235 (Keep.of_wr W237).1
    have pre240 : Go p.tables e below S0 T237 (mkF m 250 #[vJ q0, .second, vJ q1, .second, vI p2, vI p3, vI v1, vI v2, vI v3, vI v4, vI (0 : Int32), vI (0 : Int32), vI (0 : Int32), vI v1, vI v5, vI j82_l15_10, vI j82_l16_11, vI v15, vI j119_l18_20, vI j119_l19_21, vI v25, vI (3 : Int32), vR b28, vR b224, .unset, .unset] []) := fun t k => pre237 t (by
      refine XS.iload X237.here hx rfl (hb hby at_239) rfl ?_
      refine XS.iconst X237.here hx rfl (hb hby at_241) ?_
      refine XS.icmpYes X237.here hx rfl (pc0 := 242) (pc' := 250) rfl (hb hby at_242) rfl (flt (by decide : ¬ ((3 : Int32) < (3 : Int32)))).2.2.2 (by decide) (by decide) ?_
      show Steps p.tables e below (T237.setTop (mkF m 250 #[vJ q0, .second, vJ q1, .second, vI p2, vI p3, vI v1, vI v2, vI v3, vI v4, vI (0 : Int32), vI (0 : Int32), vI (0 : Int32), vI v1, vI v5, vI j82_l15_10, vI j82_l16_11, vI v15, vI j119_l18_20, vI j119_l19_21, vI v25, vI (3 : Int32), vR b28, vR b224, .unset, .unset] [])) _
      exact k)
    obtain ⟨T241, h241, X241, e241, E241, A241, D241, -, st241⟩ := newO X237 hx hZ hown (hw _ (List.mem_of_getElem? (i := 5) rfl)) (hw _ (List.mem_of_getElem? (i := 6) rfl)) (hw _ (List.mem_of_getElem? (i := 7) rfl)) e237 (g := (mkF m 250 #[vJ q0, .second, vJ q1, .second, vI p2, vI p3, vI v1, vI v2, vI v3, vI v4, vI (0 : Int32), vI (0 : Int32), vI (0 : Int32), vI v1, vI v5, vI j82_l15_10, vI j82_l16_11, vI v15, vI j119_l18_20, vI j119_l19_21, vI v25, vI (3 : Int32), vR b28, vR b224, .unset, .unset] [])) rfl (hb hby at_250) (by decide) (by decide)
    obtain ⟨b241, g241⟩ : ∃ z, z = h237.size := ⟨_, rfl⟩
    rw [← g241] at A241 D241 st241
    have pre241 : Go p.tables e below S0 T241 (mkF m 253 #[vJ q0, .second, vJ q1, .second, vI p2, vI p3, vI v1, vI v2, vI v3, vI v4, vI (0 : Int32), vI (0 : Int32), vI (0 : Int32), vI v1, vI v5, vI j82_l15_10, vI j82_l16_11, vI v15, vI j119_l18_20, vI j119_l19_21, vI v25, vI (3 : Int32), vR b28, vR b224, .unset, .unset] [(.ref b241)]) := fun t k => pre240 t (st241 t k)
    have ne242 : b28 ≠ b241 := Nat.ne_of_lt (Nat.lt_of_lt_of_le f238_1.lt (Nat.le_of_eq g241.symm))
    have ne243 : b224 ≠ b241 := Nat.ne_of_lt (Nat.lt_of_lt_of_le av237.lt (Nat.le_of_eq g241.symm))
    have bo241 : n0 ≤ b241 := Nat.le_trans zz239 (Nat.le_of_eq g241.symm)
    have f244_1 := f238_1.ext E241
    have f244_2 := av237.ext E241
    have zz245 : n0 ≤ h241.size := Nat.le_trans zz239 E241.1
    have fn241_word : Fld Z h241 b241 "com/example/garantia/garantia/engine/StateLayout" "word" "[I" .null := D241 (Or.inr (hw _ (List.mem_of_getElem? (i := 15) rfl))) (ty := (.array .int)) (by decide)
    have fn241_shift : Fld Z h241 b241 "com/example/garantia/garantia/engine/StateLayout" "shift" "[I" .null := D241 (Or.inr (hw _ (List.mem_of_getElem? (i := 17) rfl))) (ty := (.array .int)) (by decide)
    have fn241_mask : Fld Z h241 b241 "com/example/garantia/garantia/engine/StateLayout" "mask" "[J" .null := D241 (Or.inr (hw _ (List.mem_of_getElem? (i := 19) rfl))) (ty := (.array .long)) (by decide)
    have fn241_others : Fld Z h241 b241 "com/example/garantia/garantia/engine/StateLayout" "others" "[J" .null := D241 (Or.inr (hw _ (List.mem_of_getElem? (i := 21) rfl))) (ty := (.array .long)) (by decide)
    have fn241_words : Fld Z h241 b241 "com/example/garantia/garantia/engine/StateLayout" "words" "I" (.int (0 : Int32)) := D241 (Or.inr (hw _ (List.mem_of_getElem? (i := 24) rfl))) (ty := .int) (by decide)
    have fn241_narrow : Fld Z h241 b241 "com/example/garantia/garantia/engine/StateLayout" "narrow" "Z" (.int (0 : Int32)) := D241 (Or.inr (hw _ (List.mem_of_getElem? (i := 26) rfl))) (ty := .boolean) (by decide)
    have pre246 : Go p.tables e below S0 T241 (mkF m 255 #[vJ q0, .second, vJ q1, .second, vI p2, vI p3, vI v1, vI v2, vI v3, vI v4, vI (0 : Int32), vI (0 : Int32), vI (0 : Int32), vI v1, vI v5, vI j82_l15_10, vI j82_l16_11, vI v15, vI j119_l18_20, vI j119_l19_21, vI v25, vI (3 : Int32), vR b28, vR b224, .unset, .unset] [(.int (4 : Int32)), (.ref b241), (.ref b241)]) := fun t k => pre241 t (by
      refine XS.dup X241.here hx rfl (hb hby at_253) rfl rfl ?_
      refine XS.iconst X241.here hx rfl (hb hby at_254) ?_
      exact k)
    obtain ⟨T247, h247, kA247, X247, e247, E247, A247, st247⟩ := newP X241 hx hZ (hw _ (List.mem_of_getElem? (i := 4) rfl)) e241 (g := (mkF m 255 #[vJ q0, .second, vJ q1, .second, vI p2, vI p3, vI v1, vI v2, vI v3, vI v4, vI (0 : Int32), vI (0 : Int32), vI (0 : Int32), vI v1, vI v5, vI j82_l15_10, vI j82_l16_11, vI v15, vI j119_l18_20, vI j119_l19_21, vI v25, vI (3 : Int32), vR b28, vR b224, .unset, .unset] [(.int (4 : Int32)), (.ref b241), (.ref b241)])) rfl (hb hby at_255) rfl (by decide) (cap := 4) (by decide) (by decide) (by decide) (by decide)
    obtain ⟨b247, g247⟩ : ∃ z, z = h241.size := ⟨_, rfl⟩
    rw [← g247] at A247 st247
    have pre247 : Go p.tables e below S0 T247 (mkF m 257 #[vJ q0, .second, vJ q1, .second, vI p2, vI p3, vI v1, vI v2, vI v3, vI v4, vI (0 : Int32), vI (0 : Int32), vI (0 : Int32), vI v1, vI v5, vI j82_l15_10, vI j82_l16_11, vI v15, vI j119_l18_20, vI j119_l19_21, vI v25, vI (3 : Int32), vR b28, vR b224, .unset, .unset] [(.ref b247), (.ref b241), (.ref b241)]) := fun t k => pre246 t (st247 t k)
    have ne248 : b28 ≠ b247 := Nat.ne_of_lt (Nat.lt_of_lt_of_le f244_1.lt (Nat.le_of_eq g247.symm))
    have ne249 : b224 ≠ b247 := Nat.ne_of_lt (Nat.lt_of_lt_of_le f244_2.lt (Nat.le_of_eq g247.symm))
    have ne250 : b241 ≠ b247 := Nat.ne_of_lt (Nat.lt_of_lt_of_le A241.lt (Nat.le_of_eq g247.symm))
    have bo247 : n0 ≤ b247 := Nat.le_trans zz245 (Nat.le_of_eq g247.symm)
    have f251_1 := f244_1.ext E247
    have f251_2 := f244_2.ext E247
    have f251_3 := Exa.ext E247 A241
    have f251_4 := Fld.ext E247 fn241_word
    have f251_5 := Fld.ext E247 fn241_shift
    have f251_6 := Fld.ext E247 fn241_mask
    have f251_7 := Fld.ext E247 fn241_others
    have f251_8 := Fld.ext E247 fn241_words
    have f251_9 := Fld.ext E247 fn241_narrow
    have zz252 : n0 ≤ h247.size := Nat.le_trans zz245 E247.1
    have av247 : Arv Z h247 b247 kA247 .int (4 : Int32) [(.int (0 : Int32)), (.int (0 : Int32)), (.int (0 : Int32)), (.int (0 : Int32))] (.int (0 : Int32)) := (Arv.new A247 (by decide)).pad (pad_rep [] (.int (0 : Int32)) 4)
    have pre253 : Go p.tables e below S0 T247 (mkF m 261 #[vJ q0, .second, vJ q1, .second, vI p2, vI p3, vI v1, vI v2, vI v3, vI v4, vI (0 : Int32), vI (0 : Int32), vI (0 : Int32), vI v1, vI v5, vI j82_l15_10, vI j82_l16_11, vI v15, vI j119_l18_20, vI j119_l19_21, vI v25, vI (3 : Int32), vR b28, vR b224, .unset, .unset] [(.int v1), (.int (0 : Int32)), (.ref b247), (.ref b247), (.ref b241), (.ref b241)]) := fun t k => pre247 t (by
      refine XS.dup X247.here hx rfl (hb hby at_257) rfl rfl ?_
      refine XS.iconst X247.here hx rfl (hb hby at_258) ?_
      refine XS.iload X247.here hx rfl (hb hby at_259) rfl ?_
      show Steps p.tables e below (T247.setTop (mkF m 261 #[vJ q0, .second, vJ q1, .second, vI p2, vI p3, vI v1, vI v2, vI v3, vI v4, vI (0 : Int32), vI (0 : Int32), vI (0 : Int32), vI v1, vI v5, vI j82_l15_10, vI j82_l16_11, vI v15, vI j119_l18_20, vI j119_l19_21, vI v25, vI (3 : Int32), vR b28, vR b224, .unset, .unset] [(.int v1), (.int (0 : Int32)), (.ref b247), (.ref b247), (.ref b241), (.ref b241)])) _
      exact k)
    obtain ⟨cl254, Ar254, q254, S254, M254, H254, G254⟩ := id av247
    have in254 : ¬ ((0 : Int32) < 0 ∨ cl254.slots.size ≤ ((0 : Int32)).toNatClampNeg) := inb_of S254 ⟨by decide, by decide⟩
    obtain ⟨T254, h254, X254, e254, W254, st254⟩ := stI X247 hx hZ e247 Ar254 (j := (0 : Int32)) in254 (g := (mkF m 261 #[vJ q0, .second, vJ q1, .second, vI p2, vI p3, vI v1, vI v2, vI v3, vI v4, vI (0 : Int32), vI (0 : Int32), vI (0 : Int32), vI v1, vI v5, vI j82_l15_10, vI j82_l16_11, vI v15, vI j119_l18_20, vI j119_l19_21, vI v25, vI (3 : Int32), vR b28, vR b224, .unset, .unset] [(.int v1), (.int (0 : Int32)), (.ref b247), (.ref b247), (.ref b241), (.ref b241)])) rfl rfl (hb hby at_261)
    have pre254 : Go p.tables e below S0 T254 (mkF m 262 #[vJ q0, .second, vJ q1, .second, vI p2, vI p3, vI v1, vI v2, vI v3, vI v4, vI (0 : Int32), vI (0 : Int32), vI (0 : Int32), vI v1, vI v5, vI j82_l15_10, vI j82_l16_11, vI v15, vI j119_l18_20, vI j119_l19_21, vI v25, vI (3 : Int32), vR b28, vR b224, .unset, .unset] [(.ref b247), (.ref b241), (.ref b241)]) := fun t k => pre253 t (st254 t k)
    obtain ⟨lo254, N254, X254⟩ : ∃ lo, Fr n0 lo ∧ Stand p l e room_1 s m #[(.long q0), (.long q1), (.int p2), (.int p3)] below meth c T254 lo 4 17 := ⟨_, Fr.snoc X254 N237 bo247, X254⟩
    have av254 : Arv Z h254 b247 kA247 .int (4 : Int32) [(.int v1), (.int (0 : Int32)), (.int (0 : Int32)), (.int (0 : Int32))] (.int (0 : Int32)) := Arv.set Ar254 q254 S254 M254 H254 G254 rfl W254 0 rfl (Nat.le_of_ble_eq_true rfl)
    have f255_1 := f251_1.other W254 ne248
    have f255_2 := f251_2.other W254 ne249
    have f255_3 := Exa.wr W254 f251_3
    have f255_4 := Fld.other W254 f251_4 (Or.inl ne250)
    have f255_5 := Fld.other W254 f251_5 (Or.inl ne250)
    have f255_6 := Fld.other W254 f251_6 (Or.inl ne250)
    have f255_7 := Fld.other W254 f251_7 (Or.inl ne250)
    have f255_8 := Fld.other W254 f251_8 (Or.inl ne250)
    have f255_9 := Fld.other W254 f251_9 (Or.inl ne250)
    have zz256 : n0 ≤ h254.size := Nat.le_trans zz252 (Keep.of_wr W254).1
    have pre257 : Go p.tables e below S0 T254 (mkF m 266 #[vJ q0, .second, vJ q1, .second, vI p2, vI p3, vI v1, vI v2, vI v3, vI v4, vI (0 : Int32), vI (0 : Int32), vI (0 : Int32), vI v1, vI v5, vI j82_l15_10, vI j82_l16_11, vI v15, vI j119_l18_20, vI j119_l19_21, vI v25, vI (3 : Int32), vR b28, vR b224, .unset, .unset] [(.int v2), (.int (1 : Int32)), (.ref b247), (.ref b247), (.ref b241), (.ref b241)]) := fun t k => pre254 t (by
      refine XS.dup X254.here hx rfl (hb hby at_262) rfl rfl ?_
      refine XS.iconst X254.here hx rfl (hb hby at_263) ?_
      refine XS.iload X254.here hx rfl (hb hby at_264) rfl ?_
      show Steps p.tables e below (T254.setTop (mkF m 266 #[vJ q0, .second, vJ q1, .second, vI p2, vI p3, vI v1, vI v2, vI v3, vI v4, vI (0 : Int32), vI (0 : Int32), vI (0 : Int32), vI v1, vI v5, vI j82_l15_10, vI j82_l16_11, vI v15, vI j119_l18_20, vI j119_l19_21, vI v25, vI (3 : Int32), vR b28, vR b224, .unset, .unset] [(.int v2), (.int (1 : Int32)), (.ref b247), (.ref b247), (.ref b241), (.ref b241)])) _
      exact k)
    obtain ⟨cl258, Ar258, q258, S258, M258, H258, G258⟩ := id av254
    have in258 : ¬ ((1 : Int32) < 0 ∨ cl258.slots.size ≤ ((1 : Int32)).toNatClampNeg) := inb_of S258 ⟨by decide, by decide⟩
    obtain ⟨T258, h258, X258, e258, W258, st258⟩ := stI X254 hx hZ e254 Ar258 (j := (1 : Int32)) in258 (g := (mkF m 266 #[vJ q0, .second, vJ q1, .second, vI p2, vI p3, vI v1, vI v2, vI v3, vI v4, vI (0 : Int32), vI (0 : Int32), vI (0 : Int32), vI v1, vI v5, vI j82_l15_10, vI j82_l16_11, vI v15, vI j119_l18_20, vI j119_l19_21, vI v25, vI (3 : Int32), vR b28, vR b224, .unset, .unset] [(.int v2), (.int (1 : Int32)), (.ref b247), (.ref b247), (.ref b241), (.ref b241)])) rfl rfl (hb hby at_266)
    have pre258 : Go p.tables e below S0 T258 (mkF m 267 #[vJ q0, .second, vJ q1, .second, vI p2, vI p3, vI v1, vI v2, vI v3, vI v4, vI (0 : Int32), vI (0 : Int32), vI (0 : Int32), vI v1, vI v5, vI j82_l15_10, vI j82_l16_11, vI v15, vI j119_l18_20, vI j119_l19_21, vI v25, vI (3 : Int32), vR b28, vR b224, .unset, .unset] [(.ref b247), (.ref b241), (.ref b241)]) := fun t k => pre257 t (st258 t k)
    obtain ⟨lo258, N258, X258⟩ : ∃ lo, Fr n0 lo ∧ Stand p l e room_1 s m #[(.long q0), (.long q1), (.int p2), (.int p3)] below meth c T258 lo 4 17 := ⟨_, Fr.snoc X258 N254 bo247, X258⟩
    have av258 : Arv Z h258 b247 kA247 .int (4 : Int32) [(.int v1), (.int v2), (.int (0 : Int32)), (.int (0 : Int32))] (.int (0 : Int32)) := Arv.set Ar258 q258 S258 M258 H258 G258 rfl W258 1 rfl (Nat.le_of_ble_eq_true rfl)
    have f259_1 := f255_1.other W258 ne248
    have f259_2 := f255_2.other W258 ne249
    have f259_3 := Exa.wr W258 f255_3
    have f259_4 := Fld.other W258 f255_4 (Or.inl ne250)
    have f259_5 := Fld.other W258 f255_5 (Or.inl ne250)
    have f259_6 := Fld.other W258 f255_6 (Or.inl ne250)
    have f259_7 := Fld.other W258 f255_7 (Or.inl ne250)
    have f259_8 := Fld.other W258 f255_8 (Or.inl ne250)
    have f259_9 := Fld.other W258 f255_9 (Or.inl ne250)
    have zz260 : n0 ≤ h258.size := Nat.le_trans zz256 (Keep.of_wr W258).1
    have pre261 : Go p.tables e below S0 T258 (mkF m 271 #[vJ q0, .second, vJ q1, .second, vI p2, vI p3, vI v1, vI v2, vI v3, vI v4, vI (0 : Int32), vI (0 : Int32), vI (0 : Int32), vI v1, vI v5, vI j82_l15_10, vI j82_l16_11, vI v15, vI j119_l18_20, vI j119_l19_21, vI v25, vI (3 : Int32), vR b28, vR b224, .unset, .unset] [(.int v3), (.int (2 : Int32)), (.ref b247), (.ref b247), (.ref b241), (.ref b241)]) := fun t k => pre258 t (by
      refine XS.dup X258.here hx rfl (hb hby at_267) rfl rfl ?_
      refine XS.iconst X258.here hx rfl (hb hby at_268) ?_
      refine XS.iload X258.here hx rfl (hb hby at_269) rfl ?_
      show Steps p.tables e below (T258.setTop (mkF m 271 #[vJ q0, .second, vJ q1, .second, vI p2, vI p3, vI v1, vI v2, vI v3, vI v4, vI (0 : Int32), vI (0 : Int32), vI (0 : Int32), vI v1, vI v5, vI j82_l15_10, vI j82_l16_11, vI v15, vI j119_l18_20, vI j119_l19_21, vI v25, vI (3 : Int32), vR b28, vR b224, .unset, .unset] [(.int v3), (.int (2 : Int32)), (.ref b247), (.ref b247), (.ref b241), (.ref b241)])) _
      exact k)
    obtain ⟨cl262, Ar262, q262, S262, M262, H262, G262⟩ := id av258
    have in262 : ¬ ((2 : Int32) < 0 ∨ cl262.slots.size ≤ ((2 : Int32)).toNatClampNeg) := inb_of S262 ⟨by decide, by decide⟩
    obtain ⟨T262, h262, X262, e262, W262, st262⟩ := stI X258 hx hZ e258 Ar262 (j := (2 : Int32)) in262 (g := (mkF m 271 #[vJ q0, .second, vJ q1, .second, vI p2, vI p3, vI v1, vI v2, vI v3, vI v4, vI (0 : Int32), vI (0 : Int32), vI (0 : Int32), vI v1, vI v5, vI j82_l15_10, vI j82_l16_11, vI v15, vI j119_l18_20, vI j119_l19_21, vI v25, vI (3 : Int32), vR b28, vR b224, .unset, .unset] [(.int v3), (.int (2 : Int32)), (.ref b247), (.ref b247), (.ref b241), (.ref b241)])) rfl rfl (hb hby at_271)
    have pre262 : Go p.tables e below S0 T262 (mkF m 272 #[vJ q0, .second, vJ q1, .second, vI p2, vI p3, vI v1, vI v2, vI v3, vI v4, vI (0 : Int32), vI (0 : Int32), vI (0 : Int32), vI v1, vI v5, vI j82_l15_10, vI j82_l16_11, vI v15, vI j119_l18_20, vI j119_l19_21, vI v25, vI (3 : Int32), vR b28, vR b224, .unset, .unset] [(.ref b247), (.ref b241), (.ref b241)]) := fun t k => pre261 t (st262 t k)
    obtain ⟨lo262, N262, X262⟩ : ∃ lo, Fr n0 lo ∧ Stand p l e room_1 s m #[(.long q0), (.long q1), (.int p2), (.int p3)] below meth c T262 lo 4 17 := ⟨_, Fr.snoc X262 N258 bo247, X262⟩
    have av262 : Arv Z h262 b247 kA247 .int (4 : Int32) [(.int v1), (.int v2), (.int v3), (.int (0 : Int32))] (.int (0 : Int32)) := Arv.set Ar262 q262 S262 M262 H262 G262 rfl W262 2 rfl (Nat.le_of_ble_eq_true rfl)
    have f263_1 := f259_1.other W262 ne248
    have f263_2 := f259_2.other W262 ne249
    have f263_3 := Exa.wr W262 f259_3
    have f263_4 := Fld.other W262 f259_4 (Or.inl ne250)
    have f263_5 := Fld.other W262 f259_5 (Or.inl ne250)
    have f263_6 := Fld.other W262 f259_6 (Or.inl ne250)
    have f263_7 := Fld.other W262 f259_7 (Or.inl ne250)
    have f263_8 := Fld.other W262 f259_8 (Or.inl ne250)
    have f263_9 := Fld.other W262 f259_9 (Or.inl ne250)
    have zz264 : n0 ≤ h262.size := Nat.le_trans zz260 (Keep.of_wr W262).1
    have pre265 : Go p.tables e below S0 T262 (mkF m 276 #[vJ q0, .second, vJ q1, .second, vI p2, vI p3, vI v1, vI v2, vI v3, vI v4, vI (0 : Int32), vI (0 : Int32), vI (0 : Int32), vI v1, vI v5, vI j82_l15_10, vI j82_l16_11, vI v15, vI j119_l18_20, vI j119_l19_21, vI v25, vI (3 : Int32), vR b28, vR b224, .unset, .unset] [(.int v4), (.int (3 : Int32)), (.ref b247), (.ref b247), (.ref b241), (.ref b241)]) := fun t k => pre262 t (by
      refine XS.dup X262.here hx rfl (hb hby at_272) rfl rfl ?_
      refine XS.iconst X262.here hx rfl (hb hby at_273) ?_
      refine XS.iload X262.here hx rfl (hb hby at_274) rfl ?_
      show Steps p.tables e below (T262.setTop (mkF m 276 #[vJ q0, .second, vJ q1, .second, vI p2, vI p3, vI v1, vI v2, vI v3, vI v4, vI (0 : Int32), vI (0 : Int32), vI (0 : Int32), vI v1, vI v5, vI j82_l15_10, vI j82_l16_11, vI v15, vI j119_l18_20, vI j119_l19_21, vI v25, vI (3 : Int32), vR b28, vR b224, .unset, .unset] [(.int v4), (.int (3 : Int32)), (.ref b247), (.ref b247), (.ref b241), (.ref b241)])) _
      exact k)
    obtain ⟨cl266, Ar266, q266, S266, M266, H266, G266⟩ := id av262
    have in266 : ¬ ((3 : Int32) < 0 ∨ cl266.slots.size ≤ ((3 : Int32)).toNatClampNeg) := inb_of S266 ⟨by decide, by decide⟩
    obtain ⟨T266, h266, X266, e266, W266, st266⟩ := stI X262 hx hZ e262 Ar266 (j := (3 : Int32)) in266 (g := (mkF m 276 #[vJ q0, .second, vJ q1, .second, vI p2, vI p3, vI v1, vI v2, vI v3, vI v4, vI (0 : Int32), vI (0 : Int32), vI (0 : Int32), vI v1, vI v5, vI j82_l15_10, vI j82_l16_11, vI v15, vI j119_l18_20, vI j119_l19_21, vI v25, vI (3 : Int32), vR b28, vR b224, .unset, .unset] [(.int v4), (.int (3 : Int32)), (.ref b247), (.ref b247), (.ref b241), (.ref b241)])) rfl rfl (hb hby at_276)
    have pre266 : Go p.tables e below S0 T266 (mkF m 277 #[vJ q0, .second, vJ q1, .second, vI p2, vI p3, vI v1, vI v2, vI v3, vI v4, vI (0 : Int32), vI (0 : Int32), vI (0 : Int32), vI v1, vI v5, vI j82_l15_10, vI j82_l16_11, vI v15, vI j119_l18_20, vI j119_l19_21, vI v25, vI (3 : Int32), vR b28, vR b224, .unset, .unset] [(.ref b247), (.ref b241), (.ref b241)]) := fun t k => pre265 t (st266 t k)
    obtain ⟨lo266, N266, X266⟩ : ∃ lo, Fr n0 lo ∧ Stand p l e room_1 s m #[(.long q0), (.long q1), (.int p2), (.int p3)] below meth c T266 lo 4 17 := ⟨_, Fr.snoc X266 N262 bo247, X266⟩
    have av266 : Arv Z h266 b247 kA247 .int (4 : Int32) [(.int v1), (.int v2), (.int v3), (.int v4)] (.int (0 : Int32)) := Arv.set Ar266 q266 S266 M266 H266 G266 rfl W266 3 rfl (Nat.le_of_ble_eq_true rfl)
    have f267_1 := f263_1.other W266 ne248
    have f267_2 := f263_2.other W266 ne249
    have f267_3 := Exa.wr W266 f263_3
    have f267_4 := Fld.other W266 f263_4 (Or.inl ne250)
    have f267_5 := Fld.other W266 f263_5 (Or.inl ne250)
    have f267_6 := Fld.other W266 f263_6 (Or.inl ne250)
    have f267_7 := Fld.other W266 f263_7 (Or.inl ne250)
    have f267_8 := Fld.other W266 f263_8 (Or.inl ne250)
    have f267_9 := Fld.other W266 f263_9 (Or.inl ne250)
    have zz268 : n0 ≤ h266.size := Nat.le_trans zz264 (Keep.of_wr W266).1
    obtain ⟨_, _, ⟨T269, qL269, qk269, qn269⟩, -, X269, ⟨Lc269, hQ269, ql269, qy269, qz269⟩, st269⟩ := X266.specialBack hx (y := (⟨"com/example/garantia/garantia/engine/StateLayout", "<init>", "([I)V"⟩ : MethodName)) rfl hown (mvT hZ (hw _ (List.mem_of_getElem? (i := 8) rfl))) (mvT hZ (hw _ (List.mem_of_getElem? (i := 9) rfl))) (mvT hZ (hw _ (List.mem_of_getElem? (i := 10) rfl))) (by decide) (backOf (W := 1) (rm1 l Z A0 hw [] b241 b247 kA247 v1 v2 v3 v4 h266 n0 zz268 f267_3 f267_4 f267_5 f267_6 f267_7 f267_8 f267_9 av266 (Ne.symm ne250) bo241 hw0 hw1 hw2 hw3) hZ (hw _ (List.mem_of_getElem? (i := 10) rfl)) (hw _ (List.mem_of_getElem? (i := 7) rfl)) (by decide) (by decide)) (g := (mkF m 277 #[vJ q0, .second, vJ q1, .second, vI p2, vI p3, vI v1, vI v2, vI v3, vI v4, vI (0 : Int32), vI (0 : Int32), vI (0 : Int32), vI v1, vI v5, vI j82_l15_10, vI j82_l16_11, vI v15, vI j119_l18_20, vI j119_l19_21, vI v25, vI (3 : Int32), vR b28, vR b224, .unset, .unset] [(.ref b247), (.ref b241), (.ref b241)])) rfl (by rw [hml]; rfl) (Steps.refl _) (a := b241) (argsL := [(.ref b247)]) (rest := [(.ref b241)]) (lenOf pd_0 rfl) rfl (by show 2 * 0 + _ ≤ _; exact Nat.le_of_eq rfl) (hb hby at_277) (fun _ _ => ⟨rfl, e266, (by decide : 4 + 4 ≤ _), (by decide : 17 + 16 ≤ _)⟩)
    dsimp only [Pt.U, Pt.locs, Pt.cells, Pt.slots] at X269 ql269 qy269 qz269 st269 hQ269
    replace X269 := X269.more (Nat.le_of_eq qy269) (Nat.le_of_eq qz269)
    obtain ⟨rfl, Nq269, aw_269, as_269, am_269, ao_269, kw_269, ks_269, km_269, ko_269, c2_269, u2_269, c3_269, u3_269, hq269, ho269, hn269, Kq269, nf269_0, nf269_1, nf269_2, nf269_3, nf269_4, nf269_5, nf269_6, nf269_7, nf269_8, nf269_9⟩ := hQ269
    have N269 : Fr n0 qL269 := by rw [ql269]; exact Fr.app N266 Nq269
    have pre269 : Go p.tables e below S0 T269 (mkF m 280 #[vJ q0, .second, vJ q1, .second, vI p2, vI p3, vI v1, vI v2, vI v3, vI v4, vI (0 : Int32), vI (0 : Int32), vI (0 : Int32), vI v1, vI v5, vI j82_l15_10, vI j82_l16_11, vI v15, vI j119_l18_20, vI j119_l19_21, vI v25, vI (3 : Int32), vR b28, vR b224, .unset, .unset] [(.ref b241)]) := fun t k => pre266 t (st269.trans k)
    have f270_1 := f267_1.keep Kq269 (ninS ne242 nin0)
    have f270_2 := f267_2.keep Kq269 (ninS ne243 nin0)
    have f270_3 := av266.keep Kq269 (ninS (Ne.symm ne250) nin0)
    have zz271 : n0 ≤ T269.heap.size := Nat.le_trans zz268 Kq269.1
    have bo269_0 : n0 ≤ aw_269 := Nat.le_trans zz268 ho269.1
    have nn269_0_0 : b28 ≠ aw_269 := Nat.ne_of_lt (Nat.lt_of_lt_of_le f267_1.lt ho269.1)
    have nn269_0_1 : b224 ≠ aw_269 := Nat.ne_of_lt (Nat.lt_of_lt_of_le f267_2.lt ho269.1)
    have nn269_0_2 : b241 ≠ aw_269 := Nat.ne_of_lt (Nat.lt_of_lt_of_le f267_9.lt ho269.1)
    have nn269_0_3 : b247 ≠ aw_269 := Nat.ne_of_lt (Nat.lt_of_lt_of_le av266.lt ho269.1)
    have bo269_1 : n0 ≤ as_269 := Nat.le_trans zz268 ho269.2.1
    have nn269_1_0 : b28 ≠ as_269 := Nat.ne_of_lt (Nat.lt_of_lt_of_le f267_1.lt ho269.2.1)
    have nn269_1_1 : b224 ≠ as_269 := Nat.ne_of_lt (Nat.lt_of_lt_of_le f267_2.lt ho269.2.1)
    have nn269_1_2 : b241 ≠ as_269 := Nat.ne_of_lt (Nat.lt_of_lt_of_le f267_9.lt ho269.2.1)
    have nn269_1_3 : b247 ≠ as_269 := Nat.ne_of_lt (Nat.lt_of_lt_of_le av266.lt ho269.2.1)
    have bo269_2 : n0 ≤ am_269 := Nat.le_trans zz268 ho269.2.2.1
    have nn269_2_0 : b28 ≠ am_269 := Nat.ne_of_lt (Nat.lt_of_lt_of_le f267_1.lt ho269.2.2.1)
    have nn269_2_1 : b224 ≠ am_269 := Nat.ne_of_lt (Nat.lt_of_lt_of_le f267_2.lt ho269.2.2.1)
    have nn269_2_2 : b241 ≠ am_269 := Nat.ne_of_lt (Nat.lt_of_lt_of_le f267_9.lt ho269.2.2.1)
    have nn269_2_3 : b247 ≠ am_269 := Nat.ne_of_lt (Nat.lt_of_lt_of_le av266.lt ho269.2.2.1)
    have bo269_3 : n0 ≤ ao_269 := Nat.le_trans zz268 ho269.2.2.2
    have nn269_3_0 : b28 ≠ ao_269 := Nat.ne_of_lt (Nat.lt_of_lt_of_le f267_1.lt ho269.2.2.2)
    have nn269_3_1 : b224 ≠ ao_269 := Nat.ne_of_lt (Nat.lt_of_lt_of_le f267_2.lt ho269.2.2.2)
    have nn269_3_2 : b241 ≠ ao_269 := Nat.ne_of_lt (Nat.lt_of_lt_of_le f267_9.lt ho269.2.2.2)
    have nn269_3_3 : b247 ≠ ao_269 := Nat.ne_of_lt (Nat.lt_of_lt_of_le av266.lt ho269.2.2.2)
    have pre272 : Go p.tables e below S0 T269 (mkF m 282 #[vJ q0, .second, vJ q1, .second, vI p2, vI p3, vI v1, vI v2, vI v3, vI v4, vI (0 : Int32), vI (0 : Int32), vI (0 : Int32), vI v1, vI v5, vI j82_l15_10, vI j82_l16_11, vI v15, vI j119_l18_20, vI j119_l19_21, vI v25, vI (3 : Int32), vR b28, vR b224, vR b241, .unset] []) := fun t k => pre269 t (by
      refine XS.astore X269.here hx rfl (hb hby at_280) rfl rfl (l' := #[vJ q0, .second, vJ q1, .second, vI p2, vI p3, vI v1, vI v2, vI v3, vI v4, vI (0 : Int32), vI (0 : Int32), vI (0 : Int32), vI v1, vI v5, vI j82_l15_10, vI j82_l16_11, vI v15, vI j119_l18_20, vI j119_l19_21, vI v25, vI (3 : Int32), vR b28, vR b224, vR b241, .unset]) rfl ?_
      exact k)
    obtain rfl : j82_l15_10 = c2_269 := by rw [hj82_12.1, (hq269.1).1, hv5, Int32.zero_add]
    obtain rfl : j82_l16_11 = u2_269 := by rw [hj82_12.2, (hq269.1).2, hv5, Int32.zero_add]
    obtain rfl : j119_l18_20 = c3_269 := by rw [hj119_22.1, (hq269.2).1, hv15]
    obtain rfl : j119_l19_21 = u3_269 := by rw [hj119_22.2, (hq269.2).2, hv15]
    have hp := own_pat4 hw0 hw1 hw2 hw3 (hq269.1) (hq269.2)
    have hc2 : j82_l15_10 = (0 : Int32) ∨ j82_l15_10 = (1 : Int32) := by rcases hp with q | q | q <;> first | exact Or.inl q.1 | exact Or.inr q.1
    have hc3 : j119_l18_20 = (0 : Int32) ∨ j119_l18_20 = (1 : Int32) := by rcases hp with q | q | q <;> first | exact Or.inl q.2.1 | exact Or.inr q.2.1
    have pre273 : Go p.tables e below S0 T269 (mkF m 290 #[vJ q0, .second, vJ q1, .second, vI p2, vI p3, vI v1, vI v2, vI v3, vI v4, vI (0 : Int32), vI (0 : Int32), vI (0 : Int32), vI v1, vI v5, vI j82_l15_10, vI j82_l16_11, vI v15, vI j119_l18_20, vI j119_l19_21, vI v25, vI (3 : Int32), vR b28, vR b224, vR b241, .unset] [(.ref b224), (.int v25), (.ref b28), (.ref b241)]) := fun t k => pre272 t (by
      refine XS.aload X269.here hx rfl (hb hby at_282) rfl rfl ?_
      refine XS.aload X269.here hx rfl (hb hby at_284) rfl rfl ?_
      refine XS.iload X269.here hx rfl (hb hby at_286) rfl ?_
      show Steps p.tables e below (T269.setTop (mkF m 288 #[vJ q0, .second, vJ q1, .second, vI p2, vI p3, vI v1, vI v2, vI v3, vI v4, vI (0 : Int32), vI (0 : Int32), vI (0 : Int32), vI v1, vI v5, vI j82_l15_10, vI j82_l16_11, vI v15, vI j119_l18_20, vI j119_l19_21, vI v25, vI (3 : Int32), vR b28, vR b224, vR b241, .unset] [(.int v25), (.ref b28), (.ref b241)])) _
      refine XS.aload X269.here hx rfl (hb hby at_288) rfl rfl ?_
      exact k)
    obtain ⟨cq274, kq274, qa274, qb274, qc274⟩ := isOf hZ rfl nf269_0
    obtain ⟨_, _, ⟨T274, qL274, qk274, qn274⟩, -, X274, ⟨Lc274, hQ274, ql274, qy274, qz274⟩, st274⟩ := X269.virtualBack hx (y := (⟨"com/example/garantia/garantia/engine/StateLayout", "unpack", "([JI[I)V"⟩ : MethodName)) (z := (⟨"com/example/garantia/garantia/engine/StateLayout", "unpack", "([JI[I)V"⟩ : MethodName)) hown (mvT hZ (hw _ (List.mem_of_getElem? (i := 27) rfl))) (mvT hZ (hw _ (List.mem_of_getElem? (i := 28) rfl))) (notFace_of_selects (args := #[]) (mvT hZ (hw _ (List.mem_of_getElem? (i := 30) rfl)))) (mvT hZ (hw _ (List.mem_of_getElem? (i := 30) rfl))) (mvT hZ (hw _ (List.mem_of_getElem? (i := 29) rfl))) (by decide) (backOf (W := 0) (rm3_3 l Z A0 hw [] b241 b28 v25 b224 aw_269 as_269 am_269 kw_269 ks_269 km_269 kA28 kA224 (0 : Int32) (0 : Int32) j82_l15_10 j119_l18_20 (0 : Int32) ((0 : Int32) + v1) j82_l16_11 j119_l19_21 (((1 : Int64) <<< (v1 &&& 0x3f).toInt64) - (1 : Int64)) (((1 : Int64) <<< (v2 &&& 0x3f).toInt64) - (1 : Int64)) (((1 : Int64) <<< (v3 &&& 0x3f).toInt64) - (1 : Int64)) (((1 : Int64) <<< (v4 &&& 0x3f).toInt64) - (1 : Int64)) (own_putL (v25 + (1 : Int32)) (0 : Int32) q1 (own_putL v25 (0 : Int32) q0 (q0 ^^^ (-1 : Int64)))) (own_putL (v25 + (1 : Int32)) (1 : Int32) q1 (own_putL v25 (1 : Int32) q0 (q1 ^^^ (-1 : Int64)))) (own_putL (v25 + (1 : Int32)) (2 : Int32) q1 (own_putL v25 (2 : Int32) q0 ((q0 ^^^ (-1 : Int64)) ^^^ (6148914691236517205 : Int64)))) (own_putL (v25 + (1 : Int32)) (3 : Int32) q1 (own_putL v25 (3 : Int32) q0 ((q1 ^^^ (-1 : Int64)) ^^^ (3689348814741910323 : Int64)))) (-1 : Int32) (-1 : Int32) (-1 : Int32) T269.heap n0 zz271 nf269_1 nf269_2 nf269_3 nf269_6 nf269_7 nf269_8 f270_1 f270_2 (Ne.symm ne243) (Ne.symm nn269_0_1) (Ne.symm nn269_1_1) (Ne.symm nn269_2_1) ne225 bo224 (own_oc hoff (Or.inl rfl)) (own_oc hoff (Or.inl rfl)) (own_oc hoff hc2)) hZ (hw _ (List.mem_of_getElem? (i := 31) rfl)) (hw _ (List.mem_of_getElem? (i := 7) rfl)) (by decide) (by decide)) qa274 qc274 (g := (mkF m 290 #[vJ q0, .second, vJ q1, .second, vI p2, vI p3, vI v1, vI v2, vI v3, vI v4, vI (0 : Int32), vI (0 : Int32), vI (0 : Int32), vI v1, vI v5, vI j82_l15_10, vI j82_l16_11, vI v15, vI j119_l18_20, vI j119_l19_21, vI v25, vI (3 : Int32), vR b28, vR b224, vR b241, .unset] [(.ref b224), (.int v25), (.ref b28), (.ref b241)])) rfl (by rw [hml]; rfl) (Steps.refl _) (argsL := [(.ref b28), (.int v25), (.ref b224)]) (rest := []) (lenOf pd_1 rfl) rfl (by show 2 * 0 + _ ≤ _; exact Nat.le_of_eq rfl) (hb hby at_290) (fun _ _ => ⟨rfl, rfl, (by decide : 8 + 0 ≤ _), (by decide : 33 + 0 ≤ _)⟩)
    dsimp only [Pt.U, Pt.locs, Pt.cells, Pt.slots] at X274 ql274 qy274 qz274 st274 hQ274
    replace X274 := X274.more (Nat.le_of_eq qy274) (Nat.le_of_eq qz274)
    obtain ⟨rfl, Nq274, r274_0, r274_1, r274_2, hR274, Kq274, nf274_0⟩ := hQ274
    have N274 : Fr n0 qL274 := by rw [ql274]; exact Fr.app N269 Nq274
    have pre274 : Go p.tables e below S0 T274 (mkF m 293 #[vJ q0, .second, vJ q1, .second, vI p2, vI p3, vI v1, vI v2, vI v3, vI v4, vI (0 : Int32), vI (0 : Int32), vI (0 : Int32), vI v1, vI v5, vI j82_l15_10, vI j82_l16_11, vI v15, vI j119_l18_20, vI j119_l19_21, vI v25, vI (3 : Int32), vR b28, vR b224, vR b241, .unset] []) := fun t k => pre273 t (st274.trans k)
    have f275_1 := f270_1.keep Kq274 (ninS ne225 nin0)
    have f275_2 := Exa.keep nf269_0 Kq274
    have f275_3 := Fld.keep nf269_1 Kq274 (ninS (Ne.symm ne243) nin0)
    have f275_4 := Fld.keep nf269_2 Kq274 (ninS (Ne.symm ne243) nin0)
    have f275_5 := Fld.keep nf269_3 Kq274 (ninS (Ne.symm ne243) nin0)
    have f275_6 := Fld.keep nf269_4 Kq274 (ninS (Ne.symm ne243) nin0)
    have f275_7 := Fld.keep nf269_5 Kq274 (ninS (Ne.symm ne243) nin0)
    have f275_8 := f270_3.keep Kq274 (ninS (Ne.symm ne249) nin0)
    have f275_9 := nf269_6.keep Kq274 (ninS (Ne.symm nn269_0_1) nin0)
    have f275_10 := nf269_7.keep Kq274 (ninS (Ne.symm nn269_1_1) nin0)
    have f275_11 := nf269_8.keep Kq274 (ninS (Ne.symm nn269_2_1) nin0)
    have f275_12 := nf269_9.keep Kq274 (ninS (Ne.symm nn269_3_1) nin0)
    have zz276 : n0 ≤ T274.heap.size := Nat.le_trans zz271 Kq274.1
    have pre277 : Go p.tables e below S0 T274 (mkF m 295 #[vJ q0, .second, vJ q1, .second, vI p2, vI p3, vI v1, vI v2, vI v3, vI v4, vI (0 : Int32), vI (0 : Int32), vI (0 : Int32), vI v1, vI v5, vI j82_l15_10, vI j82_l16_11, vI v15, vI j119_l18_20, vI j119_l19_21, vI v25, vI (3 : Int32), vR b28, vR b224, vR b241, .unset] [(.ref b224)]) := fun t k => pre274 t (by
      refine XS.aload X274.here hx rfl (hb hby at_293) rfl rfl ?_
      exact k)
    obtain ⟨cl278, Ar278, q278, S278, M278, H278, G278⟩ := id nf274_0
    have pre279 : Go p.tables e below S0 T274 (mkF m 321 #[vJ q0, .second, vJ q1, .second, vI p2, vI p3, vI v1, vI v2, vI v3, vI v4, vI (0 : Int32), vI (0 : Int32), vI (0 : Int32), vI v1, vI v5, vI j82_l15_10, vI j82_l16_11, vI v15, vI j119_l18_20, vI j119_l19_21, vI v25, vI (3 : Int32), vR b28, vR b224, vR b241, vI (1 : Int32)] [(.int (0 : Int32)), (.ref b224)]) := fun t k => pre277 t (by
      refine X274.arraylength hx Ar278.1 (State.isArrayOf_alike hZ.alike Ar278.2.1) (g := (mkF m 295 #[vJ q0, .second, vJ q1, .second, vI p2, vI p3, vI v1, vI v2, vI v3, vI v4, vI (0 : Int32), vI (0 : Int32), vI (0 : Int32), vI v1, vI v5, vI j82_l15_10, vI j82_l16_11, vI v15, vI j119_l18_20, vI j119_l19_21, vI v25, vI (3 : Int32), vR b28, vR b224, vR b241, .unset] [(.ref b224)])) rfl rfl (hb hby at_295) _ ?_
      rw [len_of S278 M278]
      refine XS.iload X274.here hx rfl (hb hby at_296) rfl ?_
      refine XS.icmpNo X274.here hx rfl (hb hby at_298) rfl (teq (rfl : (3 : Int32) = (3 : Int32))).2 ?_
      show Steps p.tables e below (T274.setTop (mkF m 301 #[vJ q0, .second, vJ q1, .second, vI p2, vI p3, vI v1, vI v2, vI v3, vI v4, vI (0 : Int32), vI (0 : Int32), vI (0 : Int32), vI v1, vI v5, vI j82_l15_10, vI j82_l16_11, vI v15, vI j119_l18_20, vI j119_l19_21, vI v25, vI (3 : Int32), vR b28, vR b224, vR b241, .unset] [])) _
      refine XS.iconst X274.here hx rfl (hb hby at_301) ?_
      refine XS.goto X274.here hx rfl (pc0 := 302) (pc' := 306) rfl (hb hby at_302) (by decide) (by decide) ?_
      refine XS.istore X274.here hx rfl (hb hby at_306) rfl (l' := #[vJ q0, .second, vJ q1, .second, vI p2, vI p3, vI v1, vI v2, vI v3, vI v4, vI (0 : Int32), vI (0 : Int32), vI (0 : Int32), vI v1, vI v5, vI j82_l15_10, vI j82_l16_11, vI v15, vI j119_l18_20, vI j119_l19_21, vI v25, vI (3 : Int32), vR b28, vR b224, vR b241, vI (1 : Int32)]) rfl ?_
      show Steps p.tables e below (T274.setTop (mkF m 308 #[vJ q0, .second, vJ q1, .second, vI p2, vI p3, vI v1, vI v2, vI v3, vI v4, vI (0 : Int32), vI (0 : Int32), vI (0 : Int32), vI v1, vI v5, vI j82_l15_10, vI j82_l16_11, vI v15, vI j119_l18_20, vI j119_l19_21, vI v25, vI (3 : Int32), vR b28, vR b224, vR b241, vI (1 : Int32)] [])) _
      refine XS.iload X274.here hx rfl (hb hby at_308) rfl ?_
      refine XS.ifNo X274.here hx rfl (hb hby at_310) rfl ((if0 _ _).trans (tlt (by decide : (0 : Int32) < (3 : Int32))).2.2.2) ?_
      refine XS.iload X274.here hx rfl (hb hby at_313) rfl ?_
      show Steps p.tables e below (T274.setTop (mkF m 315 #[vJ q0, .second, vJ q1, .second, vI p2, vI p3, vI v1, vI v2, vI v3, vI v4, vI (0 : Int32), vI (0 : Int32), vI (0 : Int32), vI v1, vI v5, vI j82_l15_10, vI j82_l16_11, vI v15, vI j119_l18_20, vI j119_l19_21, vI v25, vI (3 : Int32), vR b28, vR b224, vR b241, vI (1 : Int32)] [(.int (1 : Int32))])) _
      refine XS.ifNo X274.here hx rfl (hb hby at_315) rfl ((if0 _ _).trans (feq (by decide : ¬ ((1 : Int32) = (0 : Int32)))).1) ?_
      refine XS.aload X274.here hx rfl (hb hby at_318) rfl rfl ?_
      refine XS.iconst X274.here hx rfl (hb hby at_320) ?_
      show Steps p.tables e below (T274.setTop (mkF m 321 #[vJ q0, .second, vJ q1, .second, vI p2, vI p3, vI v1, vI v2, vI v3, vI v4, vI (0 : Int32), vI (0 : Int32), vI (0 : Int32), vI v1, vI v5, vI j82_l15_10, vI j82_l16_11, vI v15, vI j119_l18_20, vI j119_l19_21, vI v25, vI (3 : Int32), vR b28, vR b224, vR b241, vI (1 : Int32)] [(.int (0 : Int32)), (.ref b224)])) _
      exact k)
    obtain ⟨cl280, Ar280, q280, S280, M280, H280, G280⟩ := id nf274_0
    have in280 : ¬ ((0 : Int32) < 0 ∨ cl280.slots.size ≤ ((0 : Int32)).toNatClampNeg) := inb_of S280 ⟨by decide, by decide⟩
    have at280 : cl280.slots[((0 : Int32)).toNatClampNeg]? = some (.int r274_0) := H280.at in280 rfl
    have pre281 : Go p.tables e below S0 T274 (mkF m 326 #[vJ q0, .second, vJ q1, .second, vI p2, vI p3, vI v1, vI v2, vI v3, vI v4, vI (0 : Int32), vI (0 : Int32), vI (0 : Int32), vI v1, vI v5, vI j82_l15_10, vI j82_l16_11, vI v15, vI j119_l18_20, vI j119_l19_21, vI v25, vI (3 : Int32), vR b28, vR b224, vR b241, vI (1 : Int32)] [(.int (0 : Int32)), (.long q1), (.long q0), (.int r274_0)]) := fun t k => pre279 t (by
      refine X274.iaload hx (j := (0 : Int32)) (v := (.int r274_0)) Ar280.1 (State.isArrayOf_alike hZ.alike Ar280.2.1) Ar280.2.2 in280 at280 (g := (mkF m 321 #[vJ q0, .second, vJ q1, .second, vI p2, vI p3, vI v1, vI v2, vI v3, vI v4, vI (0 : Int32), vI (0 : Int32), vI (0 : Int32), vI v1, vI v5, vI j82_l15_10, vI j82_l16_11, vI v15, vI j119_l18_20, vI j119_l19_21, vI v25, vI (3 : Int32), vR b28, vR b224, vR b241, vI (1 : Int32)] [(.int (0 : Int32)), (.ref b224)])) rfl rfl (hb hby at_321) _ ?_
      refine XS.lloadN X274.here hx rfl (hb hby at_322) rfl ?_
      refine XS.lloadN X274.here hx rfl (hb hby at_323) rfl ?_
      show Steps p.tables e below (T274.setTop (mkF m 324 #[vJ q0, .second, vJ q1, .second, vI p2, vI p3, vI v1, vI v2, vI v3, vI v4, vI (0 : Int32), vI (0 : Int32), vI (0 : Int32), vI v1, vI v5, vI j82_l15_10, vI j82_l16_11, vI v15, vI j119_l18_20, vI j119_l19_21, vI v25, vI (3 : Int32), vR b28, vR b224, vR b241, vI (1 : Int32)] [(.long q1), (.long q0), (.int r274_0)])) _
      refine XS.iload X274.here hx rfl (hb hby at_324) rfl ?_
      exact k)
    obtain ⟨_, _, ⟨T282, qL282, qk282, qn282⟩, -, X282, ⟨Lc282, hQ282, ql282, qy282, qz282⟩, st282⟩ := Jvm.LawKit.callS X274 hx (y := (⟨"com/example/garantia/garantia/engine/StateLayoutUnpackPinLaw", "pick", "(JJI)J"⟩ : MethodName)) hown (mvT hZ (hw _ (List.mem_of_getElem? (i := 32) rfl))) (mvT hZ (hw _ (List.mem_of_getElem? (i := 33) rfl))) (mvT hZ (hw _ (List.mem_of_getElem? (i := 34) rfl))) (mvT hZ (hw _ (List.mem_of_getElem? (i := 35) rfl))) (by decide) (backOf (W := 1) (rm4 l Z A0 hw [] q0 q1 (0 : Int32) T274.heap n0 zz276) hZ (hw _ (List.mem_of_getElem? (i := 35) rfl)) (hw _ (List.mem_of_getElem? (i := 34) rfl)) (by decide) (by decide)) (g := (mkF m 326 #[vJ q0, .second, vJ q1, .second, vI p2, vI p3, vI v1, vI v2, vI v3, vI v4, vI (0 : Int32), vI (0 : Int32), vI (0 : Int32), vI v1, vI v5, vI j82_l15_10, vI j82_l16_11, vI v15, vI j119_l18_20, vI j119_l19_21, vI v25, vI (3 : Int32), vR b28, vR b224, vR b241, vI (1 : Int32)] [(.int (0 : Int32)), (.long q1), (.long q0), (.int r274_0)])) rfl (by rw [hml]; rfl) (argsL := [(.long q0), (.long q1), (.int (0 : Int32))]) (rest := [(.int r274_0)]) (lenOf pd_2 rfl) rfl (by show 2 * 0 + _ ≤ _; exact Nat.le_of_eq rfl) (hb hby at_326) (fun _ _ => ⟨rfl, rfl, (by decide : 8 + 0 ≤ _), (by decide : 33 + 0 ≤ _)⟩)
    dsimp only [Pt.U, Pt.locs, Pt.cells, Pt.slots] at X282 ql282 qy282 qz282 st282 hQ282
    replace X282 := X282.more (Nat.le_of_eq qy282) (Nat.le_of_eq qz282)
    obtain ⟨rfl, Nq282, eq282⟩ := hQ282
    have N282 : Fr n0 qL282 := by rw [ql282]; exact Fr.app N274 Nq282
    have pre282 : Go p.tables e below S0 T282 (mkF m 329 #[vJ q0, .second, vJ q1, .second, vI p2, vI p3, vI v1, vI v2, vI v3, vI v4, vI (0 : Int32), vI (0 : Int32), vI (0 : Int32), vI v1, vI v5, vI j82_l15_10, vI j82_l16_11, vI v15, vI j119_l18_20, vI j119_l19_21, vI v25, vI (3 : Int32), vR b28, vR b224, vR b241, vI (1 : Int32)] [(.long (own_pick q0 q1 (0 : Int32))), (.int r274_0)]) := fun t k => pre281 t (st282 t k)
    have pre283 : Go p.tables e below S0 T282 (mkF m 333 #[vJ q0, .second, vJ q1, .second, vI p2, vI p3, vI v1, vI v2, vI v3, vI v4, vI (0 : Int32), vI (0 : Int32), vI (0 : Int32), vI v1, vI v5, vI j82_l15_10, vI j82_l16_11, vI v15, vI j119_l18_20, vI j119_l19_21, vI v25, vI (3 : Int32), vR b28, vR b224, vR b241, vI (1 : Int32)] [(.int v1), (.int (0 : Int32)), (.long (own_pick q0 q1 (0 : Int32))), (.int r274_0)]) := fun t k => pre282 t (by
      refine XS.iload X282.here hx rfl (hb hby at_329) rfl ?_
      refine XS.iload X282.here hx rfl (hb hby at_331) rfl ?_
      exact k)
    obtain ⟨_, _, ⟨T284, qL284, qk284, qn284⟩, -, X284, ⟨Lc284, hQ284, ql284, qy284, qz284⟩, st284⟩ := Jvm.LawKit.callS X282 hx (y := (⟨"com/example/garantia/garantia/engine/StateLayoutUnpackPinLaw", "ref", "(JII)I"⟩ : MethodName)) hown (mvT hZ (hw _ (List.mem_of_getElem? (i := 36) rfl))) (mvT hZ (hw _ (List.mem_of_getElem? (i := 37) rfl))) (mvT hZ (hw _ (List.mem_of_getElem? (i := 34) rfl))) (mvT hZ (hw _ (List.mem_of_getElem? (i := 38) rfl))) (by decide) (backOf (W := 1) (rm5 l Z A0 hw [] (own_pick q0 q1 (0 : Int32)) (0 : Int32) v1 T274.heap n0 zz276) hZ (hw _ (List.mem_of_getElem? (i := 38) rfl)) (hw _ (List.mem_of_getElem? (i := 34) rfl)) (by decide) (by decide)) (g := (mkF m 333 #[vJ q0, .second, vJ q1, .second, vI p2, vI p3, vI v1, vI v2, vI v3, vI v4, vI (0 : Int32), vI (0 : Int32), vI (0 : Int32), vI v1, vI v5, vI j82_l15_10, vI j82_l16_11, vI v15, vI j119_l18_20, vI j119_l19_21, vI v25, vI (3 : Int32), vR b28, vR b224, vR b241, vI (1 : Int32)] [(.int v1), (.int (0 : Int32)), (.long (own_pick q0 q1 (0 : Int32))), (.int r274_0)])) rfl (by rw [hml]; rfl) (argsL := [(.long (own_pick q0 q1 (0 : Int32))), (.int (0 : Int32)), (.int v1)]) (rest := [(.int r274_0)]) (lenOf pd_3 rfl) rfl (by show 2 * 0 + _ ≤ _; exact Nat.le_of_eq rfl) (hb hby at_333) (fun _ _ => ⟨rfl, eq282, (by decide : 8 + 0 ≤ _), (by decide : 33 + 0 ≤ _)⟩)
    dsimp only [Pt.U, Pt.locs, Pt.cells, Pt.slots] at X284 ql284 qy284 qz284 st284 hQ284
    replace X284 := X284.more (Nat.le_of_eq qy284) (Nat.le_of_eq qz284)
    obtain ⟨rfl, Nq284, eq284⟩ := hQ284
    have N284 : Fr n0 qL284 := by rw [ql284]; exact Fr.app N282 Nq284
    have pre284 : Go p.tables e below S0 T284 (mkF m 336 #[vJ q0, .second, vJ q1, .second, vI p2, vI p3, vI v1, vI v2, vI v3, vI v4, vI (0 : Int32), vI (0 : Int32), vI (0 : Int32), vI v1, vI v5, vI j82_l15_10, vI j82_l16_11, vI v15, vI j119_l18_20, vI j119_l19_21, vI v25, vI (3 : Int32), vR b28, vR b224, vR b241, vI (1 : Int32)] [(.int (own_ref (own_pick q0 q1 (0 : Int32)) (0 : Int32) v1)), (.int r274_0)]) := fun t k => pre283 t (st284 t k)
    have cc285 : r274_0 = (own_ref (own_pick q0 q1 (0 : Int32)) (0 : Int32) v1) := own_key (f := 0) hR274.1 (own_from hoff (Or.inl rfl)) (by decide) hw0 (by show (0 : Int) + _ ≤ 64; omega)
    have pre286 : Go p.tables e below S0 T284 (mkF m 360 #[vJ q0, .second, vJ q1, .second, vI p2, vI p3, vI v1, vI v2, vI v3, vI v4, vI (0 : Int32), vI (0 : Int32), vI (0 : Int32), vI v1, vI v5, vI j82_l15_10, vI j82_l16_11, vI v15, vI j119_l18_20, vI j119_l19_21, vI v25, vI (3 : Int32), vR b28, vR b224, vR b241, vI (1 : Int32)] [(.int (1 : Int32)), (.ref b224)]) := fun t k => pre284 t (by
      refine XS.icmpNo X284.here hx rfl (hb hby at_336) rfl (teq cc285).2 ?_
      refine XS.iconst X284.here hx rfl (hb hby at_339) ?_
      refine XS.goto X284.here hx rfl (pc0 := 340) (pc' := 344) rfl (hb hby at_340) (by decide) (by decide) ?_
      show Steps p.tables e below (T284.setTop (mkF m 344 #[vJ q0, .second, vJ q1, .second, vI p2, vI p3, vI v1, vI v2, vI v3, vI v4, vI (0 : Int32), vI (0 : Int32), vI (0 : Int32), vI v1, vI v5, vI j82_l15_10, vI j82_l16_11, vI v15, vI j119_l18_20, vI j119_l19_21, vI v25, vI (3 : Int32), vR b28, vR b224, vR b241, vI (1 : Int32)] [(.int (1 : Int32))])) _
      refine XS.istore X284.here hx rfl (hb hby at_344) rfl (l' := #[vJ q0, .second, vJ q1, .second, vI p2, vI p3, vI v1, vI v2, vI v3, vI v4, vI (0 : Int32), vI (0 : Int32), vI (0 : Int32), vI v1, vI v5, vI j82_l15_10, vI j82_l16_11, vI v15, vI j119_l18_20, vI j119_l19_21, vI v25, vI (3 : Int32), vR b28, vR b224, vR b241, vI (1 : Int32)]) rfl ?_
      refine XS.iload X284.here hx rfl (hb hby at_346) rfl ?_
      refine XS.iconst X284.here hx rfl (hb hby at_348) ?_
      show Steps p.tables e below (T284.setTop (mkF m 349 #[vJ q0, .second, vJ q1, .second, vI p2, vI p3, vI v1, vI v2, vI v3, vI v4, vI (0 : Int32), vI (0 : Int32), vI (0 : Int32), vI v1, vI v5, vI j82_l15_10, vI j82_l16_11, vI v15, vI j119_l18_20, vI j119_l19_21, vI v25, vI (3 : Int32), vR b28, vR b224, vR b241, vI (1 : Int32)] [(.int (1 : Int32)), (.int (3 : Int32))])) _
      refine XS.icmpNo X284.here hx rfl (hb hby at_349) rfl (tlt (by decide : (1 : Int32) < (3 : Int32))).2.2.2 ?_
      refine XS.iload X284.here hx rfl (hb hby at_352) rfl ?_
      refine XS.ifNo X284.here hx rfl (hb hby at_354) rfl ((if0 _ _).trans (feq (by decide : ¬ ((1 : Int32) = (0 : Int32)))).1) ?_
      show Steps p.tables e below (T284.setTop (mkF m 357 #[vJ q0, .second, vJ q1, .second, vI p2, vI p3, vI v1, vI v2, vI v3, vI v4, vI (0 : Int32), vI (0 : Int32), vI (0 : Int32), vI v1, vI v5, vI j82_l15_10, vI j82_l16_11, vI v15, vI j119_l18_20, vI j119_l19_21, vI v25, vI (3 : Int32), vR b28, vR b224, vR b241, vI (1 : Int32)] [])) _
      refine XS.aload X284.here hx rfl (hb hby at_357) rfl rfl ?_
      refine XS.iconst X284.here hx rfl (hb hby at_359) ?_
      exact k)
    obtain ⟨cl287, Ar287, q287, S287, M287, H287, G287⟩ := id nf274_0
    have in287 : ¬ ((1 : Int32) < 0 ∨ cl287.slots.size ≤ ((1 : Int32)).toNatClampNeg) := inb_of S287 ⟨by decide, by decide⟩
    have at287 : cl287.slots[((1 : Int32)).toNatClampNeg]? = some (.int r274_1) := H287.at in287 rfl
    have pre288 : Go p.tables e below S0 T284 (mkF m 365 #[vJ q0, .second, vJ q1, .second, vI p2, vI p3, vI v1, vI v2, vI v3, vI v4, vI (0 : Int32), vI (0 : Int32), vI (0 : Int32), vI v1, vI v5, vI j82_l15_10, vI j82_l16_11, vI v15, vI j119_l18_20, vI j119_l19_21, vI v25, vI (3 : Int32), vR b28, vR b224, vR b241, vI (1 : Int32)] [(.int (0 : Int32)), (.long q1), (.long q0), (.int r274_1)]) := fun t k => pre286 t (by
      refine X284.iaload hx (j := (1 : Int32)) (v := (.int r274_1)) (by rw [eq284]; exact Ar287.1) (State.isArrayOf_alike hZ.alike Ar287.2.1) Ar287.2.2 in287 at287 (g := (mkF m 360 #[vJ q0, .second, vJ q1, .second, vI p2, vI p3, vI v1, vI v2, vI v3, vI v4, vI (0 : Int32), vI (0 : Int32), vI (0 : Int32), vI v1, vI v5, vI j82_l15_10, vI j82_l16_11, vI v15, vI j119_l18_20, vI j119_l19_21, vI v25, vI (3 : Int32), vR b28, vR b224, vR b241, vI (1 : Int32)] [(.int (1 : Int32)), (.ref b224)])) rfl rfl (hb hby at_360) _ ?_
      refine XS.lloadN X284.here hx rfl (hb hby at_361) rfl ?_
      refine XS.lloadN X284.here hx rfl (hb hby at_362) rfl ?_
      show Steps p.tables e below (T284.setTop (mkF m 363 #[vJ q0, .second, vJ q1, .second, vI p2, vI p3, vI v1, vI v2, vI v3, vI v4, vI (0 : Int32), vI (0 : Int32), vI (0 : Int32), vI v1, vI v5, vI j82_l15_10, vI j82_l16_11, vI v15, vI j119_l18_20, vI j119_l19_21, vI v25, vI (3 : Int32), vR b28, vR b224, vR b241, vI (1 : Int32)] [(.long q1), (.long q0), (.int r274_1)])) _
      refine XS.iload X284.here hx rfl (hb hby at_363) rfl ?_
      exact k)
    obtain ⟨_, _, ⟨T289, qL289, qk289, qn289⟩, -, X289, ⟨Lc289, hQ289, ql289, qy289, qz289⟩, st289⟩ := Jvm.LawKit.callS X284 hx (y := (⟨"com/example/garantia/garantia/engine/StateLayoutUnpackPinLaw", "pick", "(JJI)J"⟩ : MethodName)) hown (mvT hZ (hw _ (List.mem_of_getElem? (i := 32) rfl))) (mvT hZ (hw _ (List.mem_of_getElem? (i := 33) rfl))) (mvT hZ (hw _ (List.mem_of_getElem? (i := 34) rfl))) (mvT hZ (hw _ (List.mem_of_getElem? (i := 35) rfl))) (by decide) (backOf (W := 1) (rm4 l Z A0 hw [] q0 q1 (0 : Int32) T274.heap n0 zz276) hZ (hw _ (List.mem_of_getElem? (i := 35) rfl)) (hw _ (List.mem_of_getElem? (i := 34) rfl)) (by decide) (by decide)) (g := (mkF m 365 #[vJ q0, .second, vJ q1, .second, vI p2, vI p3, vI v1, vI v2, vI v3, vI v4, vI (0 : Int32), vI (0 : Int32), vI (0 : Int32), vI v1, vI v5, vI j82_l15_10, vI j82_l16_11, vI v15, vI j119_l18_20, vI j119_l19_21, vI v25, vI (3 : Int32), vR b28, vR b224, vR b241, vI (1 : Int32)] [(.int (0 : Int32)), (.long q1), (.long q0), (.int r274_1)])) rfl (by rw [hml]; rfl) (argsL := [(.long q0), (.long q1), (.int (0 : Int32))]) (rest := [(.int r274_1)]) (lenOf pd_2 rfl) rfl (by show 2 * 0 + _ ≤ _; exact Nat.le_of_eq rfl) (hb hby at_365) (fun _ _ => ⟨rfl, eq284, (by decide : 8 + 0 ≤ _), (by decide : 33 + 0 ≤ _)⟩)
    dsimp only [Pt.U, Pt.locs, Pt.cells, Pt.slots] at X289 ql289 qy289 qz289 st289 hQ289
    replace X289 := X289.more (Nat.le_of_eq qy289) (Nat.le_of_eq qz289)
    obtain ⟨rfl, Nq289, eq289⟩ := hQ289
    have N289 : Fr n0 qL289 := by rw [ql289]; exact Fr.app N284 Nq289
    have pre289 : Go p.tables e below S0 T289 (mkF m 368 #[vJ q0, .second, vJ q1, .second, vI p2, vI p3, vI v1, vI v2, vI v3, vI v4, vI (0 : Int32), vI (0 : Int32), vI (0 : Int32), vI v1, vI v5, vI j82_l15_10, vI j82_l16_11, vI v15, vI j119_l18_20, vI j119_l19_21, vI v25, vI (3 : Int32), vR b28, vR b224, vR b241, vI (1 : Int32)] [(.long (own_pick q0 q1 (0 : Int32))), (.int r274_1)]) := fun t k => pre288 t (st289 t k)
    have pre290 : Go p.tables e below S0 T289 (mkF m 372 #[vJ q0, .second, vJ q1, .second, vI p2, vI p3, vI v1, vI v2, vI v3, vI v4, vI (0 : Int32), vI (0 : Int32), vI (0 : Int32), vI v1, vI v5, vI j82_l15_10, vI j82_l16_11, vI v15, vI j119_l18_20, vI j119_l19_21, vI v25, vI (3 : Int32), vR b28, vR b224, vR b241, vI (1 : Int32)] [(.int v2), (.int v1), (.long (own_pick q0 q1 (0 : Int32))), (.int r274_1)]) := fun t k => pre289 t (by
      refine XS.iload X289.here hx rfl (hb hby at_368) rfl ?_
      refine XS.iload X289.here hx rfl (hb hby at_370) rfl ?_
      exact k)
    obtain ⟨_, _, ⟨T291, qL291, qk291, qn291⟩, -, X291, ⟨Lc291, hQ291, ql291, qy291, qz291⟩, st291⟩ := Jvm.LawKit.callS X289 hx (y := (⟨"com/example/garantia/garantia/engine/StateLayoutUnpackPinLaw", "ref", "(JII)I"⟩ : MethodName)) hown (mvT hZ (hw _ (List.mem_of_getElem? (i := 36) rfl))) (mvT hZ (hw _ (List.mem_of_getElem? (i := 37) rfl))) (mvT hZ (hw _ (List.mem_of_getElem? (i := 34) rfl))) (mvT hZ (hw _ (List.mem_of_getElem? (i := 38) rfl))) (by decide) (backOf (W := 1) (rm5 l Z A0 hw [] (own_pick q0 q1 (0 : Int32)) v1 v2 T274.heap n0 zz276) hZ (hw _ (List.mem_of_getElem? (i := 38) rfl)) (hw _ (List.mem_of_getElem? (i := 34) rfl)) (by decide) (by decide)) (g := (mkF m 372 #[vJ q0, .second, vJ q1, .second, vI p2, vI p3, vI v1, vI v2, vI v3, vI v4, vI (0 : Int32), vI (0 : Int32), vI (0 : Int32), vI v1, vI v5, vI j82_l15_10, vI j82_l16_11, vI v15, vI j119_l18_20, vI j119_l19_21, vI v25, vI (3 : Int32), vR b28, vR b224, vR b241, vI (1 : Int32)] [(.int v2), (.int v1), (.long (own_pick q0 q1 (0 : Int32))), (.int r274_1)])) rfl (by rw [hml]; rfl) (argsL := [(.long (own_pick q0 q1 (0 : Int32))), (.int v1), (.int v2)]) (rest := [(.int r274_1)]) (lenOf pd_3 rfl) rfl (by show 2 * 0 + _ ≤ _; exact Nat.le_of_eq rfl) (hb hby at_372) (fun _ _ => ⟨rfl, eq289, (by decide : 8 + 0 ≤ _), (by decide : 33 + 0 ≤ _)⟩)
    dsimp only [Pt.U, Pt.locs, Pt.cells, Pt.slots] at X291 ql291 qy291 qz291 st291 hQ291
    replace X291 := X291.more (Nat.le_of_eq qy291) (Nat.le_of_eq qz291)
    obtain ⟨rfl, Nq291, eq291⟩ := hQ291
    have N291 : Fr n0 qL291 := by rw [ql291]; exact Fr.app N289 Nq291
    have pre291 : Go p.tables e below S0 T291 (mkF m 375 #[vJ q0, .second, vJ q1, .second, vI p2, vI p3, vI v1, vI v2, vI v3, vI v4, vI (0 : Int32), vI (0 : Int32), vI (0 : Int32), vI v1, vI v5, vI j82_l15_10, vI j82_l16_11, vI v15, vI j119_l18_20, vI j119_l19_21, vI v25, vI (3 : Int32), vR b28, vR b224, vR b241, vI (1 : Int32)] [(.int (own_ref (own_pick q0 q1 (0 : Int32)) v1 v2)), (.int r274_1)]) := fun t k => pre290 t (st291 t k)
    have cc292 : r274_1 = (own_ref (own_pick q0 q1 (0 : Int32)) v1 v2) := (own_key (f := 0) hR274.2.1 (own_from hoff (Or.inl rfl)) (by rw [Int32.zero_add]; exact hw0.1) hw1 (by rw [Int32.zero_add]; omega)).trans (own_z1 _ _ _)
    have pre293 : Go p.tables e below S0 T291 (mkF m 399 #[vJ q0, .second, vJ q1, .second, vI p2, vI p3, vI v1, vI v2, vI v3, vI v4, vI (0 : Int32), vI (0 : Int32), vI (0 : Int32), vI v1, vI v5, vI j82_l15_10, vI j82_l16_11, vI v15, vI j119_l18_20, vI j119_l19_21, vI v25, vI (3 : Int32), vR b28, vR b224, vR b241, vI (1 : Int32)] [(.int (2 : Int32)), (.ref b224)]) := fun t k => pre291 t (by
      refine XS.icmpNo X291.here hx rfl (hb hby at_375) rfl (teq cc292).2 ?_
      refine XS.iconst X291.here hx rfl (hb hby at_378) ?_
      refine XS.goto X291.here hx rfl (pc0 := 379) (pc' := 383) rfl (hb hby at_379) (by decide) (by decide) ?_
      show Steps p.tables e below (T291.setTop (mkF m 383 #[vJ q0, .second, vJ q1, .second, vI p2, vI p3, vI v1, vI v2, vI v3, vI v4, vI (0 : Int32), vI (0 : Int32), vI (0 : Int32), vI v1, vI v5, vI j82_l15_10, vI j82_l16_11, vI v15, vI j119_l18_20, vI j119_l19_21, vI v25, vI (3 : Int32), vR b28, vR b224, vR b241, vI (1 : Int32)] [(.int (1 : Int32))])) _
      refine XS.istore X291.here hx rfl (hb hby at_383) rfl (l' := #[vJ q0, .second, vJ q1, .second, vI p2, vI p3, vI v1, vI v2, vI v3, vI v4, vI (0 : Int32), vI (0 : Int32), vI (0 : Int32), vI v1, vI v5, vI j82_l15_10, vI j82_l16_11, vI v15, vI j119_l18_20, vI j119_l19_21, vI v25, vI (3 : Int32), vR b28, vR b224, vR b241, vI (1 : Int32)]) rfl ?_
      refine XS.iload X291.here hx rfl (hb hby at_385) rfl ?_
      refine XS.iconst X291.here hx rfl (hb hby at_387) ?_
      show Steps p.tables e below (T291.setTop (mkF m 388 #[vJ q0, .second, vJ q1, .second, vI p2, vI p3, vI v1, vI v2, vI v3, vI v4, vI (0 : Int32), vI (0 : Int32), vI (0 : Int32), vI v1, vI v5, vI j82_l15_10, vI j82_l16_11, vI v15, vI j119_l18_20, vI j119_l19_21, vI v25, vI (3 : Int32), vR b28, vR b224, vR b241, vI (1 : Int32)] [(.int (2 : Int32)), (.int (3 : Int32))])) _
      refine XS.icmpNo X291.here hx rfl (hb hby at_388) rfl (tlt (by decide : (2 : Int32) < (3 : Int32))).2.2.2 ?_
      refine XS.iload X291.here hx rfl (hb hby at_391) rfl ?_
      refine XS.ifNo X291.here hx rfl (hb hby at_393) rfl ((if0 _ _).trans (feq (by decide : ¬ ((1 : Int32) = (0 : Int32)))).1) ?_
      show Steps p.tables e below (T291.setTop (mkF m 396 #[vJ q0, .second, vJ q1, .second, vI p2, vI p3, vI v1, vI v2, vI v3, vI v4, vI (0 : Int32), vI (0 : Int32), vI (0 : Int32), vI v1, vI v5, vI j82_l15_10, vI j82_l16_11, vI v15, vI j119_l18_20, vI j119_l19_21, vI v25, vI (3 : Int32), vR b28, vR b224, vR b241, vI (1 : Int32)] [])) _
      refine XS.aload X291.here hx rfl (hb hby at_396) rfl rfl ?_
      refine XS.iconst X291.here hx rfl (hb hby at_398) ?_
      exact k)
    obtain ⟨cl294, Ar294, q294, S294, M294, H294, G294⟩ := id nf274_0
    have in294 : ¬ ((2 : Int32) < 0 ∨ cl294.slots.size ≤ ((2 : Int32)).toNatClampNeg) := inb_of S294 ⟨by decide, by decide⟩
    have at294 : cl294.slots[((2 : Int32)).toNatClampNeg]? = some (.int r274_2) := H294.at in294 rfl
    have pre295 : Go p.tables e below S0 T291 (mkF m 404 #[vJ q0, .second, vJ q1, .second, vI p2, vI p3, vI v1, vI v2, vI v3, vI v4, vI (0 : Int32), vI (0 : Int32), vI (0 : Int32), vI v1, vI v5, vI j82_l15_10, vI j82_l16_11, vI v15, vI j119_l18_20, vI j119_l19_21, vI v25, vI (3 : Int32), vR b28, vR b224, vR b241, vI (1 : Int32)] [(.int j82_l15_10), (.long q1), (.long q0), (.int r274_2)]) := fun t k => pre293 t (by
      refine X291.iaload hx (j := (2 : Int32)) (v := (.int r274_2)) (by rw [eq291]; exact Ar294.1) (State.isArrayOf_alike hZ.alike Ar294.2.1) Ar294.2.2 in294 at294 (g := (mkF m 399 #[vJ q0, .second, vJ q1, .second, vI p2, vI p3, vI v1, vI v2, vI v3, vI v4, vI (0 : Int32), vI (0 : Int32), vI (0 : Int32), vI v1, vI v5, vI j82_l15_10, vI j82_l16_11, vI v15, vI j119_l18_20, vI j119_l19_21, vI v25, vI (3 : Int32), vR b28, vR b224, vR b241, vI (1 : Int32)] [(.int (2 : Int32)), (.ref b224)])) rfl rfl (hb hby at_399) _ ?_
      refine XS.lloadN X291.here hx rfl (hb hby at_400) rfl ?_
      refine XS.lloadN X291.here hx rfl (hb hby at_401) rfl ?_
      show Steps p.tables e below (T291.setTop (mkF m 402 #[vJ q0, .second, vJ q1, .second, vI p2, vI p3, vI v1, vI v2, vI v3, vI v4, vI (0 : Int32), vI (0 : Int32), vI (0 : Int32), vI v1, vI v5, vI j82_l15_10, vI j82_l16_11, vI v15, vI j119_l18_20, vI j119_l19_21, vI v25, vI (3 : Int32), vR b28, vR b224, vR b241, vI (1 : Int32)] [(.long q1), (.long q0), (.int r274_2)])) _
      refine XS.iload X291.here hx rfl (hb hby at_402) rfl ?_
      exact k)
    obtain ⟨_, _, ⟨T296, qL296, qk296, qn296⟩, -, X296, ⟨Lc296, hQ296, ql296, qy296, qz296⟩, st296⟩ := Jvm.LawKit.callS X291 hx (y := (⟨"com/example/garantia/garantia/engine/StateLayoutUnpackPinLaw", "pick", "(JJI)J"⟩ : MethodName)) hown (mvT hZ (hw _ (List.mem_of_getElem? (i := 32) rfl))) (mvT hZ (hw _ (List.mem_of_getElem? (i := 33) rfl))) (mvT hZ (hw _ (List.mem_of_getElem? (i := 34) rfl))) (mvT hZ (hw _ (List.mem_of_getElem? (i := 35) rfl))) (by decide) (backOf (W := 1) (rm4 l Z A0 hw [] q0 q1 j82_l15_10 T274.heap n0 zz276) hZ (hw _ (List.mem_of_getElem? (i := 35) rfl)) (hw _ (List.mem_of_getElem? (i := 34) rfl)) (by decide) (by decide)) (g := (mkF m 404 #[vJ q0, .second, vJ q1, .second, vI p2, vI p3, vI v1, vI v2, vI v3, vI v4, vI (0 : Int32), vI (0 : Int32), vI (0 : Int32), vI v1, vI v5, vI j82_l15_10, vI j82_l16_11, vI v15, vI j119_l18_20, vI j119_l19_21, vI v25, vI (3 : Int32), vR b28, vR b224, vR b241, vI (1 : Int32)] [(.int j82_l15_10), (.long q1), (.long q0), (.int r274_2)])) rfl (by rw [hml]; rfl) (argsL := [(.long q0), (.long q1), (.int j82_l15_10)]) (rest := [(.int r274_2)]) (lenOf pd_2 rfl) rfl (by show 2 * 0 + _ ≤ _; exact Nat.le_of_eq rfl) (hb hby at_404) (fun _ _ => ⟨rfl, eq291, (by decide : 8 + 0 ≤ _), (by decide : 33 + 0 ≤ _)⟩)
    dsimp only [Pt.U, Pt.locs, Pt.cells, Pt.slots] at X296 ql296 qy296 qz296 st296 hQ296
    replace X296 := X296.more (Nat.le_of_eq qy296) (Nat.le_of_eq qz296)
    obtain ⟨rfl, Nq296, eq296⟩ := hQ296
    have N296 : Fr n0 qL296 := by rw [ql296]; exact Fr.app N291 Nq296
    have pre296 : Go p.tables e below S0 T296 (mkF m 407 #[vJ q0, .second, vJ q1, .second, vI p2, vI p3, vI v1, vI v2, vI v3, vI v4, vI (0 : Int32), vI (0 : Int32), vI (0 : Int32), vI v1, vI v5, vI j82_l15_10, vI j82_l16_11, vI v15, vI j119_l18_20, vI j119_l19_21, vI v25, vI (3 : Int32), vR b28, vR b224, vR b241, vI (1 : Int32)] [(.long (own_pick q0 q1 j82_l15_10)), (.int r274_2)]) := fun t k => pre295 t (st296 t k)
    have pre297 : Go p.tables e below S0 T296 (mkF m 411 #[vJ q0, .second, vJ q1, .second, vI p2, vI p3, vI v1, vI v2, vI v3, vI v4, vI (0 : Int32), vI (0 : Int32), vI (0 : Int32), vI v1, vI v5, vI j82_l15_10, vI j82_l16_11, vI v15, vI j119_l18_20, vI j119_l19_21, vI v25, vI (3 : Int32), vR b28, vR b224, vR b241, vI (1 : Int32)] [(.int v3), (.int j82_l16_11), (.long (own_pick q0 q1 j82_l15_10)), (.int r274_2)]) := fun t k => pre296 t (by
      refine XS.iload X296.here hx rfl (hb hby at_407) rfl ?_
      refine XS.iload X296.here hx rfl (hb hby at_409) rfl ?_
      exact k)
    obtain ⟨_, _, ⟨T298, qL298, qk298, qn298⟩, -, X298, ⟨Lc298, hQ298, ql298, qy298, qz298⟩, st298⟩ := Jvm.LawKit.callS X296 hx (y := (⟨"com/example/garantia/garantia/engine/StateLayoutUnpackPinLaw", "ref", "(JII)I"⟩ : MethodName)) hown (mvT hZ (hw _ (List.mem_of_getElem? (i := 36) rfl))) (mvT hZ (hw _ (List.mem_of_getElem? (i := 37) rfl))) (mvT hZ (hw _ (List.mem_of_getElem? (i := 34) rfl))) (mvT hZ (hw _ (List.mem_of_getElem? (i := 38) rfl))) (by decide) (backOf (W := 1) (rm5 l Z A0 hw [] (own_pick q0 q1 j82_l15_10) j82_l16_11 v3 T274.heap n0 zz276) hZ (hw _ (List.mem_of_getElem? (i := 38) rfl)) (hw _ (List.mem_of_getElem? (i := 34) rfl)) (by decide) (by decide)) (g := (mkF m 411 #[vJ q0, .second, vJ q1, .second, vI p2, vI p3, vI v1, vI v2, vI v3, vI v4, vI (0 : Int32), vI (0 : Int32), vI (0 : Int32), vI v1, vI v5, vI j82_l15_10, vI j82_l16_11, vI v15, vI j119_l18_20, vI j119_l19_21, vI v25, vI (3 : Int32), vR b28, vR b224, vR b241, vI (1 : Int32)] [(.int v3), (.int j82_l16_11), (.long (own_pick q0 q1 j82_l15_10)), (.int r274_2)])) rfl (by rw [hml]; rfl) (argsL := [(.long (own_pick q0 q1 j82_l15_10)), (.int j82_l16_11), (.int v3)]) (rest := [(.int r274_2)]) (lenOf pd_3 rfl) rfl (by show 2 * 0 + _ ≤ _; exact Nat.le_of_eq rfl) (hb hby at_411) (fun _ _ => ⟨rfl, eq296, (by decide : 8 + 0 ≤ _), (by decide : 33 + 0 ≤ _)⟩)
    dsimp only [Pt.U, Pt.locs, Pt.cells, Pt.slots] at X298 ql298 qy298 qz298 st298 hQ298
    replace X298 := X298.more (Nat.le_of_eq qy298) (Nat.le_of_eq qz298)
    obtain ⟨rfl, Nq298, eq298⟩ := hQ298
    have N298 : Fr n0 qL298 := by rw [ql298]; exact Fr.app N296 Nq298
    have pre298 : Go p.tables e below S0 T298 (mkF m 414 #[vJ q0, .second, vJ q1, .second, vI p2, vI p3, vI v1, vI v2, vI v3, vI v4, vI (0 : Int32), vI (0 : Int32), vI (0 : Int32), vI v1, vI v5, vI j82_l15_10, vI j82_l16_11, vI v15, vI j119_l18_20, vI j119_l19_21, vI v25, vI (3 : Int32), vR b28, vR b224, vR b241, vI (1 : Int32)] [(.int (own_ref (own_pick q0 q1 j82_l15_10) j82_l16_11 v3)), (.int r274_2)]) := fun t k => pre297 t (st298 t k)
    have cc299 : r274_2 = (own_ref (own_pick q0 q1 j82_l15_10) j82_l16_11 v3) := own_key (f := 0) hR274.2.2 (own_from hoff hc2) ft2.1 hw2 ft2.2
    have pre300 : Go p.tables e below S0 T298 (mkF m 465 #[vJ q0, .second, vJ q1, .second, vI p2, vI p3, vI v1, vI v2, vI v3, vI v4, vI (0 : Int32), vI (0 : Int32), vI (0 : Int32), vI v1, vI v5, vI j82_l15_10, vI j82_l16_11, vI v15, vI j119_l18_20, vI j119_l19_21, vI v25, vI (3 : Int32), vR b28, vR b224, vR b241, vI (1 : Int32)] [(.int (1 : Int32))]) := fun t k => pre298 t (by
      refine XS.icmpNo X298.here hx rfl (hb hby at_414) rfl (teq cc299).2 ?_
      refine XS.iconst X298.here hx rfl (hb hby at_417) ?_
      refine XS.goto X298.here hx rfl (pc0 := 418) (pc' := 422) rfl (hb hby at_418) (by decide) (by decide) ?_
      show Steps p.tables e below (T298.setTop (mkF m 422 #[vJ q0, .second, vJ q1, .second, vI p2, vI p3, vI v1, vI v2, vI v3, vI v4, vI (0 : Int32), vI (0 : Int32), vI (0 : Int32), vI v1, vI v5, vI j82_l15_10, vI j82_l16_11, vI v15, vI j119_l18_20, vI j119_l19_21, vI v25, vI (3 : Int32), vR b28, vR b224, vR b241, vI (1 : Int32)] [(.int (1 : Int32))])) _
      refine XS.istore X298.here hx rfl (hb hby at_422) rfl (l' := #[vJ q0, .second, vJ q1, .second, vI p2, vI p3, vI v1, vI v2, vI v3, vI v4, vI (0 : Int32), vI (0 : Int32), vI (0 : Int32), vI v1, vI v5, vI j82_l15_10, vI j82_l16_11, vI v15, vI j119_l18_20, vI j119_l19_21, vI v25, vI (3 : Int32), vR b28, vR b224, vR b241, vI (1 : Int32)]) rfl ?_
      refine XS.iload X298.here hx rfl (hb hby at_424) rfl ?_
      refine XS.iconst X298.here hx rfl (hb hby at_426) ?_
      show Steps p.tables e below (T298.setTop (mkF m 427 #[vJ q0, .second, vJ q1, .second, vI p2, vI p3, vI v1, vI v2, vI v3, vI v4, vI (0 : Int32), vI (0 : Int32), vI (0 : Int32), vI v1, vI v5, vI j82_l15_10, vI j82_l16_11, vI v15, vI j119_l18_20, vI j119_l19_21, vI v25, vI (3 : Int32), vR b28, vR b224, vR b241, vI (1 : Int32)] [(.int (3 : Int32)), (.int (3 : Int32))])) _
      refine XS.icmpYes X298.here hx rfl (pc0 := 427) (pc' := 463) rfl (hb hby at_427) rfl (flt (by decide : ¬ ((3 : Int32) < (3 : Int32)))).2.2.2 (by decide) (by decide) ?_
      refine XS.iload X298.here hx rfl (hb hby at_463) rfl ?_
      exact k)
    obtain ⟨fs, hr, hrun, hended, hW, hsame⟩ := X298.leave (v := some (.int (1 : Int32))) (fun h => by rw [Bd.returns] at h; cases h)
    exact ⟨_, _, pre300.fin hS0 (retN X298 hx (t := .boolean) Bd.returns (by simp) (hb hby at_465) hr), hrun, hended, _, _, rfl, (by
      show Q0 Z q0 q1 p2 p3 h0 n0 _ T298.heap _
      rw [eq298]
      exact ⟨rfl, N298⟩), ⟨_, rfl⟩, hW, hsame.mono (by decide) (by decide)⟩
  · skip
    have pre301 : Go p.tables e below S0 T52 (mkF m 203 #[vJ q0, .second, vJ q1, .second, vI p2, vI p3, vI v1, vI v2, vI v3, vI v4, vI (0 : Int32), vI (0 : Int32), vI (0 : Int32), vI v1, vI v5, vI j82_l15_10, vI j82_l16_11, vI v15, vI j119_l18_20, vI j119_l19_21, vI v25, vI (4 : Int32), vR b28, .unset, .unset, .unset] [(.int (4 : Int32))]) := fun t k => pre52 t (by
      refine XS.iload X52.here hx rfl (hb hby at_201) rfl ?_
      exact k)
    obtain ⟨T302, h302, kA302, X302, e302, E302, A302, st302⟩ := newP X52 hx hZ (hw _ (List.mem_of_getElem? (i := 4) rfl)) e52 (g := (mkF m 203 #[vJ q0, .second, vJ q1, .second, vI p2, vI p3, vI v1, vI v2, vI v3, vI v4, vI (0 : Int32), vI (0 : Int32), vI (0 : Int32), vI v1, vI v5, vI j82_l15_10, vI j82_l16_11, vI v15, vI j119_l18_20, vI j119_l19_21, vI v25, vI (4 : Int32), vR b28, .unset, .unset, .unset] [(.int (4 : Int32))])) rfl (hb hby at_203) rfl (by decide) (cap := 4) (by decide) (by decide) (by decide) (by decide)
    obtain ⟨b302, g302⟩ : ∃ z, z = h52.size := ⟨_, rfl⟩
    rw [← g302] at A302 st302
    have pre302 : Go p.tables e below S0 T302 (mkF m 205 #[vJ q0, .second, vJ q1, .second, vI p2, vI p3, vI v1, vI v2, vI v3, vI v4, vI (0 : Int32), vI (0 : Int32), vI (0 : Int32), vI v1, vI v5, vI j82_l15_10, vI j82_l16_11, vI v15, vI j119_l18_20, vI j119_l19_21, vI v25, vI (4 : Int32), vR b28, .unset, .unset, .unset] [(.ref b302)]) := fun t k => pre301 t (st302 t k)
    have ne303 : b28 ≠ b302 := Nat.ne_of_lt (Nat.lt_of_lt_of_le av52.lt (Nat.le_of_eq g302.symm))
    have bo302 : n0 ≤ b302 := Nat.le_trans zz54 (Nat.le_of_eq g302.symm)
    have f304_1 := av52.ext E302
    have zz305 : n0 ≤ h302.size := Nat.le_trans zz54 E302.1
    have av302 : Arv Z h302 b302 kA302 .int (4 : Int32) [(.int (0 : Int32)), (.int (0 : Int32)), (.int (0 : Int32)), (.int (0 : Int32))] (.int (0 : Int32)) := (Arv.new A302 (by decide)).pad (pad_rep [] (.int (0 : Int32)) 4)
    have pre306 : Go p.tables e below S0 T302 (mkF m 216 #[vJ q0, .second, vJ q1, .second, vI p2, vI p3, vI v1, vI v2, vI v3, vI v4, vI (0 : Int32), vI (0 : Int32), vI (0 : Int32), vI v1, vI v5, vI j82_l15_10, vI j82_l16_11, vI v15, vI j119_l18_20, vI j119_l19_21, vI v25, vI (4 : Int32), vR b28, vR b302, .unset, .unset] [(.int (-1 : Int32)), (.int (0 : Int32)), (.ref b302)]) := fun t k => pre302 t (by
      refine XS.astore X302.here hx rfl (hb hby at_205) rfl rfl (l' := #[vJ q0, .second, vJ q1, .second, vI p2, vI p3, vI v1, vI v2, vI v3, vI v4, vI (0 : Int32), vI (0 : Int32), vI (0 : Int32), vI v1, vI v5, vI j82_l15_10, vI j82_l16_11, vI v15, vI j119_l18_20, vI j119_l19_21, vI v25, vI (4 : Int32), vR b28, vR b302, .unset, .unset]) rfl ?_
      refine XS.iload X302.here hx rfl (hb hby at_207) rfl ?_
      refine XS.ifNo X302.here hx rfl (hb hby at_209) rfl ((if0 _ _).trans (tlt (by decide : (0 : Int32) < (4 : Int32))).2.2.2) ?_
      show Steps p.tables e below (T302.setTop (mkF m 212 #[vJ q0, .second, vJ q1, .second, vI p2, vI p3, vI v1, vI v2, vI v3, vI v4, vI (0 : Int32), vI (0 : Int32), vI (0 : Int32), vI v1, vI v5, vI j82_l15_10, vI j82_l16_11, vI v15, vI j119_l18_20, vI j119_l19_21, vI v25, vI (4 : Int32), vR b28, vR b302, .unset, .unset] [])) _
      refine XS.aload X302.here hx rfl (hb hby at_212) rfl rfl ?_
      refine XS.iconst X302.here hx rfl (hb hby at_214) ?_
      refine XS.iconst X302.here hx rfl (hb hby at_215) ?_
      show Steps p.tables e below (T302.setTop (mkF m 216 #[vJ q0, .second, vJ q1, .second, vI p2, vI p3, vI v1, vI v2, vI v3, vI v4, vI (0 : Int32), vI (0 : Int32), vI (0 : Int32), vI v1, vI v5, vI j82_l15_10, vI j82_l16_11, vI v15, vI j119_l18_20, vI j119_l19_21, vI v25, vI (4 : Int32), vR b28, vR b302, .unset, .unset] [(.int (-1 : Int32)), (.int (0 : Int32)), (.ref b302)])) _
      exact k)
    obtain ⟨cl307, Ar307, q307, S307, M307, H307, G307⟩ := id av302
    have in307 : ¬ ((0 : Int32) < 0 ∨ cl307.slots.size ≤ ((0 : Int32)).toNatClampNeg) := inb_of S307 ⟨by decide, by decide⟩
    obtain ⟨T307, h307, X307, e307, W307, st307⟩ := stI X302 hx hZ e302 Ar307 (j := (0 : Int32)) in307 (g := (mkF m 216 #[vJ q0, .second, vJ q1, .second, vI p2, vI p3, vI v1, vI v2, vI v3, vI v4, vI (0 : Int32), vI (0 : Int32), vI (0 : Int32), vI v1, vI v5, vI j82_l15_10, vI j82_l16_11, vI v15, vI j119_l18_20, vI j119_l19_21, vI v25, vI (4 : Int32), vR b28, vR b302, .unset, .unset] [(.int (-1 : Int32)), (.int (0 : Int32)), (.ref b302)])) rfl rfl (hb hby at_216)
    have pre307 : Go p.tables e below S0 T307 (mkF m 217 #[vJ q0, .second, vJ q1, .second, vI p2, vI p3, vI v1, vI v2, vI v3, vI v4, vI (0 : Int32), vI (0 : Int32), vI (0 : Int32), vI v1, vI v5, vI j82_l15_10, vI j82_l16_11, vI v15, vI j119_l18_20, vI j119_l19_21, vI v25, vI (4 : Int32), vR b28, vR b302, .unset, .unset] []) := fun t k => pre306 t (st307 t k)
    obtain ⟨lo307, N307, X307⟩ : ∃ lo, Fr n0 lo ∧ Stand p l e room_1 s m #[(.long q0), (.long q1), (.int p2), (.int p3)] below meth c T307 lo 2 8 := ⟨_, Fr.snoc X307 N52 bo302, X307⟩
    have av307 : Arv Z h307 b302 kA302 .int (4 : Int32) [(.int (-1 : Int32)), (.int (0 : Int32)), (.int (0 : Int32)), (.int (0 : Int32))] (.int (0 : Int32)) := Arv.set Ar307 q307 S307 M307 H307 G307 rfl W307 0 rfl (Nat.le_of_ble_eq_true rfl)
    have f308_1 := f304_1.other W307 ne303
    have zz309 : n0 ≤ h307.size := Nat.le_trans zz305 (Keep.of_wr W307).1
    have pre310 : Go p.tables e below S0 T307 (mkF m 227 #[vJ q0, .second, vJ q1, .second, vI p2, vI p3, vI v1, vI v2, vI v3, vI v4, vI (0 : Int32), vI (0 : Int32), vI (0 : Int32), vI v1, vI v5, vI j82_l15_10, vI j82_l16_11, vI v15, vI j119_l18_20, vI j119_l19_21, vI v25, vI (4 : Int32), vR b28, vR b302, .unset, .unset] [(.int (-1 : Int32)), (.int (1 : Int32)), (.ref b302)]) := fun t k => pre307 t (by
      refine XS.iload X307.here hx rfl (hb hby at_217) rfl ?_
      refine XS.iconst X307.here hx rfl (hb hby at_219) ?_
      refine XS.icmpNo X307.here hx rfl (hb hby at_220) rfl (tlt (by decide : (1 : Int32) < (4 : Int32))).2.2.2 ?_
      show Steps p.tables e below (T307.setTop (mkF m 223 #[vJ q0, .second, vJ q1, .second, vI p2, vI p3, vI v1, vI v2, vI v3, vI v4, vI (0 : Int32), vI (0 : Int32), vI (0 : Int32), vI v1, vI v5, vI j82_l15_10, vI j82_l16_11, vI v15, vI j119_l18_20, vI j119_l19_21, vI v25, vI (4 : Int32), vR b28, vR b302, .unset, .unset] [])) _
      refine XS.aload X307.here hx rfl (hb hby at_223) rfl rfl ?_
      refine XS.iconst X307.here hx rfl (hb hby at_225) ?_
      refine XS.iconst X307.here hx rfl (hb hby at_226) ?_
      show Steps p.tables e below (T307.setTop (mkF m 227 #[vJ q0, .second, vJ q1, .second, vI p2, vI p3, vI v1, vI v2, vI v3, vI v4, vI (0 : Int32), vI (0 : Int32), vI (0 : Int32), vI v1, vI v5, vI j82_l15_10, vI j82_l16_11, vI v15, vI j119_l18_20, vI j119_l19_21, vI v25, vI (4 : Int32), vR b28, vR b302, .unset, .unset] [(.int (-1 : Int32)), (.int (1 : Int32)), (.ref b302)])) _
      exact k)
    obtain ⟨cl311, Ar311, q311, S311, M311, H311, G311⟩ := id av307
    have in311 : ¬ ((1 : Int32) < 0 ∨ cl311.slots.size ≤ ((1 : Int32)).toNatClampNeg) := inb_of S311 ⟨by decide, by decide⟩
    obtain ⟨T311, h311, X311, e311, W311, st311⟩ := stI X307 hx hZ e307 Ar311 (j := (1 : Int32)) in311 (g := (mkF m 227 #[vJ q0, .second, vJ q1, .second, vI p2, vI p3, vI v1, vI v2, vI v3, vI v4, vI (0 : Int32), vI (0 : Int32), vI (0 : Int32), vI v1, vI v5, vI j82_l15_10, vI j82_l16_11, vI v15, vI j119_l18_20, vI j119_l19_21, vI v25, vI (4 : Int32), vR b28, vR b302, .unset, .unset] [(.int (-1 : Int32)), (.int (1 : Int32)), (.ref b302)])) rfl rfl (hb hby at_227)
    have pre311 : Go p.tables e below S0 T311 (mkF m 228 #[vJ q0, .second, vJ q1, .second, vI p2, vI p3, vI v1, vI v2, vI v3, vI v4, vI (0 : Int32), vI (0 : Int32), vI (0 : Int32), vI v1, vI v5, vI j82_l15_10, vI j82_l16_11, vI v15, vI j119_l18_20, vI j119_l19_21, vI v25, vI (4 : Int32), vR b28, vR b302, .unset, .unset] []) := fun t k => pre310 t (st311 t k)
    obtain ⟨lo311, N311, X311⟩ : ∃ lo, Fr n0 lo ∧ Stand p l e room_1 s m #[(.long q0), (.long q1), (.int p2), (.int p3)] below meth c T311 lo 2 8 := ⟨_, Fr.snoc X311 N307 bo302, X311⟩
    have av311 : Arv Z h311 b302 kA302 .int (4 : Int32) [(.int (-1 : Int32)), (.int (-1 : Int32)), (.int (0 : Int32)), (.int (0 : Int32))] (.int (0 : Int32)) := Arv.set Ar311 q311 S311 M311 H311 G311 rfl W311 1 rfl (Nat.le_of_ble_eq_true rfl)
    have f312_1 := f308_1.other W311 ne303
    have zz313 : n0 ≤ h311.size := Nat.le_trans zz309 (Keep.of_wr W311).1
    have pre314 : Go p.tables e below S0 T311 (mkF m 238 #[vJ q0, .second, vJ q1, .second, vI p2, vI p3, vI v1, vI v2, vI v3, vI v4, vI (0 : Int32), vI (0 : Int32), vI (0 : Int32), vI v1, vI v5, vI j82_l15_10, vI j82_l16_11, vI v15, vI j119_l18_20, vI j119_l19_21, vI v25, vI (4 : Int32), vR b28, vR b302, .unset, .unset] [(.int (-1 : Int32)), (.int (2 : Int32)), (.ref b302)]) := fun t k => pre311 t (by
      refine XS.iload X311.here hx rfl (hb hby at_228) rfl ?_
      refine XS.iconst X311.here hx rfl (hb hby at_230) ?_
      refine XS.icmpNo X311.here hx rfl (hb hby at_231) rfl (tlt (by decide : (2 : Int32) < (4 : Int32))).2.2.2 ?_
      show Steps p.tables e below (T311.setTop (mkF m 234 #[vJ q0, .second, vJ q1, .second, vI p2, vI p3, vI v1, vI v2, vI v3, vI v4, vI (0 : Int32), vI (0 : Int32), vI (0 : Int32), vI v1, vI v5, vI j82_l15_10, vI j82_l16_11, vI v15, vI j119_l18_20, vI j119_l19_21, vI v25, vI (4 : Int32), vR b28, vR b302, .unset, .unset] [])) _
      refine XS.aload X311.here hx rfl (hb hby at_234) rfl rfl ?_
      refine XS.iconst X311.here hx rfl (hb hby at_236) ?_
      refine XS.iconst X311.here hx rfl (hb hby at_237) ?_
      show Steps p.tables e below (T311.setTop (mkF m 238 #[vJ q0, .second, vJ q1, .second, vI p2, vI p3, vI v1, vI v2, vI v3, vI v4, vI (0 : Int32), vI (0 : Int32), vI (0 : Int32), vI v1, vI v5, vI j82_l15_10, vI j82_l16_11, vI v15, vI j119_l18_20, vI j119_l19_21, vI v25, vI (4 : Int32), vR b28, vR b302, .unset, .unset] [(.int (-1 : Int32)), (.int (2 : Int32)), (.ref b302)])) _
      exact k)
    obtain ⟨cl315, Ar315, q315, S315, M315, H315, G315⟩ := id av311
    have in315 : ¬ ((2 : Int32) < 0 ∨ cl315.slots.size ≤ ((2 : Int32)).toNatClampNeg) := inb_of S315 ⟨by decide, by decide⟩
    obtain ⟨T315, h315, X315, e315, W315, st315⟩ := stI X311 hx hZ e311 Ar315 (j := (2 : Int32)) in315 (g := (mkF m 238 #[vJ q0, .second, vJ q1, .second, vI p2, vI p3, vI v1, vI v2, vI v3, vI v4, vI (0 : Int32), vI (0 : Int32), vI (0 : Int32), vI v1, vI v5, vI j82_l15_10, vI j82_l16_11, vI v15, vI j119_l18_20, vI j119_l19_21, vI v25, vI (4 : Int32), vR b28, vR b302, .unset, .unset] [(.int (-1 : Int32)), (.int (2 : Int32)), (.ref b302)])) rfl rfl (hb hby at_238)
    have pre315 : Go p.tables e below S0 T315 (mkF m 239 #[vJ q0, .second, vJ q1, .second, vI p2, vI p3, vI v1, vI v2, vI v3, vI v4, vI (0 : Int32), vI (0 : Int32), vI (0 : Int32), vI v1, vI v5, vI j82_l15_10, vI j82_l16_11, vI v15, vI j119_l18_20, vI j119_l19_21, vI v25, vI (4 : Int32), vR b28, vR b302, .unset, .unset] []) := fun t k => pre314 t (st315 t k)
    obtain ⟨lo315, N315, X315⟩ : ∃ lo, Fr n0 lo ∧ Stand p l e room_1 s m #[(.long q0), (.long q1), (.int p2), (.int p3)] below meth c T315 lo 2 8 := ⟨_, Fr.snoc X315 N311 bo302, X315⟩
    have av315 : Arv Z h315 b302 kA302 .int (4 : Int32) [(.int (-1 : Int32)), (.int (-1 : Int32)), (.int (-1 : Int32)), (.int (0 : Int32))] (.int (0 : Int32)) := Arv.set Ar315 q315 S315 M315 H315 G315 rfl W315 2 rfl (Nat.le_of_ble_eq_true rfl)
    have f316_1 := f312_1.other W315 ne303
    have zz317 : n0 ≤ h315.size := Nat.le_trans zz313 (Keep.of_wr W315).1
    have pre318 : Go p.tables e below S0 T315 (mkF m 249 #[vJ q0, .second, vJ q1, .second, vI p2, vI p3, vI v1, vI v2, vI v3, vI v4, vI (0 : Int32), vI (0 : Int32), vI (0 : Int32), vI v1, vI v5, vI j82_l15_10, vI j82_l16_11, vI v15, vI j119_l18_20, vI j119_l19_21, vI v25, vI (4 : Int32), vR b28, vR b302, .unset, .unset] [(.int (-1 : Int32)), (.int (3 : Int32)), (.ref b302)]) := fun t k => pre315 t (by
      refine XS.iload X315.here hx rfl (hb hby at_239) rfl ?_
      refine XS.iconst X315.here hx rfl (hb hby at_241) ?_
      refine XS.icmpNo X315.here hx rfl (hb hby at_242) rfl (tlt (by decide : (3 : Int32) < (4 : Int32))).2.2.2 ?_
      show Steps p.tables e below (T315.setTop (mkF m 245 #[vJ q0, .second, vJ q1, .second, vI p2, vI p3, vI v1, vI v2, vI v3, vI v4, vI (0 : Int32), vI (0 : Int32), vI (0 : Int32), vI v1, vI v5, vI j82_l15_10, vI j82_l16_11, vI v15, vI j119_l18_20, vI j119_l19_21, vI v25, vI (4 : Int32), vR b28, vR b302, .unset, .unset] [])) _
      refine XS.aload X315.here hx rfl (hb hby at_245) rfl rfl ?_
      refine XS.iconst X315.here hx rfl (hb hby at_247) ?_
      refine XS.iconst X315.here hx rfl (hb hby at_248) ?_
      show Steps p.tables e below (T315.setTop (mkF m 249 #[vJ q0, .second, vJ q1, .second, vI p2, vI p3, vI v1, vI v2, vI v3, vI v4, vI (0 : Int32), vI (0 : Int32), vI (0 : Int32), vI v1, vI v5, vI j82_l15_10, vI j82_l16_11, vI v15, vI j119_l18_20, vI j119_l19_21, vI v25, vI (4 : Int32), vR b28, vR b302, .unset, .unset] [(.int (-1 : Int32)), (.int (3 : Int32)), (.ref b302)])) _
      exact k)
    obtain ⟨cl319, Ar319, q319, S319, M319, H319, G319⟩ := id av315
    have in319 : ¬ ((3 : Int32) < 0 ∨ cl319.slots.size ≤ ((3 : Int32)).toNatClampNeg) := inb_of S319 ⟨by decide, by decide⟩
    obtain ⟨T319, h319, X319, e319, W319, st319⟩ := stI X315 hx hZ e315 Ar319 (j := (3 : Int32)) in319 (g := (mkF m 249 #[vJ q0, .second, vJ q1, .second, vI p2, vI p3, vI v1, vI v2, vI v3, vI v4, vI (0 : Int32), vI (0 : Int32), vI (0 : Int32), vI v1, vI v5, vI j82_l15_10, vI j82_l16_11, vI v15, vI j119_l18_20, vI j119_l19_21, vI v25, vI (4 : Int32), vR b28, vR b302, .unset, .unset] [(.int (-1 : Int32)), (.int (3 : Int32)), (.ref b302)])) rfl rfl (hb hby at_249)
    have pre319 : Go p.tables e below S0 T319 (mkF m 250 #[vJ q0, .second, vJ q1, .second, vI p2, vI p3, vI v1, vI v2, vI v3, vI v4, vI (0 : Int32), vI (0 : Int32), vI (0 : Int32), vI v1, vI v5, vI j82_l15_10, vI j82_l16_11, vI v15, vI j119_l18_20, vI j119_l19_21, vI v25, vI (4 : Int32), vR b28, vR b302, .unset, .unset] []) := fun t k => pre318 t (st319 t k)
    obtain ⟨lo319, N319, X319⟩ : ∃ lo, Fr n0 lo ∧ Stand p l e room_1 s m #[(.long q0), (.long q1), (.int p2), (.int p3)] below meth c T319 lo 2 8 := ⟨_, Fr.snoc X319 N315 bo302, X319⟩
    have av319 : Arv Z h319 b302 kA302 .int (4 : Int32) [(.int (-1 : Int32)), (.int (-1 : Int32)), (.int (-1 : Int32)), (.int (-1 : Int32))] (.int (0 : Int32)) := Arv.set Ar319 q319 S319 M319 H319 G319 rfl W319 3 rfl (Nat.le_of_ble_eq_true rfl)
    have f320_1 := f316_1.other W319 ne303
    have zz321 : n0 ≤ h319.size := Nat.le_trans zz317 (Keep.of_wr W319).1
    obtain ⟨T322, h322, X322, e322, E322, A322, D322, -, st322⟩ := newO X319 hx hZ hown (hw _ (List.mem_of_getElem? (i := 5) rfl)) (hw _ (List.mem_of_getElem? (i := 6) rfl)) (hw _ (List.mem_of_getElem? (i := 7) rfl)) e319 (g := (mkF m 250 #[vJ q0, .second, vJ q1, .second, vI p2, vI p3, vI v1, vI v2, vI v3, vI v4, vI (0 : Int32), vI (0 : Int32), vI (0 : Int32), vI v1, vI v5, vI j82_l15_10, vI j82_l16_11, vI v15, vI j119_l18_20, vI j119_l19_21, vI v25, vI (4 : Int32), vR b28, vR b302, .unset, .unset] [])) rfl (hb hby at_250) (by decide) (by decide)
    obtain ⟨b322, g322⟩ : ∃ z, z = h319.size := ⟨_, rfl⟩
    rw [← g322] at A322 D322 st322
    have pre322 : Go p.tables e below S0 T322 (mkF m 253 #[vJ q0, .second, vJ q1, .second, vI p2, vI p3, vI v1, vI v2, vI v3, vI v4, vI (0 : Int32), vI (0 : Int32), vI (0 : Int32), vI v1, vI v5, vI j82_l15_10, vI j82_l16_11, vI v15, vI j119_l18_20, vI j119_l19_21, vI v25, vI (4 : Int32), vR b28, vR b302, .unset, .unset] [(.ref b322)]) := fun t k => pre319 t (st322 t k)
    have ne323 : b28 ≠ b322 := Nat.ne_of_lt (Nat.lt_of_lt_of_le f320_1.lt (Nat.le_of_eq g322.symm))
    have ne324 : b302 ≠ b322 := Nat.ne_of_lt (Nat.lt_of_lt_of_le av319.lt (Nat.le_of_eq g322.symm))
    have bo322 : n0 ≤ b322 := Nat.le_trans zz321 (Nat.le_of_eq g322.symm)
    have f325_1 := f320_1.ext E322
    have f325_2 := av319.ext E322
    have zz326 : n0 ≤ h322.size := Nat.le_trans zz321 E322.1
    have fn322_word : Fld Z h322 b322 "com/example/garantia/garantia/engine/StateLayout" "word" "[I" .null := D322 (Or.inr (hw _ (List.mem_of_getElem? (i := 15) rfl))) (ty := (.array .int)) (by decide)
    have fn322_shift : Fld Z h322 b322 "com/example/garantia/garantia/engine/StateLayout" "shift" "[I" .null := D322 (Or.inr (hw _ (List.mem_of_getElem? (i := 17) rfl))) (ty := (.array .int)) (by decide)
    have fn322_mask : Fld Z h322 b322 "com/example/garantia/garantia/engine/StateLayout" "mask" "[J" .null := D322 (Or.inr (hw _ (List.mem_of_getElem? (i := 19) rfl))) (ty := (.array .long)) (by decide)
    have fn322_others : Fld Z h322 b322 "com/example/garantia/garantia/engine/StateLayout" "others" "[J" .null := D322 (Or.inr (hw _ (List.mem_of_getElem? (i := 21) rfl))) (ty := (.array .long)) (by decide)
    have fn322_words : Fld Z h322 b322 "com/example/garantia/garantia/engine/StateLayout" "words" "I" (.int (0 : Int32)) := D322 (Or.inr (hw _ (List.mem_of_getElem? (i := 24) rfl))) (ty := .int) (by decide)
    have fn322_narrow : Fld Z h322 b322 "com/example/garantia/garantia/engine/StateLayout" "narrow" "Z" (.int (0 : Int32)) := D322 (Or.inr (hw _ (List.mem_of_getElem? (i := 26) rfl))) (ty := .boolean) (by decide)
    have pre327 : Go p.tables e below S0 T322 (mkF m 255 #[vJ q0, .second, vJ q1, .second, vI p2, vI p3, vI v1, vI v2, vI v3, vI v4, vI (0 : Int32), vI (0 : Int32), vI (0 : Int32), vI v1, vI v5, vI j82_l15_10, vI j82_l16_11, vI v15, vI j119_l18_20, vI j119_l19_21, vI v25, vI (4 : Int32), vR b28, vR b302, .unset, .unset] [(.int (4 : Int32)), (.ref b322), (.ref b322)]) := fun t k => pre322 t (by
      refine XS.dup X322.here hx rfl (hb hby at_253) rfl rfl ?_
      refine XS.iconst X322.here hx rfl (hb hby at_254) ?_
      exact k)
    obtain ⟨T328, h328, kA328, X328, e328, E328, A328, st328⟩ := newP X322 hx hZ (hw _ (List.mem_of_getElem? (i := 4) rfl)) e322 (g := (mkF m 255 #[vJ q0, .second, vJ q1, .second, vI p2, vI p3, vI v1, vI v2, vI v3, vI v4, vI (0 : Int32), vI (0 : Int32), vI (0 : Int32), vI v1, vI v5, vI j82_l15_10, vI j82_l16_11, vI v15, vI j119_l18_20, vI j119_l19_21, vI v25, vI (4 : Int32), vR b28, vR b302, .unset, .unset] [(.int (4 : Int32)), (.ref b322), (.ref b322)])) rfl (hb hby at_255) rfl (by decide) (cap := 4) (by decide) (by decide) (by decide) (by decide)
    obtain ⟨b328, g328⟩ : ∃ z, z = h322.size := ⟨_, rfl⟩
    rw [← g328] at A328 st328
    have pre328 : Go p.tables e below S0 T328 (mkF m 257 #[vJ q0, .second, vJ q1, .second, vI p2, vI p3, vI v1, vI v2, vI v3, vI v4, vI (0 : Int32), vI (0 : Int32), vI (0 : Int32), vI v1, vI v5, vI j82_l15_10, vI j82_l16_11, vI v15, vI j119_l18_20, vI j119_l19_21, vI v25, vI (4 : Int32), vR b28, vR b302, .unset, .unset] [(.ref b328), (.ref b322), (.ref b322)]) := fun t k => pre327 t (st328 t k)
    have ne329 : b28 ≠ b328 := Nat.ne_of_lt (Nat.lt_of_lt_of_le f325_1.lt (Nat.le_of_eq g328.symm))
    have ne330 : b302 ≠ b328 := Nat.ne_of_lt (Nat.lt_of_lt_of_le f325_2.lt (Nat.le_of_eq g328.symm))
    have ne331 : b322 ≠ b328 := Nat.ne_of_lt (Nat.lt_of_lt_of_le A322.lt (Nat.le_of_eq g328.symm))
    have bo328 : n0 ≤ b328 := Nat.le_trans zz326 (Nat.le_of_eq g328.symm)
    have f332_1 := f325_1.ext E328
    have f332_2 := f325_2.ext E328
    have f332_3 := Exa.ext E328 A322
    have f332_4 := Fld.ext E328 fn322_word
    have f332_5 := Fld.ext E328 fn322_shift
    have f332_6 := Fld.ext E328 fn322_mask
    have f332_7 := Fld.ext E328 fn322_others
    have f332_8 := Fld.ext E328 fn322_words
    have f332_9 := Fld.ext E328 fn322_narrow
    have zz333 : n0 ≤ h328.size := Nat.le_trans zz326 E328.1
    have av328 : Arv Z h328 b328 kA328 .int (4 : Int32) [(.int (0 : Int32)), (.int (0 : Int32)), (.int (0 : Int32)), (.int (0 : Int32))] (.int (0 : Int32)) := (Arv.new A328 (by decide)).pad (pad_rep [] (.int (0 : Int32)) 4)
    have pre334 : Go p.tables e below S0 T328 (mkF m 261 #[vJ q0, .second, vJ q1, .second, vI p2, vI p3, vI v1, vI v2, vI v3, vI v4, vI (0 : Int32), vI (0 : Int32), vI (0 : Int32), vI v1, vI v5, vI j82_l15_10, vI j82_l16_11, vI v15, vI j119_l18_20, vI j119_l19_21, vI v25, vI (4 : Int32), vR b28, vR b302, .unset, .unset] [(.int v1), (.int (0 : Int32)), (.ref b328), (.ref b328), (.ref b322), (.ref b322)]) := fun t k => pre328 t (by
      refine XS.dup X328.here hx rfl (hb hby at_257) rfl rfl ?_
      refine XS.iconst X328.here hx rfl (hb hby at_258) ?_
      refine XS.iload X328.here hx rfl (hb hby at_259) rfl ?_
      show Steps p.tables e below (T328.setTop (mkF m 261 #[vJ q0, .second, vJ q1, .second, vI p2, vI p3, vI v1, vI v2, vI v3, vI v4, vI (0 : Int32), vI (0 : Int32), vI (0 : Int32), vI v1, vI v5, vI j82_l15_10, vI j82_l16_11, vI v15, vI j119_l18_20, vI j119_l19_21, vI v25, vI (4 : Int32), vR b28, vR b302, .unset, .unset] [(.int v1), (.int (0 : Int32)), (.ref b328), (.ref b328), (.ref b322), (.ref b322)])) _
      exact k)
    obtain ⟨cl335, Ar335, q335, S335, M335, H335, G335⟩ := id av328
    have in335 : ¬ ((0 : Int32) < 0 ∨ cl335.slots.size ≤ ((0 : Int32)).toNatClampNeg) := inb_of S335 ⟨by decide, by decide⟩
    obtain ⟨T335, h335, X335, e335, W335, st335⟩ := stI X328 hx hZ e328 Ar335 (j := (0 : Int32)) in335 (g := (mkF m 261 #[vJ q0, .second, vJ q1, .second, vI p2, vI p3, vI v1, vI v2, vI v3, vI v4, vI (0 : Int32), vI (0 : Int32), vI (0 : Int32), vI v1, vI v5, vI j82_l15_10, vI j82_l16_11, vI v15, vI j119_l18_20, vI j119_l19_21, vI v25, vI (4 : Int32), vR b28, vR b302, .unset, .unset] [(.int v1), (.int (0 : Int32)), (.ref b328), (.ref b328), (.ref b322), (.ref b322)])) rfl rfl (hb hby at_261)
    have pre335 : Go p.tables e below S0 T335 (mkF m 262 #[vJ q0, .second, vJ q1, .second, vI p2, vI p3, vI v1, vI v2, vI v3, vI v4, vI (0 : Int32), vI (0 : Int32), vI (0 : Int32), vI v1, vI v5, vI j82_l15_10, vI j82_l16_11, vI v15, vI j119_l18_20, vI j119_l19_21, vI v25, vI (4 : Int32), vR b28, vR b302, .unset, .unset] [(.ref b328), (.ref b322), (.ref b322)]) := fun t k => pre334 t (st335 t k)
    obtain ⟨lo335, N335, X335⟩ : ∃ lo, Fr n0 lo ∧ Stand p l e room_1 s m #[(.long q0), (.long q1), (.int p2), (.int p3)] below meth c T335 lo 4 18 := ⟨_, Fr.snoc X335 N319 bo328, X335⟩
    have av335 : Arv Z h335 b328 kA328 .int (4 : Int32) [(.int v1), (.int (0 : Int32)), (.int (0 : Int32)), (.int (0 : Int32))] (.int (0 : Int32)) := Arv.set Ar335 q335 S335 M335 H335 G335 rfl W335 0 rfl (Nat.le_of_ble_eq_true rfl)
    have f336_1 := f332_1.other W335 ne329
    have f336_2 := f332_2.other W335 ne330
    have f336_3 := Exa.wr W335 f332_3
    have f336_4 := Fld.other W335 f332_4 (Or.inl ne331)
    have f336_5 := Fld.other W335 f332_5 (Or.inl ne331)
    have f336_6 := Fld.other W335 f332_6 (Or.inl ne331)
    have f336_7 := Fld.other W335 f332_7 (Or.inl ne331)
    have f336_8 := Fld.other W335 f332_8 (Or.inl ne331)
    have f336_9 := Fld.other W335 f332_9 (Or.inl ne331)
    have zz337 : n0 ≤ h335.size := Nat.le_trans zz333 (Keep.of_wr W335).1
    have pre338 : Go p.tables e below S0 T335 (mkF m 266 #[vJ q0, .second, vJ q1, .second, vI p2, vI p3, vI v1, vI v2, vI v3, vI v4, vI (0 : Int32), vI (0 : Int32), vI (0 : Int32), vI v1, vI v5, vI j82_l15_10, vI j82_l16_11, vI v15, vI j119_l18_20, vI j119_l19_21, vI v25, vI (4 : Int32), vR b28, vR b302, .unset, .unset] [(.int v2), (.int (1 : Int32)), (.ref b328), (.ref b328), (.ref b322), (.ref b322)]) := fun t k => pre335 t (by
      refine XS.dup X335.here hx rfl (hb hby at_262) rfl rfl ?_
      refine XS.iconst X335.here hx rfl (hb hby at_263) ?_
      refine XS.iload X335.here hx rfl (hb hby at_264) rfl ?_
      show Steps p.tables e below (T335.setTop (mkF m 266 #[vJ q0, .second, vJ q1, .second, vI p2, vI p3, vI v1, vI v2, vI v3, vI v4, vI (0 : Int32), vI (0 : Int32), vI (0 : Int32), vI v1, vI v5, vI j82_l15_10, vI j82_l16_11, vI v15, vI j119_l18_20, vI j119_l19_21, vI v25, vI (4 : Int32), vR b28, vR b302, .unset, .unset] [(.int v2), (.int (1 : Int32)), (.ref b328), (.ref b328), (.ref b322), (.ref b322)])) _
      exact k)
    obtain ⟨cl339, Ar339, q339, S339, M339, H339, G339⟩ := id av335
    have in339 : ¬ ((1 : Int32) < 0 ∨ cl339.slots.size ≤ ((1 : Int32)).toNatClampNeg) := inb_of S339 ⟨by decide, by decide⟩
    obtain ⟨T339, h339, X339, e339, W339, st339⟩ := stI X335 hx hZ e335 Ar339 (j := (1 : Int32)) in339 (g := (mkF m 266 #[vJ q0, .second, vJ q1, .second, vI p2, vI p3, vI v1, vI v2, vI v3, vI v4, vI (0 : Int32), vI (0 : Int32), vI (0 : Int32), vI v1, vI v5, vI j82_l15_10, vI j82_l16_11, vI v15, vI j119_l18_20, vI j119_l19_21, vI v25, vI (4 : Int32), vR b28, vR b302, .unset, .unset] [(.int v2), (.int (1 : Int32)), (.ref b328), (.ref b328), (.ref b322), (.ref b322)])) rfl rfl (hb hby at_266)
    have pre339 : Go p.tables e below S0 T339 (mkF m 267 #[vJ q0, .second, vJ q1, .second, vI p2, vI p3, vI v1, vI v2, vI v3, vI v4, vI (0 : Int32), vI (0 : Int32), vI (0 : Int32), vI v1, vI v5, vI j82_l15_10, vI j82_l16_11, vI v15, vI j119_l18_20, vI j119_l19_21, vI v25, vI (4 : Int32), vR b28, vR b302, .unset, .unset] [(.ref b328), (.ref b322), (.ref b322)]) := fun t k => pre338 t (st339 t k)
    obtain ⟨lo339, N339, X339⟩ : ∃ lo, Fr n0 lo ∧ Stand p l e room_1 s m #[(.long q0), (.long q1), (.int p2), (.int p3)] below meth c T339 lo 4 18 := ⟨_, Fr.snoc X339 N335 bo328, X339⟩
    have av339 : Arv Z h339 b328 kA328 .int (4 : Int32) [(.int v1), (.int v2), (.int (0 : Int32)), (.int (0 : Int32))] (.int (0 : Int32)) := Arv.set Ar339 q339 S339 M339 H339 G339 rfl W339 1 rfl (Nat.le_of_ble_eq_true rfl)
    have f340_1 := f336_1.other W339 ne329
    have f340_2 := f336_2.other W339 ne330
    have f340_3 := Exa.wr W339 f336_3
    have f340_4 := Fld.other W339 f336_4 (Or.inl ne331)
    have f340_5 := Fld.other W339 f336_5 (Or.inl ne331)
    have f340_6 := Fld.other W339 f336_6 (Or.inl ne331)
    have f340_7 := Fld.other W339 f336_7 (Or.inl ne331)
    have f340_8 := Fld.other W339 f336_8 (Or.inl ne331)
    have f340_9 := Fld.other W339 f336_9 (Or.inl ne331)
    have zz341 : n0 ≤ h339.size := Nat.le_trans zz337 (Keep.of_wr W339).1
    have pre342 : Go p.tables e below S0 T339 (mkF m 271 #[vJ q0, .second, vJ q1, .second, vI p2, vI p3, vI v1, vI v2, vI v3, vI v4, vI (0 : Int32), vI (0 : Int32), vI (0 : Int32), vI v1, vI v5, vI j82_l15_10, vI j82_l16_11, vI v15, vI j119_l18_20, vI j119_l19_21, vI v25, vI (4 : Int32), vR b28, vR b302, .unset, .unset] [(.int v3), (.int (2 : Int32)), (.ref b328), (.ref b328), (.ref b322), (.ref b322)]) := fun t k => pre339 t (by
      refine XS.dup X339.here hx rfl (hb hby at_267) rfl rfl ?_
      refine XS.iconst X339.here hx rfl (hb hby at_268) ?_
      refine XS.iload X339.here hx rfl (hb hby at_269) rfl ?_
      show Steps p.tables e below (T339.setTop (mkF m 271 #[vJ q0, .second, vJ q1, .second, vI p2, vI p3, vI v1, vI v2, vI v3, vI v4, vI (0 : Int32), vI (0 : Int32), vI (0 : Int32), vI v1, vI v5, vI j82_l15_10, vI j82_l16_11, vI v15, vI j119_l18_20, vI j119_l19_21, vI v25, vI (4 : Int32), vR b28, vR b302, .unset, .unset] [(.int v3), (.int (2 : Int32)), (.ref b328), (.ref b328), (.ref b322), (.ref b322)])) _
      exact k)
    obtain ⟨cl343, Ar343, q343, S343, M343, H343, G343⟩ := id av339
    have in343 : ¬ ((2 : Int32) < 0 ∨ cl343.slots.size ≤ ((2 : Int32)).toNatClampNeg) := inb_of S343 ⟨by decide, by decide⟩
    obtain ⟨T343, h343, X343, e343, W343, st343⟩ := stI X339 hx hZ e339 Ar343 (j := (2 : Int32)) in343 (g := (mkF m 271 #[vJ q0, .second, vJ q1, .second, vI p2, vI p3, vI v1, vI v2, vI v3, vI v4, vI (0 : Int32), vI (0 : Int32), vI (0 : Int32), vI v1, vI v5, vI j82_l15_10, vI j82_l16_11, vI v15, vI j119_l18_20, vI j119_l19_21, vI v25, vI (4 : Int32), vR b28, vR b302, .unset, .unset] [(.int v3), (.int (2 : Int32)), (.ref b328), (.ref b328), (.ref b322), (.ref b322)])) rfl rfl (hb hby at_271)
    have pre343 : Go p.tables e below S0 T343 (mkF m 272 #[vJ q0, .second, vJ q1, .second, vI p2, vI p3, vI v1, vI v2, vI v3, vI v4, vI (0 : Int32), vI (0 : Int32), vI (0 : Int32), vI v1, vI v5, vI j82_l15_10, vI j82_l16_11, vI v15, vI j119_l18_20, vI j119_l19_21, vI v25, vI (4 : Int32), vR b28, vR b302, .unset, .unset] [(.ref b328), (.ref b322), (.ref b322)]) := fun t k => pre342 t (st343 t k)
    obtain ⟨lo343, N343, X343⟩ : ∃ lo, Fr n0 lo ∧ Stand p l e room_1 s m #[(.long q0), (.long q1), (.int p2), (.int p3)] below meth c T343 lo 4 18 := ⟨_, Fr.snoc X343 N339 bo328, X343⟩
    have av343 : Arv Z h343 b328 kA328 .int (4 : Int32) [(.int v1), (.int v2), (.int v3), (.int (0 : Int32))] (.int (0 : Int32)) := Arv.set Ar343 q343 S343 M343 H343 G343 rfl W343 2 rfl (Nat.le_of_ble_eq_true rfl)
    have f344_1 := f340_1.other W343 ne329
    have f344_2 := f340_2.other W343 ne330
    have f344_3 := Exa.wr W343 f340_3
    have f344_4 := Fld.other W343 f340_4 (Or.inl ne331)
    have f344_5 := Fld.other W343 f340_5 (Or.inl ne331)
    have f344_6 := Fld.other W343 f340_6 (Or.inl ne331)
    have f344_7 := Fld.other W343 f340_7 (Or.inl ne331)
    have f344_8 := Fld.other W343 f340_8 (Or.inl ne331)
    have f344_9 := Fld.other W343 f340_9 (Or.inl ne331)
    have zz345 : n0 ≤ h343.size := Nat.le_trans zz341 (Keep.of_wr W343).1
    have pre346 : Go p.tables e below S0 T343 (mkF m 276 #[vJ q0, .second, vJ q1, .second, vI p2, vI p3, vI v1, vI v2, vI v3, vI v4, vI (0 : Int32), vI (0 : Int32), vI (0 : Int32), vI v1, vI v5, vI j82_l15_10, vI j82_l16_11, vI v15, vI j119_l18_20, vI j119_l19_21, vI v25, vI (4 : Int32), vR b28, vR b302, .unset, .unset] [(.int v4), (.int (3 : Int32)), (.ref b328), (.ref b328), (.ref b322), (.ref b322)]) := fun t k => pre343 t (by
      refine XS.dup X343.here hx rfl (hb hby at_272) rfl rfl ?_
      refine XS.iconst X343.here hx rfl (hb hby at_273) ?_
      refine XS.iload X343.here hx rfl (hb hby at_274) rfl ?_
      show Steps p.tables e below (T343.setTop (mkF m 276 #[vJ q0, .second, vJ q1, .second, vI p2, vI p3, vI v1, vI v2, vI v3, vI v4, vI (0 : Int32), vI (0 : Int32), vI (0 : Int32), vI v1, vI v5, vI j82_l15_10, vI j82_l16_11, vI v15, vI j119_l18_20, vI j119_l19_21, vI v25, vI (4 : Int32), vR b28, vR b302, .unset, .unset] [(.int v4), (.int (3 : Int32)), (.ref b328), (.ref b328), (.ref b322), (.ref b322)])) _
      exact k)
    obtain ⟨cl347, Ar347, q347, S347, M347, H347, G347⟩ := id av343
    have in347 : ¬ ((3 : Int32) < 0 ∨ cl347.slots.size ≤ ((3 : Int32)).toNatClampNeg) := inb_of S347 ⟨by decide, by decide⟩
    obtain ⟨T347, h347, X347, e347, W347, st347⟩ := stI X343 hx hZ e343 Ar347 (j := (3 : Int32)) in347 (g := (mkF m 276 #[vJ q0, .second, vJ q1, .second, vI p2, vI p3, vI v1, vI v2, vI v3, vI v4, vI (0 : Int32), vI (0 : Int32), vI (0 : Int32), vI v1, vI v5, vI j82_l15_10, vI j82_l16_11, vI v15, vI j119_l18_20, vI j119_l19_21, vI v25, vI (4 : Int32), vR b28, vR b302, .unset, .unset] [(.int v4), (.int (3 : Int32)), (.ref b328), (.ref b328), (.ref b322), (.ref b322)])) rfl rfl (hb hby at_276)
    have pre347 : Go p.tables e below S0 T347 (mkF m 277 #[vJ q0, .second, vJ q1, .second, vI p2, vI p3, vI v1, vI v2, vI v3, vI v4, vI (0 : Int32), vI (0 : Int32), vI (0 : Int32), vI v1, vI v5, vI j82_l15_10, vI j82_l16_11, vI v15, vI j119_l18_20, vI j119_l19_21, vI v25, vI (4 : Int32), vR b28, vR b302, .unset, .unset] [(.ref b328), (.ref b322), (.ref b322)]) := fun t k => pre346 t (st347 t k)
    obtain ⟨lo347, N347, X347⟩ : ∃ lo, Fr n0 lo ∧ Stand p l e room_1 s m #[(.long q0), (.long q1), (.int p2), (.int p3)] below meth c T347 lo 4 18 := ⟨_, Fr.snoc X347 N343 bo328, X347⟩
    have av347 : Arv Z h347 b328 kA328 .int (4 : Int32) [(.int v1), (.int v2), (.int v3), (.int v4)] (.int (0 : Int32)) := Arv.set Ar347 q347 S347 M347 H347 G347 rfl W347 3 rfl (Nat.le_of_ble_eq_true rfl)
    have f348_1 := f344_1.other W347 ne329
    have f348_2 := f344_2.other W347 ne330
    have f348_3 := Exa.wr W347 f344_3
    have f348_4 := Fld.other W347 f344_4 (Or.inl ne331)
    have f348_5 := Fld.other W347 f344_5 (Or.inl ne331)
    have f348_6 := Fld.other W347 f344_6 (Or.inl ne331)
    have f348_7 := Fld.other W347 f344_7 (Or.inl ne331)
    have f348_8 := Fld.other W347 f344_8 (Or.inl ne331)
    have f348_9 := Fld.other W347 f344_9 (Or.inl ne331)
    have zz349 : n0 ≤ h347.size := Nat.le_trans zz345 (Keep.of_wr W347).1
    obtain ⟨_, _, ⟨T350, qL350, qk350, qn350⟩, -, X350, ⟨Lc350, hQ350, ql350, qy350, qz350⟩, st350⟩ := X347.specialBack hx (y := (⟨"com/example/garantia/garantia/engine/StateLayout", "<init>", "([I)V"⟩ : MethodName)) rfl hown (mvT hZ (hw _ (List.mem_of_getElem? (i := 8) rfl))) (mvT hZ (hw _ (List.mem_of_getElem? (i := 9) rfl))) (mvT hZ (hw _ (List.mem_of_getElem? (i := 10) rfl))) (by decide) (backOf (W := 1) (rm1 l Z A0 hw [] b322 b328 kA328 v1 v2 v3 v4 h347 n0 zz349 f348_3 f348_4 f348_5 f348_6 f348_7 f348_8 f348_9 av347 (Ne.symm ne331) bo322 hw0 hw1 hw2 hw3) hZ (hw _ (List.mem_of_getElem? (i := 10) rfl)) (hw _ (List.mem_of_getElem? (i := 7) rfl)) (by decide) (by decide)) (g := (mkF m 277 #[vJ q0, .second, vJ q1, .second, vI p2, vI p3, vI v1, vI v2, vI v3, vI v4, vI (0 : Int32), vI (0 : Int32), vI (0 : Int32), vI v1, vI v5, vI j82_l15_10, vI j82_l16_11, vI v15, vI j119_l18_20, vI j119_l19_21, vI v25, vI (4 : Int32), vR b28, vR b302, .unset, .unset] [(.ref b328), (.ref b322), (.ref b322)])) rfl (by rw [hml]; rfl) (Steps.refl _) (a := b322) (argsL := [(.ref b328)]) (rest := [(.ref b322)]) (lenOf pd_0 rfl) rfl (by show 2 * 0 + _ ≤ _; exact Nat.le_of_eq rfl) (hb hby at_277) (fun _ _ => ⟨rfl, e347, (by decide : 4 + 4 ≤ _), (by decide : 18 + 16 ≤ _)⟩)
    dsimp only [Pt.U, Pt.locs, Pt.cells, Pt.slots] at X350 ql350 qy350 qz350 st350 hQ350
    replace X350 := X350.more (Nat.le_of_eq qy350) (Nat.le_of_eq qz350)
    obtain ⟨rfl, Nq350, aw_350, as_350, am_350, ao_350, kw_350, ks_350, km_350, ko_350, c2_350, u2_350, c3_350, u3_350, hq350, ho350, hn350, Kq350, nf350_0, nf350_1, nf350_2, nf350_3, nf350_4, nf350_5, nf350_6, nf350_7, nf350_8, nf350_9⟩ := hQ350
    have N350 : Fr n0 qL350 := by rw [ql350]; exact Fr.app N347 Nq350
    have pre350 : Go p.tables e below S0 T350 (mkF m 280 #[vJ q0, .second, vJ q1, .second, vI p2, vI p3, vI v1, vI v2, vI v3, vI v4, vI (0 : Int32), vI (0 : Int32), vI (0 : Int32), vI v1, vI v5, vI j82_l15_10, vI j82_l16_11, vI v15, vI j119_l18_20, vI j119_l19_21, vI v25, vI (4 : Int32), vR b28, vR b302, .unset, .unset] [(.ref b322)]) := fun t k => pre347 t (st350.trans k)
    have f351_1 := f348_1.keep Kq350 (ninS ne323 nin0)
    have f351_2 := f348_2.keep Kq350 (ninS ne324 nin0)
    have f351_3 := av347.keep Kq350 (ninS (Ne.symm ne331) nin0)
    have zz352 : n0 ≤ T350.heap.size := Nat.le_trans zz349 Kq350.1
    have bo350_0 : n0 ≤ aw_350 := Nat.le_trans zz349 ho350.1
    have nn350_0_0 : b28 ≠ aw_350 := Nat.ne_of_lt (Nat.lt_of_lt_of_le f348_1.lt ho350.1)
    have nn350_0_1 : b302 ≠ aw_350 := Nat.ne_of_lt (Nat.lt_of_lt_of_le f348_2.lt ho350.1)
    have nn350_0_2 : b322 ≠ aw_350 := Nat.ne_of_lt (Nat.lt_of_lt_of_le f348_9.lt ho350.1)
    have nn350_0_3 : b328 ≠ aw_350 := Nat.ne_of_lt (Nat.lt_of_lt_of_le av347.lt ho350.1)
    have bo350_1 : n0 ≤ as_350 := Nat.le_trans zz349 ho350.2.1
    have nn350_1_0 : b28 ≠ as_350 := Nat.ne_of_lt (Nat.lt_of_lt_of_le f348_1.lt ho350.2.1)
    have nn350_1_1 : b302 ≠ as_350 := Nat.ne_of_lt (Nat.lt_of_lt_of_le f348_2.lt ho350.2.1)
    have nn350_1_2 : b322 ≠ as_350 := Nat.ne_of_lt (Nat.lt_of_lt_of_le f348_9.lt ho350.2.1)
    have nn350_1_3 : b328 ≠ as_350 := Nat.ne_of_lt (Nat.lt_of_lt_of_le av347.lt ho350.2.1)
    have bo350_2 : n0 ≤ am_350 := Nat.le_trans zz349 ho350.2.2.1
    have nn350_2_0 : b28 ≠ am_350 := Nat.ne_of_lt (Nat.lt_of_lt_of_le f348_1.lt ho350.2.2.1)
    have nn350_2_1 : b302 ≠ am_350 := Nat.ne_of_lt (Nat.lt_of_lt_of_le f348_2.lt ho350.2.2.1)
    have nn350_2_2 : b322 ≠ am_350 := Nat.ne_of_lt (Nat.lt_of_lt_of_le f348_9.lt ho350.2.2.1)
    have nn350_2_3 : b328 ≠ am_350 := Nat.ne_of_lt (Nat.lt_of_lt_of_le av347.lt ho350.2.2.1)
    have bo350_3 : n0 ≤ ao_350 := Nat.le_trans zz349 ho350.2.2.2
    have nn350_3_0 : b28 ≠ ao_350 := Nat.ne_of_lt (Nat.lt_of_lt_of_le f348_1.lt ho350.2.2.2)
    have nn350_3_1 : b302 ≠ ao_350 := Nat.ne_of_lt (Nat.lt_of_lt_of_le f348_2.lt ho350.2.2.2)
    have nn350_3_2 : b322 ≠ ao_350 := Nat.ne_of_lt (Nat.lt_of_lt_of_le f348_9.lt ho350.2.2.2)
    have nn350_3_3 : b328 ≠ ao_350 := Nat.ne_of_lt (Nat.lt_of_lt_of_le av347.lt ho350.2.2.2)
    have pre353 : Go p.tables e below S0 T350 (mkF m 282 #[vJ q0, .second, vJ q1, .second, vI p2, vI p3, vI v1, vI v2, vI v3, vI v4, vI (0 : Int32), vI (0 : Int32), vI (0 : Int32), vI v1, vI v5, vI j82_l15_10, vI j82_l16_11, vI v15, vI j119_l18_20, vI j119_l19_21, vI v25, vI (4 : Int32), vR b28, vR b302, vR b322, .unset] []) := fun t k => pre350 t (by
      refine XS.astore X350.here hx rfl (hb hby at_280) rfl rfl (l' := #[vJ q0, .second, vJ q1, .second, vI p2, vI p3, vI v1, vI v2, vI v3, vI v4, vI (0 : Int32), vI (0 : Int32), vI (0 : Int32), vI v1, vI v5, vI j82_l15_10, vI j82_l16_11, vI v15, vI j119_l18_20, vI j119_l19_21, vI v25, vI (4 : Int32), vR b28, vR b302, vR b322, .unset]) rfl ?_
      exact k)
    obtain rfl : j82_l15_10 = c2_350 := by rw [hj82_12.1, (hq350.1).1, hv5, Int32.zero_add]
    obtain rfl : j82_l16_11 = u2_350 := by rw [hj82_12.2, (hq350.1).2, hv5, Int32.zero_add]
    obtain rfl : j119_l18_20 = c3_350 := by rw [hj119_22.1, (hq350.2).1, hv15]
    obtain rfl : j119_l19_21 = u3_350 := by rw [hj119_22.2, (hq350.2).2, hv15]
    have hp := own_pat4 hw0 hw1 hw2 hw3 (hq350.1) (hq350.2)
    have hc2 : j82_l15_10 = (0 : Int32) ∨ j82_l15_10 = (1 : Int32) := by rcases hp with q | q | q <;> first | exact Or.inl q.1 | exact Or.inr q.1
    have hc3 : j119_l18_20 = (0 : Int32) ∨ j119_l18_20 = (1 : Int32) := by rcases hp with q | q | q <;> first | exact Or.inl q.2.1 | exact Or.inr q.2.1
    have pre354 : Go p.tables e below S0 T350 (mkF m 290 #[vJ q0, .second, vJ q1, .second, vI p2, vI p3, vI v1, vI v2, vI v3, vI v4, vI (0 : Int32), vI (0 : Int32), vI (0 : Int32), vI v1, vI v5, vI j82_l15_10, vI j82_l16_11, vI v15, vI j119_l18_20, vI j119_l19_21, vI v25, vI (4 : Int32), vR b28, vR b302, vR b322, .unset] [(.ref b302), (.int v25), (.ref b28), (.ref b322)]) := fun t k => pre353 t (by
      refine XS.aload X350.here hx rfl (hb hby at_282) rfl rfl ?_
      refine XS.aload X350.here hx rfl (hb hby at_284) rfl rfl ?_
      refine XS.iload X350.here hx rfl (hb hby at_286) rfl ?_
      show Steps p.tables e below (T350.setTop (mkF m 288 #[vJ q0, .second, vJ q1, .second, vI p2, vI p3, vI v1, vI v2, vI v3, vI v4, vI (0 : Int32), vI (0 : Int32), vI (0 : Int32), vI v1, vI v5, vI j82_l15_10, vI j82_l16_11, vI v15, vI j119_l18_20, vI j119_l19_21, vI v25, vI (4 : Int32), vR b28, vR b302, vR b322, .unset] [(.int v25), (.ref b28), (.ref b322)])) _
      refine XS.aload X350.here hx rfl (hb hby at_288) rfl rfl ?_
      exact k)
    obtain ⟨cq355, kq355, qa355, qb355, qc355⟩ := isOf hZ rfl nf350_0
    obtain ⟨_, _, ⟨T355, qL355, qk355, qn355⟩, -, X355, ⟨Lc355, hQ355, ql355, qy355, qz355⟩, st355⟩ := X350.virtualBack hx (y := (⟨"com/example/garantia/garantia/engine/StateLayout", "unpack", "([JI[I)V"⟩ : MethodName)) (z := (⟨"com/example/garantia/garantia/engine/StateLayout", "unpack", "([JI[I)V"⟩ : MethodName)) hown (mvT hZ (hw _ (List.mem_of_getElem? (i := 27) rfl))) (mvT hZ (hw _ (List.mem_of_getElem? (i := 28) rfl))) (notFace_of_selects (args := #[]) (mvT hZ (hw _ (List.mem_of_getElem? (i := 30) rfl)))) (mvT hZ (hw _ (List.mem_of_getElem? (i := 30) rfl))) (mvT hZ (hw _ (List.mem_of_getElem? (i := 29) rfl))) (by decide) (backOf (W := 0) (rm3_4 l Z A0 hw [] b322 b28 v25 b302 aw_350 as_350 am_350 kw_350 ks_350 km_350 kA28 kA302 (0 : Int32) (0 : Int32) j82_l15_10 j119_l18_20 (0 : Int32) ((0 : Int32) + v1) j82_l16_11 j119_l19_21 (((1 : Int64) <<< (v1 &&& 0x3f).toInt64) - (1 : Int64)) (((1 : Int64) <<< (v2 &&& 0x3f).toInt64) - (1 : Int64)) (((1 : Int64) <<< (v3 &&& 0x3f).toInt64) - (1 : Int64)) (((1 : Int64) <<< (v4 &&& 0x3f).toInt64) - (1 : Int64)) (own_putL (v25 + (1 : Int32)) (0 : Int32) q1 (own_putL v25 (0 : Int32) q0 (q0 ^^^ (-1 : Int64)))) (own_putL (v25 + (1 : Int32)) (1 : Int32) q1 (own_putL v25 (1 : Int32) q0 (q1 ^^^ (-1 : Int64)))) (own_putL (v25 + (1 : Int32)) (2 : Int32) q1 (own_putL v25 (2 : Int32) q0 ((q0 ^^^ (-1 : Int64)) ^^^ (6148914691236517205 : Int64)))) (own_putL (v25 + (1 : Int32)) (3 : Int32) q1 (own_putL v25 (3 : Int32) q0 ((q1 ^^^ (-1 : Int64)) ^^^ (3689348814741910323 : Int64)))) (-1 : Int32) (-1 : Int32) (-1 : Int32) (-1 : Int32) T350.heap n0 zz352 nf350_1 nf350_2 nf350_3 nf350_6 nf350_7 nf350_8 f351_1 f351_2 (Ne.symm ne324) (Ne.symm nn350_0_1) (Ne.symm nn350_1_1) (Ne.symm nn350_2_1) ne303 bo302 (own_oc hoff (Or.inl rfl)) (own_oc hoff (Or.inl rfl)) (own_oc hoff hc2) (own_oc hoff hc3)) hZ (hw _ (List.mem_of_getElem? (i := 31) rfl)) (hw _ (List.mem_of_getElem? (i := 7) rfl)) (by decide) (by decide)) qa355 qc355 (g := (mkF m 290 #[vJ q0, .second, vJ q1, .second, vI p2, vI p3, vI v1, vI v2, vI v3, vI v4, vI (0 : Int32), vI (0 : Int32), vI (0 : Int32), vI v1, vI v5, vI j82_l15_10, vI j82_l16_11, vI v15, vI j119_l18_20, vI j119_l19_21, vI v25, vI (4 : Int32), vR b28, vR b302, vR b322, .unset] [(.ref b302), (.int v25), (.ref b28), (.ref b322)])) rfl (by rw [hml]; rfl) (Steps.refl _) (argsL := [(.ref b28), (.int v25), (.ref b302)]) (rest := []) (lenOf pd_1 rfl) rfl (by show 2 * 0 + _ ≤ _; exact Nat.le_of_eq rfl) (hb hby at_290) (fun _ _ => ⟨rfl, rfl, (by decide : 8 + 0 ≤ _), (by decide : 34 + 0 ≤ _)⟩)
    dsimp only [Pt.U, Pt.locs, Pt.cells, Pt.slots] at X355 ql355 qy355 qz355 st355 hQ355
    replace X355 := X355.more (Nat.le_of_eq qy355) (Nat.le_of_eq qz355)
    obtain ⟨rfl, Nq355, r355_0, r355_1, r355_2, r355_3, hR355, Kq355, nf355_0⟩ := hQ355
    have N355 : Fr n0 qL355 := by rw [ql355]; exact Fr.app N350 Nq355
    have pre355 : Go p.tables e below S0 T355 (mkF m 293 #[vJ q0, .second, vJ q1, .second, vI p2, vI p3, vI v1, vI v2, vI v3, vI v4, vI (0 : Int32), vI (0 : Int32), vI (0 : Int32), vI v1, vI v5, vI j82_l15_10, vI j82_l16_11, vI v15, vI j119_l18_20, vI j119_l19_21, vI v25, vI (4 : Int32), vR b28, vR b302, vR b322, .unset] []) := fun t k => pre354 t (st355.trans k)
    have f356_1 := f351_1.keep Kq355 (ninS ne303 nin0)
    have f356_2 := Exa.keep nf350_0 Kq355
    have f356_3 := Fld.keep nf350_1 Kq355 (ninS (Ne.symm ne324) nin0)
    have f356_4 := Fld.keep nf350_2 Kq355 (ninS (Ne.symm ne324) nin0)
    have f356_5 := Fld.keep nf350_3 Kq355 (ninS (Ne.symm ne324) nin0)
    have f356_6 := Fld.keep nf350_4 Kq355 (ninS (Ne.symm ne324) nin0)
    have f356_7 := Fld.keep nf350_5 Kq355 (ninS (Ne.symm ne324) nin0)
    have f356_8 := f351_3.keep Kq355 (ninS (Ne.symm ne330) nin0)
    have f356_9 := nf350_6.keep Kq355 (ninS (Ne.symm nn350_0_1) nin0)
    have f356_10 := nf350_7.keep Kq355 (ninS (Ne.symm nn350_1_1) nin0)
    have f356_11 := nf350_8.keep Kq355 (ninS (Ne.symm nn350_2_1) nin0)
    have f356_12 := nf350_9.keep Kq355 (ninS (Ne.symm nn350_3_1) nin0)
    have zz357 : n0 ≤ T355.heap.size := Nat.le_trans zz352 Kq355.1
    have pre358 : Go p.tables e below S0 T355 (mkF m 295 #[vJ q0, .second, vJ q1, .second, vI p2, vI p3, vI v1, vI v2, vI v3, vI v4, vI (0 : Int32), vI (0 : Int32), vI (0 : Int32), vI v1, vI v5, vI j82_l15_10, vI j82_l16_11, vI v15, vI j119_l18_20, vI j119_l19_21, vI v25, vI (4 : Int32), vR b28, vR b302, vR b322, .unset] [(.ref b302)]) := fun t k => pre355 t (by
      refine XS.aload X355.here hx rfl (hb hby at_293) rfl rfl ?_
      exact k)
    obtain ⟨cl359, Ar359, q359, S359, M359, H359, G359⟩ := id nf355_0
    have pre360 : Go p.tables e below S0 T355 (mkF m 321 #[vJ q0, .second, vJ q1, .second, vI p2, vI p3, vI v1, vI v2, vI v3, vI v4, vI (0 : Int32), vI (0 : Int32), vI (0 : Int32), vI v1, vI v5, vI j82_l15_10, vI j82_l16_11, vI v15, vI j119_l18_20, vI j119_l19_21, vI v25, vI (4 : Int32), vR b28, vR b302, vR b322, vI (1 : Int32)] [(.int (0 : Int32)), (.ref b302)]) := fun t k => pre358 t (by
      refine X355.arraylength hx Ar359.1 (State.isArrayOf_alike hZ.alike Ar359.2.1) (g := (mkF m 295 #[vJ q0, .second, vJ q1, .second, vI p2, vI p3, vI v1, vI v2, vI v3, vI v4, vI (0 : Int32), vI (0 : Int32), vI (0 : Int32), vI v1, vI v5, vI j82_l15_10, vI j82_l16_11, vI v15, vI j119_l18_20, vI j119_l19_21, vI v25, vI (4 : Int32), vR b28, vR b302, vR b322, .unset] [(.ref b302)])) rfl rfl (hb hby at_295) _ ?_
      rw [len_of S359 M359]
      refine XS.iload X355.here hx rfl (hb hby at_296) rfl ?_
      refine XS.icmpNo X355.here hx rfl (hb hby at_298) rfl (teq (rfl : (4 : Int32) = (4 : Int32))).2 ?_
      show Steps p.tables e below (T355.setTop (mkF m 301 #[vJ q0, .second, vJ q1, .second, vI p2, vI p3, vI v1, vI v2, vI v3, vI v4, vI (0 : Int32), vI (0 : Int32), vI (0 : Int32), vI v1, vI v5, vI j82_l15_10, vI j82_l16_11, vI v15, vI j119_l18_20, vI j119_l19_21, vI v25, vI (4 : Int32), vR b28, vR b302, vR b322, .unset] [])) _
      refine XS.iconst X355.here hx rfl (hb hby at_301) ?_
      refine XS.goto X355.here hx rfl (pc0 := 302) (pc' := 306) rfl (hb hby at_302) (by decide) (by decide) ?_
      refine XS.istore X355.here hx rfl (hb hby at_306) rfl (l' := #[vJ q0, .second, vJ q1, .second, vI p2, vI p3, vI v1, vI v2, vI v3, vI v4, vI (0 : Int32), vI (0 : Int32), vI (0 : Int32), vI v1, vI v5, vI j82_l15_10, vI j82_l16_11, vI v15, vI j119_l18_20, vI j119_l19_21, vI v25, vI (4 : Int32), vR b28, vR b302, vR b322, vI (1 : Int32)]) rfl ?_
      show Steps p.tables e below (T355.setTop (mkF m 308 #[vJ q0, .second, vJ q1, .second, vI p2, vI p3, vI v1, vI v2, vI v3, vI v4, vI (0 : Int32), vI (0 : Int32), vI (0 : Int32), vI v1, vI v5, vI j82_l15_10, vI j82_l16_11, vI v15, vI j119_l18_20, vI j119_l19_21, vI v25, vI (4 : Int32), vR b28, vR b302, vR b322, vI (1 : Int32)] [])) _
      refine XS.iload X355.here hx rfl (hb hby at_308) rfl ?_
      refine XS.ifNo X355.here hx rfl (hb hby at_310) rfl ((if0 _ _).trans (tlt (by decide : (0 : Int32) < (4 : Int32))).2.2.2) ?_
      refine XS.iload X355.here hx rfl (hb hby at_313) rfl ?_
      show Steps p.tables e below (T355.setTop (mkF m 315 #[vJ q0, .second, vJ q1, .second, vI p2, vI p3, vI v1, vI v2, vI v3, vI v4, vI (0 : Int32), vI (0 : Int32), vI (0 : Int32), vI v1, vI v5, vI j82_l15_10, vI j82_l16_11, vI v15, vI j119_l18_20, vI j119_l19_21, vI v25, vI (4 : Int32), vR b28, vR b302, vR b322, vI (1 : Int32)] [(.int (1 : Int32))])) _
      refine XS.ifNo X355.here hx rfl (hb hby at_315) rfl ((if0 _ _).trans (feq (by decide : ¬ ((1 : Int32) = (0 : Int32)))).1) ?_
      refine XS.aload X355.here hx rfl (hb hby at_318) rfl rfl ?_
      refine XS.iconst X355.here hx rfl (hb hby at_320) ?_
      show Steps p.tables e below (T355.setTop (mkF m 321 #[vJ q0, .second, vJ q1, .second, vI p2, vI p3, vI v1, vI v2, vI v3, vI v4, vI (0 : Int32), vI (0 : Int32), vI (0 : Int32), vI v1, vI v5, vI j82_l15_10, vI j82_l16_11, vI v15, vI j119_l18_20, vI j119_l19_21, vI v25, vI (4 : Int32), vR b28, vR b302, vR b322, vI (1 : Int32)] [(.int (0 : Int32)), (.ref b302)])) _
      exact k)
    obtain ⟨cl361, Ar361, q361, S361, M361, H361, G361⟩ := id nf355_0
    have in361 : ¬ ((0 : Int32) < 0 ∨ cl361.slots.size ≤ ((0 : Int32)).toNatClampNeg) := inb_of S361 ⟨by decide, by decide⟩
    have at361 : cl361.slots[((0 : Int32)).toNatClampNeg]? = some (.int r355_0) := H361.at in361 rfl
    have pre362 : Go p.tables e below S0 T355 (mkF m 326 #[vJ q0, .second, vJ q1, .second, vI p2, vI p3, vI v1, vI v2, vI v3, vI v4, vI (0 : Int32), vI (0 : Int32), vI (0 : Int32), vI v1, vI v5, vI j82_l15_10, vI j82_l16_11, vI v15, vI j119_l18_20, vI j119_l19_21, vI v25, vI (4 : Int32), vR b28, vR b302, vR b322, vI (1 : Int32)] [(.int (0 : Int32)), (.long q1), (.long q0), (.int r355_0)]) := fun t k => pre360 t (by
      refine X355.iaload hx (j := (0 : Int32)) (v := (.int r355_0)) Ar361.1 (State.isArrayOf_alike hZ.alike Ar361.2.1) Ar361.2.2 in361 at361 (g := (mkF m 321 #[vJ q0, .second, vJ q1, .second, vI p2, vI p3, vI v1, vI v2, vI v3, vI v4, vI (0 : Int32), vI (0 : Int32), vI (0 : Int32), vI v1, vI v5, vI j82_l15_10, vI j82_l16_11, vI v15, vI j119_l18_20, vI j119_l19_21, vI v25, vI (4 : Int32), vR b28, vR b302, vR b322, vI (1 : Int32)] [(.int (0 : Int32)), (.ref b302)])) rfl rfl (hb hby at_321) _ ?_
      refine XS.lloadN X355.here hx rfl (hb hby at_322) rfl ?_
      refine XS.lloadN X355.here hx rfl (hb hby at_323) rfl ?_
      show Steps p.tables e below (T355.setTop (mkF m 324 #[vJ q0, .second, vJ q1, .second, vI p2, vI p3, vI v1, vI v2, vI v3, vI v4, vI (0 : Int32), vI (0 : Int32), vI (0 : Int32), vI v1, vI v5, vI j82_l15_10, vI j82_l16_11, vI v15, vI j119_l18_20, vI j119_l19_21, vI v25, vI (4 : Int32), vR b28, vR b302, vR b322, vI (1 : Int32)] [(.long q1), (.long q0), (.int r355_0)])) _
      refine XS.iload X355.here hx rfl (hb hby at_324) rfl ?_
      exact k)
    obtain ⟨_, _, ⟨T363, qL363, qk363, qn363⟩, -, X363, ⟨Lc363, hQ363, ql363, qy363, qz363⟩, st363⟩ := Jvm.LawKit.callS X355 hx (y := (⟨"com/example/garantia/garantia/engine/StateLayoutUnpackPinLaw", "pick", "(JJI)J"⟩ : MethodName)) hown (mvT hZ (hw _ (List.mem_of_getElem? (i := 32) rfl))) (mvT hZ (hw _ (List.mem_of_getElem? (i := 33) rfl))) (mvT hZ (hw _ (List.mem_of_getElem? (i := 34) rfl))) (mvT hZ (hw _ (List.mem_of_getElem? (i := 35) rfl))) (by decide) (backOf (W := 1) (rm4 l Z A0 hw [] q0 q1 (0 : Int32) T355.heap n0 zz357) hZ (hw _ (List.mem_of_getElem? (i := 35) rfl)) (hw _ (List.mem_of_getElem? (i := 34) rfl)) (by decide) (by decide)) (g := (mkF m 326 #[vJ q0, .second, vJ q1, .second, vI p2, vI p3, vI v1, vI v2, vI v3, vI v4, vI (0 : Int32), vI (0 : Int32), vI (0 : Int32), vI v1, vI v5, vI j82_l15_10, vI j82_l16_11, vI v15, vI j119_l18_20, vI j119_l19_21, vI v25, vI (4 : Int32), vR b28, vR b302, vR b322, vI (1 : Int32)] [(.int (0 : Int32)), (.long q1), (.long q0), (.int r355_0)])) rfl (by rw [hml]; rfl) (argsL := [(.long q0), (.long q1), (.int (0 : Int32))]) (rest := [(.int r355_0)]) (lenOf pd_2 rfl) rfl (by show 2 * 0 + _ ≤ _; exact Nat.le_of_eq rfl) (hb hby at_326) (fun _ _ => ⟨rfl, rfl, (by decide : 8 + 0 ≤ _), (by decide : 34 + 0 ≤ _)⟩)
    dsimp only [Pt.U, Pt.locs, Pt.cells, Pt.slots] at X363 ql363 qy363 qz363 st363 hQ363
    replace X363 := X363.more (Nat.le_of_eq qy363) (Nat.le_of_eq qz363)
    obtain ⟨rfl, Nq363, eq363⟩ := hQ363
    have N363 : Fr n0 qL363 := by rw [ql363]; exact Fr.app N355 Nq363
    have pre363 : Go p.tables e below S0 T363 (mkF m 329 #[vJ q0, .second, vJ q1, .second, vI p2, vI p3, vI v1, vI v2, vI v3, vI v4, vI (0 : Int32), vI (0 : Int32), vI (0 : Int32), vI v1, vI v5, vI j82_l15_10, vI j82_l16_11, vI v15, vI j119_l18_20, vI j119_l19_21, vI v25, vI (4 : Int32), vR b28, vR b302, vR b322, vI (1 : Int32)] [(.long (own_pick q0 q1 (0 : Int32))), (.int r355_0)]) := fun t k => pre362 t (st363 t k)
    have pre364 : Go p.tables e below S0 T363 (mkF m 333 #[vJ q0, .second, vJ q1, .second, vI p2, vI p3, vI v1, vI v2, vI v3, vI v4, vI (0 : Int32), vI (0 : Int32), vI (0 : Int32), vI v1, vI v5, vI j82_l15_10, vI j82_l16_11, vI v15, vI j119_l18_20, vI j119_l19_21, vI v25, vI (4 : Int32), vR b28, vR b302, vR b322, vI (1 : Int32)] [(.int v1), (.int (0 : Int32)), (.long (own_pick q0 q1 (0 : Int32))), (.int r355_0)]) := fun t k => pre363 t (by
      refine XS.iload X363.here hx rfl (hb hby at_329) rfl ?_
      refine XS.iload X363.here hx rfl (hb hby at_331) rfl ?_
      exact k)
    obtain ⟨_, _, ⟨T365, qL365, qk365, qn365⟩, -, X365, ⟨Lc365, hQ365, ql365, qy365, qz365⟩, st365⟩ := Jvm.LawKit.callS X363 hx (y := (⟨"com/example/garantia/garantia/engine/StateLayoutUnpackPinLaw", "ref", "(JII)I"⟩ : MethodName)) hown (mvT hZ (hw _ (List.mem_of_getElem? (i := 36) rfl))) (mvT hZ (hw _ (List.mem_of_getElem? (i := 37) rfl))) (mvT hZ (hw _ (List.mem_of_getElem? (i := 34) rfl))) (mvT hZ (hw _ (List.mem_of_getElem? (i := 38) rfl))) (by decide) (backOf (W := 1) (rm5 l Z A0 hw [] (own_pick q0 q1 (0 : Int32)) (0 : Int32) v1 T355.heap n0 zz357) hZ (hw _ (List.mem_of_getElem? (i := 38) rfl)) (hw _ (List.mem_of_getElem? (i := 34) rfl)) (by decide) (by decide)) (g := (mkF m 333 #[vJ q0, .second, vJ q1, .second, vI p2, vI p3, vI v1, vI v2, vI v3, vI v4, vI (0 : Int32), vI (0 : Int32), vI (0 : Int32), vI v1, vI v5, vI j82_l15_10, vI j82_l16_11, vI v15, vI j119_l18_20, vI j119_l19_21, vI v25, vI (4 : Int32), vR b28, vR b302, vR b322, vI (1 : Int32)] [(.int v1), (.int (0 : Int32)), (.long (own_pick q0 q1 (0 : Int32))), (.int r355_0)])) rfl (by rw [hml]; rfl) (argsL := [(.long (own_pick q0 q1 (0 : Int32))), (.int (0 : Int32)), (.int v1)]) (rest := [(.int r355_0)]) (lenOf pd_3 rfl) rfl (by show 2 * 0 + _ ≤ _; exact Nat.le_of_eq rfl) (hb hby at_333) (fun _ _ => ⟨rfl, eq363, (by decide : 8 + 0 ≤ _), (by decide : 34 + 0 ≤ _)⟩)
    dsimp only [Pt.U, Pt.locs, Pt.cells, Pt.slots] at X365 ql365 qy365 qz365 st365 hQ365
    replace X365 := X365.more (Nat.le_of_eq qy365) (Nat.le_of_eq qz365)
    obtain ⟨rfl, Nq365, eq365⟩ := hQ365
    have N365 : Fr n0 qL365 := by rw [ql365]; exact Fr.app N363 Nq365
    have pre365 : Go p.tables e below S0 T365 (mkF m 336 #[vJ q0, .second, vJ q1, .second, vI p2, vI p3, vI v1, vI v2, vI v3, vI v4, vI (0 : Int32), vI (0 : Int32), vI (0 : Int32), vI v1, vI v5, vI j82_l15_10, vI j82_l16_11, vI v15, vI j119_l18_20, vI j119_l19_21, vI v25, vI (4 : Int32), vR b28, vR b302, vR b322, vI (1 : Int32)] [(.int (own_ref (own_pick q0 q1 (0 : Int32)) (0 : Int32) v1)), (.int r355_0)]) := fun t k => pre364 t (st365 t k)
    have cc366 : r355_0 = (own_ref (own_pick q0 q1 (0 : Int32)) (0 : Int32) v1) := own_key (f := 0) hR355.1 (own_from hoff (Or.inl rfl)) (by decide) hw0 (by show (0 : Int) + _ ≤ 64; omega)
    have pre367 : Go p.tables e below S0 T365 (mkF m 360 #[vJ q0, .second, vJ q1, .second, vI p2, vI p3, vI v1, vI v2, vI v3, vI v4, vI (0 : Int32), vI (0 : Int32), vI (0 : Int32), vI v1, vI v5, vI j82_l15_10, vI j82_l16_11, vI v15, vI j119_l18_20, vI j119_l19_21, vI v25, vI (4 : Int32), vR b28, vR b302, vR b322, vI (1 : Int32)] [(.int (1 : Int32)), (.ref b302)]) := fun t k => pre365 t (by
      refine XS.icmpNo X365.here hx rfl (hb hby at_336) rfl (teq cc366).2 ?_
      refine XS.iconst X365.here hx rfl (hb hby at_339) ?_
      refine XS.goto X365.here hx rfl (pc0 := 340) (pc' := 344) rfl (hb hby at_340) (by decide) (by decide) ?_
      show Steps p.tables e below (T365.setTop (mkF m 344 #[vJ q0, .second, vJ q1, .second, vI p2, vI p3, vI v1, vI v2, vI v3, vI v4, vI (0 : Int32), vI (0 : Int32), vI (0 : Int32), vI v1, vI v5, vI j82_l15_10, vI j82_l16_11, vI v15, vI j119_l18_20, vI j119_l19_21, vI v25, vI (4 : Int32), vR b28, vR b302, vR b322, vI (1 : Int32)] [(.int (1 : Int32))])) _
      refine XS.istore X365.here hx rfl (hb hby at_344) rfl (l' := #[vJ q0, .second, vJ q1, .second, vI p2, vI p3, vI v1, vI v2, vI v3, vI v4, vI (0 : Int32), vI (0 : Int32), vI (0 : Int32), vI v1, vI v5, vI j82_l15_10, vI j82_l16_11, vI v15, vI j119_l18_20, vI j119_l19_21, vI v25, vI (4 : Int32), vR b28, vR b302, vR b322, vI (1 : Int32)]) rfl ?_
      refine XS.iload X365.here hx rfl (hb hby at_346) rfl ?_
      refine XS.iconst X365.here hx rfl (hb hby at_348) ?_
      show Steps p.tables e below (T365.setTop (mkF m 349 #[vJ q0, .second, vJ q1, .second, vI p2, vI p3, vI v1, vI v2, vI v3, vI v4, vI (0 : Int32), vI (0 : Int32), vI (0 : Int32), vI v1, vI v5, vI j82_l15_10, vI j82_l16_11, vI v15, vI j119_l18_20, vI j119_l19_21, vI v25, vI (4 : Int32), vR b28, vR b302, vR b322, vI (1 : Int32)] [(.int (1 : Int32)), (.int (4 : Int32))])) _
      refine XS.icmpNo X365.here hx rfl (hb hby at_349) rfl (tlt (by decide : (1 : Int32) < (4 : Int32))).2.2.2 ?_
      refine XS.iload X365.here hx rfl (hb hby at_352) rfl ?_
      refine XS.ifNo X365.here hx rfl (hb hby at_354) rfl ((if0 _ _).trans (feq (by decide : ¬ ((1 : Int32) = (0 : Int32)))).1) ?_
      show Steps p.tables e below (T365.setTop (mkF m 357 #[vJ q0, .second, vJ q1, .second, vI p2, vI p3, vI v1, vI v2, vI v3, vI v4, vI (0 : Int32), vI (0 : Int32), vI (0 : Int32), vI v1, vI v5, vI j82_l15_10, vI j82_l16_11, vI v15, vI j119_l18_20, vI j119_l19_21, vI v25, vI (4 : Int32), vR b28, vR b302, vR b322, vI (1 : Int32)] [])) _
      refine XS.aload X365.here hx rfl (hb hby at_357) rfl rfl ?_
      refine XS.iconst X365.here hx rfl (hb hby at_359) ?_
      exact k)
    obtain ⟨cl368, Ar368, q368, S368, M368, H368, G368⟩ := id nf355_0
    have in368 : ¬ ((1 : Int32) < 0 ∨ cl368.slots.size ≤ ((1 : Int32)).toNatClampNeg) := inb_of S368 ⟨by decide, by decide⟩
    have at368 : cl368.slots[((1 : Int32)).toNatClampNeg]? = some (.int r355_1) := H368.at in368 rfl
    have pre369 : Go p.tables e below S0 T365 (mkF m 365 #[vJ q0, .second, vJ q1, .second, vI p2, vI p3, vI v1, vI v2, vI v3, vI v4, vI (0 : Int32), vI (0 : Int32), vI (0 : Int32), vI v1, vI v5, vI j82_l15_10, vI j82_l16_11, vI v15, vI j119_l18_20, vI j119_l19_21, vI v25, vI (4 : Int32), vR b28, vR b302, vR b322, vI (1 : Int32)] [(.int (0 : Int32)), (.long q1), (.long q0), (.int r355_1)]) := fun t k => pre367 t (by
      refine X365.iaload hx (j := (1 : Int32)) (v := (.int r355_1)) (by rw [eq365]; exact Ar368.1) (State.isArrayOf_alike hZ.alike Ar368.2.1) Ar368.2.2 in368 at368 (g := (mkF m 360 #[vJ q0, .second, vJ q1, .second, vI p2, vI p3, vI v1, vI v2, vI v3, vI v4, vI (0 : Int32), vI (0 : Int32), vI (0 : Int32), vI v1, vI v5, vI j82_l15_10, vI j82_l16_11, vI v15, vI j119_l18_20, vI j119_l19_21, vI v25, vI (4 : Int32), vR b28, vR b302, vR b322, vI (1 : Int32)] [(.int (1 : Int32)), (.ref b302)])) rfl rfl (hb hby at_360) _ ?_
      refine XS.lloadN X365.here hx rfl (hb hby at_361) rfl ?_
      refine XS.lloadN X365.here hx rfl (hb hby at_362) rfl ?_
      show Steps p.tables e below (T365.setTop (mkF m 363 #[vJ q0, .second, vJ q1, .second, vI p2, vI p3, vI v1, vI v2, vI v3, vI v4, vI (0 : Int32), vI (0 : Int32), vI (0 : Int32), vI v1, vI v5, vI j82_l15_10, vI j82_l16_11, vI v15, vI j119_l18_20, vI j119_l19_21, vI v25, vI (4 : Int32), vR b28, vR b302, vR b322, vI (1 : Int32)] [(.long q1), (.long q0), (.int r355_1)])) _
      refine XS.iload X365.here hx rfl (hb hby at_363) rfl ?_
      exact k)
    obtain ⟨_, _, ⟨T370, qL370, qk370, qn370⟩, -, X370, ⟨Lc370, hQ370, ql370, qy370, qz370⟩, st370⟩ := Jvm.LawKit.callS X365 hx (y := (⟨"com/example/garantia/garantia/engine/StateLayoutUnpackPinLaw", "pick", "(JJI)J"⟩ : MethodName)) hown (mvT hZ (hw _ (List.mem_of_getElem? (i := 32) rfl))) (mvT hZ (hw _ (List.mem_of_getElem? (i := 33) rfl))) (mvT hZ (hw _ (List.mem_of_getElem? (i := 34) rfl))) (mvT hZ (hw _ (List.mem_of_getElem? (i := 35) rfl))) (by decide) (backOf (W := 1) (rm4 l Z A0 hw [] q0 q1 (0 : Int32) T355.heap n0 zz357) hZ (hw _ (List.mem_of_getElem? (i := 35) rfl)) (hw _ (List.mem_of_getElem? (i := 34) rfl)) (by decide) (by decide)) (g := (mkF m 365 #[vJ q0, .second, vJ q1, .second, vI p2, vI p3, vI v1, vI v2, vI v3, vI v4, vI (0 : Int32), vI (0 : Int32), vI (0 : Int32), vI v1, vI v5, vI j82_l15_10, vI j82_l16_11, vI v15, vI j119_l18_20, vI j119_l19_21, vI v25, vI (4 : Int32), vR b28, vR b302, vR b322, vI (1 : Int32)] [(.int (0 : Int32)), (.long q1), (.long q0), (.int r355_1)])) rfl (by rw [hml]; rfl) (argsL := [(.long q0), (.long q1), (.int (0 : Int32))]) (rest := [(.int r355_1)]) (lenOf pd_2 rfl) rfl (by show 2 * 0 + _ ≤ _; exact Nat.le_of_eq rfl) (hb hby at_365) (fun _ _ => ⟨rfl, eq365, (by decide : 8 + 0 ≤ _), (by decide : 34 + 0 ≤ _)⟩)
    dsimp only [Pt.U, Pt.locs, Pt.cells, Pt.slots] at X370 ql370 qy370 qz370 st370 hQ370
    replace X370 := X370.more (Nat.le_of_eq qy370) (Nat.le_of_eq qz370)
    obtain ⟨rfl, Nq370, eq370⟩ := hQ370
    have N370 : Fr n0 qL370 := by rw [ql370]; exact Fr.app N365 Nq370
    have pre370 : Go p.tables e below S0 T370 (mkF m 368 #[vJ q0, .second, vJ q1, .second, vI p2, vI p3, vI v1, vI v2, vI v3, vI v4, vI (0 : Int32), vI (0 : Int32), vI (0 : Int32), vI v1, vI v5, vI j82_l15_10, vI j82_l16_11, vI v15, vI j119_l18_20, vI j119_l19_21, vI v25, vI (4 : Int32), vR b28, vR b302, vR b322, vI (1 : Int32)] [(.long (own_pick q0 q1 (0 : Int32))), (.int r355_1)]) := fun t k => pre369 t (st370 t k)
    have pre371 : Go p.tables e below S0 T370 (mkF m 372 #[vJ q0, .second, vJ q1, .second, vI p2, vI p3, vI v1, vI v2, vI v3, vI v4, vI (0 : Int32), vI (0 : Int32), vI (0 : Int32), vI v1, vI v5, vI j82_l15_10, vI j82_l16_11, vI v15, vI j119_l18_20, vI j119_l19_21, vI v25, vI (4 : Int32), vR b28, vR b302, vR b322, vI (1 : Int32)] [(.int v2), (.int v1), (.long (own_pick q0 q1 (0 : Int32))), (.int r355_1)]) := fun t k => pre370 t (by
      refine XS.iload X370.here hx rfl (hb hby at_368) rfl ?_
      refine XS.iload X370.here hx rfl (hb hby at_370) rfl ?_
      exact k)
    obtain ⟨_, _, ⟨T372, qL372, qk372, qn372⟩, -, X372, ⟨Lc372, hQ372, ql372, qy372, qz372⟩, st372⟩ := Jvm.LawKit.callS X370 hx (y := (⟨"com/example/garantia/garantia/engine/StateLayoutUnpackPinLaw", "ref", "(JII)I"⟩ : MethodName)) hown (mvT hZ (hw _ (List.mem_of_getElem? (i := 36) rfl))) (mvT hZ (hw _ (List.mem_of_getElem? (i := 37) rfl))) (mvT hZ (hw _ (List.mem_of_getElem? (i := 34) rfl))) (mvT hZ (hw _ (List.mem_of_getElem? (i := 38) rfl))) (by decide) (backOf (W := 1) (rm5 l Z A0 hw [] (own_pick q0 q1 (0 : Int32)) v1 v2 T355.heap n0 zz357) hZ (hw _ (List.mem_of_getElem? (i := 38) rfl)) (hw _ (List.mem_of_getElem? (i := 34) rfl)) (by decide) (by decide)) (g := (mkF m 372 #[vJ q0, .second, vJ q1, .second, vI p2, vI p3, vI v1, vI v2, vI v3, vI v4, vI (0 : Int32), vI (0 : Int32), vI (0 : Int32), vI v1, vI v5, vI j82_l15_10, vI j82_l16_11, vI v15, vI j119_l18_20, vI j119_l19_21, vI v25, vI (4 : Int32), vR b28, vR b302, vR b322, vI (1 : Int32)] [(.int v2), (.int v1), (.long (own_pick q0 q1 (0 : Int32))), (.int r355_1)])) rfl (by rw [hml]; rfl) (argsL := [(.long (own_pick q0 q1 (0 : Int32))), (.int v1), (.int v2)]) (rest := [(.int r355_1)]) (lenOf pd_3 rfl) rfl (by show 2 * 0 + _ ≤ _; exact Nat.le_of_eq rfl) (hb hby at_372) (fun _ _ => ⟨rfl, eq370, (by decide : 8 + 0 ≤ _), (by decide : 34 + 0 ≤ _)⟩)
    dsimp only [Pt.U, Pt.locs, Pt.cells, Pt.slots] at X372 ql372 qy372 qz372 st372 hQ372
    replace X372 := X372.more (Nat.le_of_eq qy372) (Nat.le_of_eq qz372)
    obtain ⟨rfl, Nq372, eq372⟩ := hQ372
    have N372 : Fr n0 qL372 := by rw [ql372]; exact Fr.app N370 Nq372
    have pre372 : Go p.tables e below S0 T372 (mkF m 375 #[vJ q0, .second, vJ q1, .second, vI p2, vI p3, vI v1, vI v2, vI v3, vI v4, vI (0 : Int32), vI (0 : Int32), vI (0 : Int32), vI v1, vI v5, vI j82_l15_10, vI j82_l16_11, vI v15, vI j119_l18_20, vI j119_l19_21, vI v25, vI (4 : Int32), vR b28, vR b302, vR b322, vI (1 : Int32)] [(.int (own_ref (own_pick q0 q1 (0 : Int32)) v1 v2)), (.int r355_1)]) := fun t k => pre371 t (st372 t k)
    have cc373 : r355_1 = (own_ref (own_pick q0 q1 (0 : Int32)) v1 v2) := (own_key (f := 0) hR355.2.1 (own_from hoff (Or.inl rfl)) (by rw [Int32.zero_add]; exact hw0.1) hw1 (by rw [Int32.zero_add]; omega)).trans (own_z1 _ _ _)
    have pre374 : Go p.tables e below S0 T372 (mkF m 399 #[vJ q0, .second, vJ q1, .second, vI p2, vI p3, vI v1, vI v2, vI v3, vI v4, vI (0 : Int32), vI (0 : Int32), vI (0 : Int32), vI v1, vI v5, vI j82_l15_10, vI j82_l16_11, vI v15, vI j119_l18_20, vI j119_l19_21, vI v25, vI (4 : Int32), vR b28, vR b302, vR b322, vI (1 : Int32)] [(.int (2 : Int32)), (.ref b302)]) := fun t k => pre372 t (by
      refine XS.icmpNo X372.here hx rfl (hb hby at_375) rfl (teq cc373).2 ?_
      refine XS.iconst X372.here hx rfl (hb hby at_378) ?_
      refine XS.goto X372.here hx rfl (pc0 := 379) (pc' := 383) rfl (hb hby at_379) (by decide) (by decide) ?_
      show Steps p.tables e below (T372.setTop (mkF m 383 #[vJ q0, .second, vJ q1, .second, vI p2, vI p3, vI v1, vI v2, vI v3, vI v4, vI (0 : Int32), vI (0 : Int32), vI (0 : Int32), vI v1, vI v5, vI j82_l15_10, vI j82_l16_11, vI v15, vI j119_l18_20, vI j119_l19_21, vI v25, vI (4 : Int32), vR b28, vR b302, vR b322, vI (1 : Int32)] [(.int (1 : Int32))])) _
      refine XS.istore X372.here hx rfl (hb hby at_383) rfl (l' := #[vJ q0, .second, vJ q1, .second, vI p2, vI p3, vI v1, vI v2, vI v3, vI v4, vI (0 : Int32), vI (0 : Int32), vI (0 : Int32), vI v1, vI v5, vI j82_l15_10, vI j82_l16_11, vI v15, vI j119_l18_20, vI j119_l19_21, vI v25, vI (4 : Int32), vR b28, vR b302, vR b322, vI (1 : Int32)]) rfl ?_
      refine XS.iload X372.here hx rfl (hb hby at_385) rfl ?_
      refine XS.iconst X372.here hx rfl (hb hby at_387) ?_
      show Steps p.tables e below (T372.setTop (mkF m 388 #[vJ q0, .second, vJ q1, .second, vI p2, vI p3, vI v1, vI v2, vI v3, vI v4, vI (0 : Int32), vI (0 : Int32), vI (0 : Int32), vI v1, vI v5, vI j82_l15_10, vI j82_l16_11, vI v15, vI j119_l18_20, vI j119_l19_21, vI v25, vI (4 : Int32), vR b28, vR b302, vR b322, vI (1 : Int32)] [(.int (2 : Int32)), (.int (4 : Int32))])) _
      refine XS.icmpNo X372.here hx rfl (hb hby at_388) rfl (tlt (by decide : (2 : Int32) < (4 : Int32))).2.2.2 ?_
      refine XS.iload X372.here hx rfl (hb hby at_391) rfl ?_
      refine XS.ifNo X372.here hx rfl (hb hby at_393) rfl ((if0 _ _).trans (feq (by decide : ¬ ((1 : Int32) = (0 : Int32)))).1) ?_
      show Steps p.tables e below (T372.setTop (mkF m 396 #[vJ q0, .second, vJ q1, .second, vI p2, vI p3, vI v1, vI v2, vI v3, vI v4, vI (0 : Int32), vI (0 : Int32), vI (0 : Int32), vI v1, vI v5, vI j82_l15_10, vI j82_l16_11, vI v15, vI j119_l18_20, vI j119_l19_21, vI v25, vI (4 : Int32), vR b28, vR b302, vR b322, vI (1 : Int32)] [])) _
      refine XS.aload X372.here hx rfl (hb hby at_396) rfl rfl ?_
      refine XS.iconst X372.here hx rfl (hb hby at_398) ?_
      exact k)
    obtain ⟨cl375, Ar375, q375, S375, M375, H375, G375⟩ := id nf355_0
    have in375 : ¬ ((2 : Int32) < 0 ∨ cl375.slots.size ≤ ((2 : Int32)).toNatClampNeg) := inb_of S375 ⟨by decide, by decide⟩
    have at375 : cl375.slots[((2 : Int32)).toNatClampNeg]? = some (.int r355_2) := H375.at in375 rfl
    have pre376 : Go p.tables e below S0 T372 (mkF m 404 #[vJ q0, .second, vJ q1, .second, vI p2, vI p3, vI v1, vI v2, vI v3, vI v4, vI (0 : Int32), vI (0 : Int32), vI (0 : Int32), vI v1, vI v5, vI j82_l15_10, vI j82_l16_11, vI v15, vI j119_l18_20, vI j119_l19_21, vI v25, vI (4 : Int32), vR b28, vR b302, vR b322, vI (1 : Int32)] [(.int j82_l15_10), (.long q1), (.long q0), (.int r355_2)]) := fun t k => pre374 t (by
      refine X372.iaload hx (j := (2 : Int32)) (v := (.int r355_2)) (by rw [eq372]; exact Ar375.1) (State.isArrayOf_alike hZ.alike Ar375.2.1) Ar375.2.2 in375 at375 (g := (mkF m 399 #[vJ q0, .second, vJ q1, .second, vI p2, vI p3, vI v1, vI v2, vI v3, vI v4, vI (0 : Int32), vI (0 : Int32), vI (0 : Int32), vI v1, vI v5, vI j82_l15_10, vI j82_l16_11, vI v15, vI j119_l18_20, vI j119_l19_21, vI v25, vI (4 : Int32), vR b28, vR b302, vR b322, vI (1 : Int32)] [(.int (2 : Int32)), (.ref b302)])) rfl rfl (hb hby at_399) _ ?_
      refine XS.lloadN X372.here hx rfl (hb hby at_400) rfl ?_
      refine XS.lloadN X372.here hx rfl (hb hby at_401) rfl ?_
      show Steps p.tables e below (T372.setTop (mkF m 402 #[vJ q0, .second, vJ q1, .second, vI p2, vI p3, vI v1, vI v2, vI v3, vI v4, vI (0 : Int32), vI (0 : Int32), vI (0 : Int32), vI v1, vI v5, vI j82_l15_10, vI j82_l16_11, vI v15, vI j119_l18_20, vI j119_l19_21, vI v25, vI (4 : Int32), vR b28, vR b302, vR b322, vI (1 : Int32)] [(.long q1), (.long q0), (.int r355_2)])) _
      refine XS.iload X372.here hx rfl (hb hby at_402) rfl ?_
      exact k)
    obtain ⟨_, _, ⟨T377, qL377, qk377, qn377⟩, -, X377, ⟨Lc377, hQ377, ql377, qy377, qz377⟩, st377⟩ := Jvm.LawKit.callS X372 hx (y := (⟨"com/example/garantia/garantia/engine/StateLayoutUnpackPinLaw", "pick", "(JJI)J"⟩ : MethodName)) hown (mvT hZ (hw _ (List.mem_of_getElem? (i := 32) rfl))) (mvT hZ (hw _ (List.mem_of_getElem? (i := 33) rfl))) (mvT hZ (hw _ (List.mem_of_getElem? (i := 34) rfl))) (mvT hZ (hw _ (List.mem_of_getElem? (i := 35) rfl))) (by decide) (backOf (W := 1) (rm4 l Z A0 hw [] q0 q1 j82_l15_10 T355.heap n0 zz357) hZ (hw _ (List.mem_of_getElem? (i := 35) rfl)) (hw _ (List.mem_of_getElem? (i := 34) rfl)) (by decide) (by decide)) (g := (mkF m 404 #[vJ q0, .second, vJ q1, .second, vI p2, vI p3, vI v1, vI v2, vI v3, vI v4, vI (0 : Int32), vI (0 : Int32), vI (0 : Int32), vI v1, vI v5, vI j82_l15_10, vI j82_l16_11, vI v15, vI j119_l18_20, vI j119_l19_21, vI v25, vI (4 : Int32), vR b28, vR b302, vR b322, vI (1 : Int32)] [(.int j82_l15_10), (.long q1), (.long q0), (.int r355_2)])) rfl (by rw [hml]; rfl) (argsL := [(.long q0), (.long q1), (.int j82_l15_10)]) (rest := [(.int r355_2)]) (lenOf pd_2 rfl) rfl (by show 2 * 0 + _ ≤ _; exact Nat.le_of_eq rfl) (hb hby at_404) (fun _ _ => ⟨rfl, eq372, (by decide : 8 + 0 ≤ _), (by decide : 34 + 0 ≤ _)⟩)
    dsimp only [Pt.U, Pt.locs, Pt.cells, Pt.slots] at X377 ql377 qy377 qz377 st377 hQ377
    replace X377 := X377.more (Nat.le_of_eq qy377) (Nat.le_of_eq qz377)
    obtain ⟨rfl, Nq377, eq377⟩ := hQ377
    have N377 : Fr n0 qL377 := by rw [ql377]; exact Fr.app N372 Nq377
    have pre377 : Go p.tables e below S0 T377 (mkF m 407 #[vJ q0, .second, vJ q1, .second, vI p2, vI p3, vI v1, vI v2, vI v3, vI v4, vI (0 : Int32), vI (0 : Int32), vI (0 : Int32), vI v1, vI v5, vI j82_l15_10, vI j82_l16_11, vI v15, vI j119_l18_20, vI j119_l19_21, vI v25, vI (4 : Int32), vR b28, vR b302, vR b322, vI (1 : Int32)] [(.long (own_pick q0 q1 j82_l15_10)), (.int r355_2)]) := fun t k => pre376 t (st377 t k)
    have pre378 : Go p.tables e below S0 T377 (mkF m 411 #[vJ q0, .second, vJ q1, .second, vI p2, vI p3, vI v1, vI v2, vI v3, vI v4, vI (0 : Int32), vI (0 : Int32), vI (0 : Int32), vI v1, vI v5, vI j82_l15_10, vI j82_l16_11, vI v15, vI j119_l18_20, vI j119_l19_21, vI v25, vI (4 : Int32), vR b28, vR b302, vR b322, vI (1 : Int32)] [(.int v3), (.int j82_l16_11), (.long (own_pick q0 q1 j82_l15_10)), (.int r355_2)]) := fun t k => pre377 t (by
      refine XS.iload X377.here hx rfl (hb hby at_407) rfl ?_
      refine XS.iload X377.here hx rfl (hb hby at_409) rfl ?_
      exact k)
    obtain ⟨_, _, ⟨T379, qL379, qk379, qn379⟩, -, X379, ⟨Lc379, hQ379, ql379, qy379, qz379⟩, st379⟩ := Jvm.LawKit.callS X377 hx (y := (⟨"com/example/garantia/garantia/engine/StateLayoutUnpackPinLaw", "ref", "(JII)I"⟩ : MethodName)) hown (mvT hZ (hw _ (List.mem_of_getElem? (i := 36) rfl))) (mvT hZ (hw _ (List.mem_of_getElem? (i := 37) rfl))) (mvT hZ (hw _ (List.mem_of_getElem? (i := 34) rfl))) (mvT hZ (hw _ (List.mem_of_getElem? (i := 38) rfl))) (by decide) (backOf (W := 1) (rm5 l Z A0 hw [] (own_pick q0 q1 j82_l15_10) j82_l16_11 v3 T355.heap n0 zz357) hZ (hw _ (List.mem_of_getElem? (i := 38) rfl)) (hw _ (List.mem_of_getElem? (i := 34) rfl)) (by decide) (by decide)) (g := (mkF m 411 #[vJ q0, .second, vJ q1, .second, vI p2, vI p3, vI v1, vI v2, vI v3, vI v4, vI (0 : Int32), vI (0 : Int32), vI (0 : Int32), vI v1, vI v5, vI j82_l15_10, vI j82_l16_11, vI v15, vI j119_l18_20, vI j119_l19_21, vI v25, vI (4 : Int32), vR b28, vR b302, vR b322, vI (1 : Int32)] [(.int v3), (.int j82_l16_11), (.long (own_pick q0 q1 j82_l15_10)), (.int r355_2)])) rfl (by rw [hml]; rfl) (argsL := [(.long (own_pick q0 q1 j82_l15_10)), (.int j82_l16_11), (.int v3)]) (rest := [(.int r355_2)]) (lenOf pd_3 rfl) rfl (by show 2 * 0 + _ ≤ _; exact Nat.le_of_eq rfl) (hb hby at_411) (fun _ _ => ⟨rfl, eq377, (by decide : 8 + 0 ≤ _), (by decide : 34 + 0 ≤ _)⟩)
    dsimp only [Pt.U, Pt.locs, Pt.cells, Pt.slots] at X379 ql379 qy379 qz379 st379 hQ379
    replace X379 := X379.more (Nat.le_of_eq qy379) (Nat.le_of_eq qz379)
    obtain ⟨rfl, Nq379, eq379⟩ := hQ379
    have N379 : Fr n0 qL379 := by rw [ql379]; exact Fr.app N377 Nq379
    have pre379 : Go p.tables e below S0 T379 (mkF m 414 #[vJ q0, .second, vJ q1, .second, vI p2, vI p3, vI v1, vI v2, vI v3, vI v4, vI (0 : Int32), vI (0 : Int32), vI (0 : Int32), vI v1, vI v5, vI j82_l15_10, vI j82_l16_11, vI v15, vI j119_l18_20, vI j119_l19_21, vI v25, vI (4 : Int32), vR b28, vR b302, vR b322, vI (1 : Int32)] [(.int (own_ref (own_pick q0 q1 j82_l15_10) j82_l16_11 v3)), (.int r355_2)]) := fun t k => pre378 t (st379 t k)
    have cc380 : r355_2 = (own_ref (own_pick q0 q1 j82_l15_10) j82_l16_11 v3) := own_key (f := 0) hR355.2.2.1 (own_from hoff hc2) ft2.1 hw2 ft2.2
    have pre381 : Go p.tables e below S0 T379 (mkF m 438 #[vJ q0, .second, vJ q1, .second, vI p2, vI p3, vI v1, vI v2, vI v3, vI v4, vI (0 : Int32), vI (0 : Int32), vI (0 : Int32), vI v1, vI v5, vI j82_l15_10, vI j82_l16_11, vI v15, vI j119_l18_20, vI j119_l19_21, vI v25, vI (4 : Int32), vR b28, vR b302, vR b322, vI (1 : Int32)] [(.int (3 : Int32)), (.ref b302)]) := fun t k => pre379 t (by
      refine XS.icmpNo X379.here hx rfl (hb hby at_414) rfl (teq cc380).2 ?_
      refine XS.iconst X379.here hx rfl (hb hby at_417) ?_
      refine XS.goto X379.here hx rfl (pc0 := 418) (pc' := 422) rfl (hb hby at_418) (by decide) (by decide) ?_
      show Steps p.tables e below (T379.setTop (mkF m 422 #[vJ q0, .second, vJ q1, .second, vI p2, vI p3, vI v1, vI v2, vI v3, vI v4, vI (0 : Int32), vI (0 : Int32), vI (0 : Int32), vI v1, vI v5, vI j82_l15_10, vI j82_l16_11, vI v15, vI j119_l18_20, vI j119_l19_21, vI v25, vI (4 : Int32), vR b28, vR b302, vR b322, vI (1 : Int32)] [(.int (1 : Int32))])) _
      refine XS.istore X379.here hx rfl (hb hby at_422) rfl (l' := #[vJ q0, .second, vJ q1, .second, vI p2, vI p3, vI v1, vI v2, vI v3, vI v4, vI (0 : Int32), vI (0 : Int32), vI (0 : Int32), vI v1, vI v5, vI j82_l15_10, vI j82_l16_11, vI v15, vI j119_l18_20, vI j119_l19_21, vI v25, vI (4 : Int32), vR b28, vR b302, vR b322, vI (1 : Int32)]) rfl ?_
      refine XS.iload X379.here hx rfl (hb hby at_424) rfl ?_
      refine XS.iconst X379.here hx rfl (hb hby at_426) ?_
      show Steps p.tables e below (T379.setTop (mkF m 427 #[vJ q0, .second, vJ q1, .second, vI p2, vI p3, vI v1, vI v2, vI v3, vI v4, vI (0 : Int32), vI (0 : Int32), vI (0 : Int32), vI v1, vI v5, vI j82_l15_10, vI j82_l16_11, vI v15, vI j119_l18_20, vI j119_l19_21, vI v25, vI (4 : Int32), vR b28, vR b302, vR b322, vI (1 : Int32)] [(.int (3 : Int32)), (.int (4 : Int32))])) _
      refine XS.icmpNo X379.here hx rfl (hb hby at_427) rfl (tlt (by decide : (3 : Int32) < (4 : Int32))).2.2.2 ?_
      refine XS.iload X379.here hx rfl (hb hby at_430) rfl ?_
      refine XS.ifNo X379.here hx rfl (hb hby at_432) rfl ((if0 _ _).trans (feq (by decide : ¬ ((1 : Int32) = (0 : Int32)))).1) ?_
      show Steps p.tables e below (T379.setTop (mkF m 435 #[vJ q0, .second, vJ q1, .second, vI p2, vI p3, vI v1, vI v2, vI v3, vI v4, vI (0 : Int32), vI (0 : Int32), vI (0 : Int32), vI v1, vI v5, vI j82_l15_10, vI j82_l16_11, vI v15, vI j119_l18_20, vI j119_l19_21, vI v25, vI (4 : Int32), vR b28, vR b302, vR b322, vI (1 : Int32)] [])) _
      refine XS.aload X379.here hx rfl (hb hby at_435) rfl rfl ?_
      refine XS.iconst X379.here hx rfl (hb hby at_437) ?_
      exact k)
    obtain ⟨cl382, Ar382, q382, S382, M382, H382, G382⟩ := id nf355_0
    have in382 : ¬ ((3 : Int32) < 0 ∨ cl382.slots.size ≤ ((3 : Int32)).toNatClampNeg) := inb_of S382 ⟨by decide, by decide⟩
    have at382 : cl382.slots[((3 : Int32)).toNatClampNeg]? = some (.int r355_3) := H382.at in382 rfl
    have pre383 : Go p.tables e below S0 T379 (mkF m 443 #[vJ q0, .second, vJ q1, .second, vI p2, vI p3, vI v1, vI v2, vI v3, vI v4, vI (0 : Int32), vI (0 : Int32), vI (0 : Int32), vI v1, vI v5, vI j82_l15_10, vI j82_l16_11, vI v15, vI j119_l18_20, vI j119_l19_21, vI v25, vI (4 : Int32), vR b28, vR b302, vR b322, vI (1 : Int32)] [(.int j119_l18_20), (.long q1), (.long q0), (.int r355_3)]) := fun t k => pre381 t (by
      refine X379.iaload hx (j := (3 : Int32)) (v := (.int r355_3)) (by rw [eq379]; exact Ar382.1) (State.isArrayOf_alike hZ.alike Ar382.2.1) Ar382.2.2 in382 at382 (g := (mkF m 438 #[vJ q0, .second, vJ q1, .second, vI p2, vI p3, vI v1, vI v2, vI v3, vI v4, vI (0 : Int32), vI (0 : Int32), vI (0 : Int32), vI v1, vI v5, vI j82_l15_10, vI j82_l16_11, vI v15, vI j119_l18_20, vI j119_l19_21, vI v25, vI (4 : Int32), vR b28, vR b302, vR b322, vI (1 : Int32)] [(.int (3 : Int32)), (.ref b302)])) rfl rfl (hb hby at_438) _ ?_
      refine XS.lloadN X379.here hx rfl (hb hby at_439) rfl ?_
      refine XS.lloadN X379.here hx rfl (hb hby at_440) rfl ?_
      show Steps p.tables e below (T379.setTop (mkF m 441 #[vJ q0, .second, vJ q1, .second, vI p2, vI p3, vI v1, vI v2, vI v3, vI v4, vI (0 : Int32), vI (0 : Int32), vI (0 : Int32), vI v1, vI v5, vI j82_l15_10, vI j82_l16_11, vI v15, vI j119_l18_20, vI j119_l19_21, vI v25, vI (4 : Int32), vR b28, vR b302, vR b322, vI (1 : Int32)] [(.long q1), (.long q0), (.int r355_3)])) _
      refine XS.iload X379.here hx rfl (hb hby at_441) rfl ?_
      exact k)
    obtain ⟨_, _, ⟨T384, qL384, qk384, qn384⟩, -, X384, ⟨Lc384, hQ384, ql384, qy384, qz384⟩, st384⟩ := Jvm.LawKit.callS X379 hx (y := (⟨"com/example/garantia/garantia/engine/StateLayoutUnpackPinLaw", "pick", "(JJI)J"⟩ : MethodName)) hown (mvT hZ (hw _ (List.mem_of_getElem? (i := 32) rfl))) (mvT hZ (hw _ (List.mem_of_getElem? (i := 33) rfl))) (mvT hZ (hw _ (List.mem_of_getElem? (i := 34) rfl))) (mvT hZ (hw _ (List.mem_of_getElem? (i := 35) rfl))) (by decide) (backOf (W := 1) (rm4 l Z A0 hw [] q0 q1 j119_l18_20 T355.heap n0 zz357) hZ (hw _ (List.mem_of_getElem? (i := 35) rfl)) (hw _ (List.mem_of_getElem? (i := 34) rfl)) (by decide) (by decide)) (g := (mkF m 443 #[vJ q0, .second, vJ q1, .second, vI p2, vI p3, vI v1, vI v2, vI v3, vI v4, vI (0 : Int32), vI (0 : Int32), vI (0 : Int32), vI v1, vI v5, vI j82_l15_10, vI j82_l16_11, vI v15, vI j119_l18_20, vI j119_l19_21, vI v25, vI (4 : Int32), vR b28, vR b302, vR b322, vI (1 : Int32)] [(.int j119_l18_20), (.long q1), (.long q0), (.int r355_3)])) rfl (by rw [hml]; rfl) (argsL := [(.long q0), (.long q1), (.int j119_l18_20)]) (rest := [(.int r355_3)]) (lenOf pd_2 rfl) rfl (by show 2 * 0 + _ ≤ _; exact Nat.le_of_eq rfl) (hb hby at_443) (fun _ _ => ⟨rfl, eq379, (by decide : 8 + 0 ≤ _), (by decide : 34 + 0 ≤ _)⟩)
    dsimp only [Pt.U, Pt.locs, Pt.cells, Pt.slots] at X384 ql384 qy384 qz384 st384 hQ384
    replace X384 := X384.more (Nat.le_of_eq qy384) (Nat.le_of_eq qz384)
    obtain ⟨rfl, Nq384, eq384⟩ := hQ384
    have N384 : Fr n0 qL384 := by rw [ql384]; exact Fr.app N379 Nq384
    have pre384 : Go p.tables e below S0 T384 (mkF m 446 #[vJ q0, .second, vJ q1, .second, vI p2, vI p3, vI v1, vI v2, vI v3, vI v4, vI (0 : Int32), vI (0 : Int32), vI (0 : Int32), vI v1, vI v5, vI j82_l15_10, vI j82_l16_11, vI v15, vI j119_l18_20, vI j119_l19_21, vI v25, vI (4 : Int32), vR b28, vR b302, vR b322, vI (1 : Int32)] [(.long (own_pick q0 q1 j119_l18_20)), (.int r355_3)]) := fun t k => pre383 t (st384 t k)
    have pre385 : Go p.tables e below S0 T384 (mkF m 450 #[vJ q0, .second, vJ q1, .second, vI p2, vI p3, vI v1, vI v2, vI v3, vI v4, vI (0 : Int32), vI (0 : Int32), vI (0 : Int32), vI v1, vI v5, vI j82_l15_10, vI j82_l16_11, vI v15, vI j119_l18_20, vI j119_l19_21, vI v25, vI (4 : Int32), vR b28, vR b302, vR b322, vI (1 : Int32)] [(.int v4), (.int j119_l19_21), (.long (own_pick q0 q1 j119_l18_20)), (.int r355_3)]) := fun t k => pre384 t (by
      refine XS.iload X384.here hx rfl (hb hby at_446) rfl ?_
      refine XS.iload X384.here hx rfl (hb hby at_448) rfl ?_
      exact k)
    obtain ⟨_, _, ⟨T386, qL386, qk386, qn386⟩, -, X386, ⟨Lc386, hQ386, ql386, qy386, qz386⟩, st386⟩ := Jvm.LawKit.callS X384 hx (y := (⟨"com/example/garantia/garantia/engine/StateLayoutUnpackPinLaw", "ref", "(JII)I"⟩ : MethodName)) hown (mvT hZ (hw _ (List.mem_of_getElem? (i := 36) rfl))) (mvT hZ (hw _ (List.mem_of_getElem? (i := 37) rfl))) (mvT hZ (hw _ (List.mem_of_getElem? (i := 34) rfl))) (mvT hZ (hw _ (List.mem_of_getElem? (i := 38) rfl))) (by decide) (backOf (W := 1) (rm5 l Z A0 hw [] (own_pick q0 q1 j119_l18_20) j119_l19_21 v4 T355.heap n0 zz357) hZ (hw _ (List.mem_of_getElem? (i := 38) rfl)) (hw _ (List.mem_of_getElem? (i := 34) rfl)) (by decide) (by decide)) (g := (mkF m 450 #[vJ q0, .second, vJ q1, .second, vI p2, vI p3, vI v1, vI v2, vI v3, vI v4, vI (0 : Int32), vI (0 : Int32), vI (0 : Int32), vI v1, vI v5, vI j82_l15_10, vI j82_l16_11, vI v15, vI j119_l18_20, vI j119_l19_21, vI v25, vI (4 : Int32), vR b28, vR b302, vR b322, vI (1 : Int32)] [(.int v4), (.int j119_l19_21), (.long (own_pick q0 q1 j119_l18_20)), (.int r355_3)])) rfl (by rw [hml]; rfl) (argsL := [(.long (own_pick q0 q1 j119_l18_20)), (.int j119_l19_21), (.int v4)]) (rest := [(.int r355_3)]) (lenOf pd_3 rfl) rfl (by show 2 * 0 + _ ≤ _; exact Nat.le_of_eq rfl) (hb hby at_450) (fun _ _ => ⟨rfl, eq384, (by decide : 8 + 0 ≤ _), (by decide : 34 + 0 ≤ _)⟩)
    dsimp only [Pt.U, Pt.locs, Pt.cells, Pt.slots] at X386 ql386 qy386 qz386 st386 hQ386
    replace X386 := X386.more (Nat.le_of_eq qy386) (Nat.le_of_eq qz386)
    obtain ⟨rfl, Nq386, eq386⟩ := hQ386
    have N386 : Fr n0 qL386 := by rw [ql386]; exact Fr.app N384 Nq386
    have pre386 : Go p.tables e below S0 T386 (mkF m 453 #[vJ q0, .second, vJ q1, .second, vI p2, vI p3, vI v1, vI v2, vI v3, vI v4, vI (0 : Int32), vI (0 : Int32), vI (0 : Int32), vI v1, vI v5, vI j82_l15_10, vI j82_l16_11, vI v15, vI j119_l18_20, vI j119_l19_21, vI v25, vI (4 : Int32), vR b28, vR b302, vR b322, vI (1 : Int32)] [(.int (own_ref (own_pick q0 q1 j119_l18_20) j119_l19_21 v4)), (.int r355_3)]) := fun t k => pre385 t (st386 t k)
    have cc387 : r355_3 = (own_ref (own_pick q0 q1 j119_l18_20) j119_l19_21 v4) := own_key (f := 0) hR355.2.2.2 (own_from hoff hc3) ft3.1 hw3 ft3.2
    have pre388 : Go p.tables e below S0 T386 (mkF m 465 #[vJ q0, .second, vJ q1, .second, vI p2, vI p3, vI v1, vI v2, vI v3, vI v4, vI (0 : Int32), vI (0 : Int32), vI (0 : Int32), vI v1, vI v5, vI j82_l15_10, vI j82_l16_11, vI v15, vI j119_l18_20, vI j119_l19_21, vI v25, vI (4 : Int32), vR b28, vR b302, vR b322, vI (1 : Int32)] [(.int (1 : Int32))]) := fun t k => pre386 t (by
      refine XS.icmpNo X386.here hx rfl (hb hby at_453) rfl (teq cc387).2 ?_
      refine XS.iconst X386.here hx rfl (hb hby at_456) ?_
      refine XS.goto X386.here hx rfl (pc0 := 457) (pc' := 461) rfl (hb hby at_457) (by decide) (by decide) ?_
      show Steps p.tables e below (T386.setTop (mkF m 461 #[vJ q0, .second, vJ q1, .second, vI p2, vI p3, vI v1, vI v2, vI v3, vI v4, vI (0 : Int32), vI (0 : Int32), vI (0 : Int32), vI v1, vI v5, vI j82_l15_10, vI j82_l16_11, vI v15, vI j119_l18_20, vI j119_l19_21, vI v25, vI (4 : Int32), vR b28, vR b302, vR b322, vI (1 : Int32)] [(.int (1 : Int32))])) _
      refine XS.istore X386.here hx rfl (hb hby at_461) rfl (l' := #[vJ q0, .second, vJ q1, .second, vI p2, vI p3, vI v1, vI v2, vI v3, vI v4, vI (0 : Int32), vI (0 : Int32), vI (0 : Int32), vI v1, vI v5, vI j82_l15_10, vI j82_l16_11, vI v15, vI j119_l18_20, vI j119_l19_21, vI v25, vI (4 : Int32), vR b28, vR b302, vR b322, vI (1 : Int32)]) rfl ?_
      refine XS.iload X386.here hx rfl (hb hby at_463) rfl ?_
      exact k)
    obtain ⟨fs, hr, hrun, hended, hW, hsame⟩ := X386.leave (v := some (.int (1 : Int32))) (fun h => by rw [Bd.returns] at h; cases h)
    exact ⟨_, _, pre388.fin hS0 (retN X386 hx (t := .boolean) Bd.returns (by simp) (hb hby at_465) hr), hrun, hended, _, _, rfl, (by
      show Q0 Z q0 q1 p2 p3 h0 n0 _ T386.heap _
      rw [eq386]
      exact ⟨rfl, N386⟩), ⟨_, rfl⟩, hW, hsame.mono (by decide) (by decide)⟩
set_option maxRecDepth 65536 in
set_option maxHeartbeats 40000000 in
theorem comes_1 {Post : Tables → Env → Array Value → State → Outcome → State → Prop} (hpost : ∀ tb e args s v u, (limb_1_1.after args s (.returned v) u = true ∧ limb_1_2.after args s (.returned v) u = true ∧ True) → FrameEnd s (.returned v) u (Jvm.fieldLocs frame_1_writes args s ++ Jvm.arrayLocs frame_1_arrays args s ++ Jvm.staticLocs frame_1_statics s) 24 192 → Post tb e args s (.returned v) u) :
    ArmFor flags0 classFile x code maxLocals ret World_1 tables_1 room_1 Calls_1 rest_1 Pre_1 Post := by
  intro l hfl _ _ p e ha hc hk s m args below hf hA hF happ hP
  obtain ⟨hcalls, hrest, hpre⟩ := hP
  obtain ⟨-, -, -, hnamed, -, -, -, hat⟩ := (Spec.applies_iff hf).mp happ
  obtain ⟨hg, hn⟩ := and_e (Cond.before_iff.mp (show (Jvm.Cond.and given_1 narrow_1).before args s = true from hpre))
  obtain ⟨g0, r0⟩ := and_e hg
  obtain ⟨g1, r1⟩ := and_e r0
  obtain ⟨g2, r2⟩ := and_e r1
  obtain ⟨g3, r3⟩ := and_e r2
  obtain ⟨w0, w1, w2, w3, rfl⟩ : ∃ w0 w1 w2 w3 : Value, args = #[w0, w1, w2, w3] := by
    have hs : args.size = 4 := by simpa [Cond.value, given_1] using g0
    obtain ⟨L⟩ := args
    match L, hs with
    | [w0, w1, w2, w3], _ => exact ⟨w0, w1, w2, w3, rfl⟩
  have hw := fun d (hd : d ∈ tables_1) => atoms_spec (ws := Jvm.Cond.code x code maxLocals ret :: tables_1) hat d (List.mem_cons_of_mem _ hd)
  obtain ⟨i0, ei0⟩ := isL_v g1
  obtain rfl : w0 = (.long i0) := Option.some.inj ei0
  obtain ⟨i1, ei1⟩ := isL_v g2
  obtain rfl : w1 = (.long i1) := Option.some.inj ei1
  obtain ⟨i2, ei2⟩ := is_v g3
  obtain rfl : w2 = (.int i2) := Option.some.inj ei2
  obtain ⟨i3, ei3⟩ := is_v r3
  obtain rfl : w3 = (.int i3) := Option.some.inj ei3
  obtain ⟨n, o, h1, h2, h3, _, L, rfl, ⟨rfl, N⟩, hq⟩ := rm0 l s _ hw tables_1 i0 i1 i2 i3  s.heap s.heap.size (Nat.le_refl _) p e ha hc hk s m _ below hf ((Spec.applies_iff_loose hf).mp happ).1 ⟨rfl, State.Warmed39.refl s, rfl⟩ trivial
  refine ⟨n, _, h1, h2, h3, hpost _ _ _ _ _ _ ⟨Cond.after_iff.mpr rfl, Cond.after_iff.mpr (eq_i res_at (Term.int_eval (1)) rfl), trivial⟩ ⟨hq.1, hq.2.1, (hq.2.2.sift fun y hy => Or.inr (N y hy)).mono (by decide) (by decide)⟩⟩
theorem main_1_1 : Claimed_1_1 := comes_1 fun _ _ _ _ _ _ h hF => ⟨h.1, hF⟩
theorem main_1_2 : Claimed_1_2 := comes_1 fun _ _ _ _ _ _ h hF => ⟨h.2.1, hF⟩
end Jvm.Pilot.@@N@@
namespace Jvm.Pilot.@@N@@
open Jvm Jvm.ClassFile Sem Op Lib Jvm.Free Jvm.Stand Jvm.Pilot.@@N@@.Jvm.D
/-! MADE BY PROGRAM (witnessworld.py) out of the Statement's table words and the real class files: 11 classes; the members and pool entries that the words name. The judged class is class 1, her method 1. -/
namespace start1
open Jvm.ClassFile
def u (s : String) : CpInfo := .utf8 (stringToUtf16 s)
/-- a pool by its gaps: so many unusable entries, then the entry; so many at the end -/
def gap : Nat → List CpInfo → List CpInfo
  | 0, r => r
  | n + 1, r => .unusable :: gap n r
def poolList (es : List (Nat × CpInfo)) (last : Nat) : List CpInfo := es.foldr (fun e r => gap e.1 (e.2 :: r)) (gap last [])
def pool (es : List (Nat × CpInfo)) (last : Nat) : Array CpInfo := ⟨poolList es last⟩
def fileOf (pool : Array CpInfo) (this : Nat) (attrs : Array Attribute := #[]) (ms : Array MethodInfo := #[]) (fl : Nat := 33) (sup : Nat := 0) (ifs : Array Nat := #[]) (fds : Array FieldInfo := #[]) : ClassFile where
  minorVersion := 0
  majorVersion := 65
  constantPool := pool
  accessFlags := fl
  thisClass := this
  superClass := sup
  interfaces := ifs
  fields := fds
  methods := ms
  attributes := attrs
def plain (name : String) (sup : Option ClassId) : Class where
  name := name
  kind := .ordinary
  loader := none
  accessFlags := 33
  super := sup
  interfaces := #[]
  cf := none
  fields := #[]
  methods := #[]
  instanceTypes := #[]
  staticTypes := #[]
  resolved := #[]
  callSites := []
  init := .initialized
  statics := none
  mirror := none

def pool0 : Array CpInfo := pool [(5, u "<init>"), (0, u "()V"), (1, .class_ 10), (1, u "java/lang/Object")] 113

def k0c0 : Code := { maxStack := 0, maxLocals := 1, code := object_method_1_code, exceptionTable := #[], attributes := #[] }
def k0m0 : Method := { name := "<init>", desc := "()V", sig := { parameters := [], returnType := none }, accessFlags := 1, code := some k0c0 }
/-- java/lang/Object -/
def k0 : Class := { plain "java/lang/Object" none with
  accessFlags := 33
  interfaces := #[]
  cf := some (fileOf pool0 8 #[] #[{ accessFlags := 1, nameIndex := 5, descriptorIndex := 6, attributes := #[] }] 33 0 #[] #[])
  fields := #[]
  methods := #[k0m0]
  instanceTypes := #[]
  staticTypes := #[]
  resolved := Array.replicate 124 none
  statics := none }

def pool1 : Array CpInfo := pool [(2, .class_ 4), (1, u "java/lang/Object"), (0, u "<init>"), (0, u "()V"), (0, .long 18446744073709551615), (1, .long 6148914691236517205), (1, .long 3689348814741910323), (1, .class_ 14), (0, u "com/example/garantia/garantia/engine/StateLayout"), (0, .methodref 13 16), (0, .nameAndType 5 17), (0, u "([I)V"), (0, .methodref 13 19), (0, .nameAndType 20 21), (0, u "unpack"), (0, u "([JI[I)V"), (0, .methodref 23 24), (0, .class_ 25), (0, .nameAndType 26 27), (0, u "com/example/garantia/garantia/engine/StateLayoutUnpackPinLaw"), (0, u "pick"), (0, u "(JJI)J"), (0, .methodref 23 29), (0, .nameAndType 30 31), (0, u "ref"), (0, u "(JII)I"), (2, u "law"), (0, u "(JJII)Z")] 7

def k1m0 : Method := { name := "<init>", desc := "()V", sig := { parameters := [], returnType := none }, accessFlags := 1, code := none }
def k1c1 : Code := { maxStack := 6, maxLocals := 26, code := code, exceptionTable := #[], attributes := #[] }
def k1m1 : Method := { name := "law", desc := "(JJII)Z", sig := { parameters := [.long, .long, .int, .int], returnType := some .boolean }, accessFlags := 9, code := some k1c1 }
def k1c2 : Code := { maxStack := 2, maxLocals := 5, code := method_3_code, exceptionTable := #[], attributes := #[] }
def k1m2 : Method := { name := "pick", desc := "(JJI)J", sig := { parameters := [.long, .long, .int], returnType := some .long }, accessFlags := 10, code := some k1c2 }
def k1c3 : Code := { maxStack := 4, maxLocals := 4, code := method_4_code, exceptionTable := #[], attributes := #[] }
def k1m3 : Method := { name := "ref", desc := "(JII)I", sig := { parameters := [.long, .int, .int], returnType := some .int }, accessFlags := 10, code := some k1c3 }
/-- com/example/garantia/garantia/engine/StateLayoutUnpackPinLaw -/
def k1 : Class := { plain "com/example/garantia/garantia/engine/StateLayoutUnpackPinLaw" (some 0) with
  accessFlags := 49
  interfaces := #[]
  cf := some (fileOf pool1 23 #[] #[{ accessFlags := 1, nameIndex := 5, descriptorIndex := 6, attributes := #[] }, { accessFlags := 9, nameIndex := 34, descriptorIndex := 35, attributes := #[] }, { accessFlags := 10, nameIndex := 26, descriptorIndex := 27, attributes := #[] }, { accessFlags := 10, nameIndex := 30, descriptorIndex := 31, attributes := #[] }] 49 2 #[] #[])
  fields := #[]
  methods := #[k1m0, k1m1, k1m2, k1m3]
  instanceTypes := #[]
  staticTypes := #[]
  resolved := Array.replicate 43 none
  statics := none }

def pool2 : Array CpInfo := pool [(1, .methodref 2 3), (0, .class_ 4), (0, .nameAndType 5 6), (0, u "java/lang/Object"), (0, u "<init>"), (0, u "()V"), (0, .fieldref 8 9), (0, .class_ 10), (0, .nameAndType 11 12), (0, u "com/example/garantia/garantia/engine/StateLayout"), (0, u "word"), (0, u "[I"), (0, .fieldref 8 14), (0, .nameAndType 15 12), (0, u "shift"), (0, .fieldref 8 17), (0, .nameAndType 18 19), (0, u "mask"), (0, u "[J"), (0, .fieldref 8 21), (0, .nameAndType 22 19), (0, u "others"), (2, .long 18446744073709551615), (1, .fieldref 8 28), (0, .nameAndType 29 30), (0, u "words"), (0, u "I"), (2, .fieldref 8 34), (0, .nameAndType 35 36), (0, u "narrow"), (0, u "Z"), (0, u "([I)V"), (13, u "unpack"), (0, u "([JI[I)V")] 2

def k2c0 : Code := { maxStack := 6, maxLocals := 5, code := prog_46_method_1_code, exceptionTable := #[], attributes := #[] }
def k2m0 : Method := { name := "<init>", desc := "([I)V", sig := { parameters := [(.array .int)], returnType := none }, accessFlags := 0, code := some k2c0 }
def k2c1 : Code := { maxStack := 6, maxLocals := 5, code := prog_46_method_8_code, exceptionTable := #[], attributes := #[] }
def k2m1 : Method := { name := "unpack", desc := "([JI[I)V", sig := { parameters := [(.array .long), .int, (.array .int)], returnType := none }, accessFlags := 0, code := some k2c1 }
/-- com/example/garantia/garantia/engine/StateLayout -/
def k2 : Class := { plain "com/example/garantia/garantia/engine/StateLayout" (some 0) with
  accessFlags := 32
  interfaces := #[]
  cf := some (fileOf pool2 8 #[] #[{ accessFlags := 0, nameIndex := 5, descriptorIndex := 37, attributes := #[] }, { accessFlags := 0, nameIndex := 51, descriptorIndex := 52, attributes := #[] }] 32 2 #[] #[{ accessFlags := 18, nameIndex := 11, descriptorIndex := 12, attributes := #[] }, { accessFlags := 18, nameIndex := 15, descriptorIndex := 12, attributes := #[] }, { accessFlags := 18, nameIndex := 18, descriptorIndex := 19, attributes := #[] }, { accessFlags := 18, nameIndex := 22, descriptorIndex := 19, attributes := #[] }, { accessFlags := 18, nameIndex := 29, descriptorIndex := 30, attributes := #[] }, { accessFlags := 18, nameIndex := 35, descriptorIndex := 36, attributes := #[] }])
  fields := #[{ name := "word", type := (.array .int), accessFlags := 18, slot := 0, constantValue := 0 }, { name := "shift", type := (.array .int), accessFlags := 18, slot := 1, constantValue := 0 }, { name := "mask", type := (.array .long), accessFlags := 18, slot := 2, constantValue := 0 }, { name := "others", type := (.array .long), accessFlags := 18, slot := 3, constantValue := 0 }, { name := "words", type := .int, accessFlags := 18, slot := 4, constantValue := 0 }, { name := "narrow", type := .boolean, accessFlags := 18, slot := 5, constantValue := 0 }]
  methods := #[k2m0, k2m1]
  instanceTypes := #[(.array .int), (.array .int), (.array .long), (.array .long), .int, .boolean]
  staticTypes := #[]
  resolved := Array.replicate 55 none
  statics := none }

def pool3 : Array CpInfo := pool [(1, u "java/lang/Cloneable"), (0, .class_ 1), (0, u "java/lang/Object"), (0, .class_ 3)] 3

/-- java/lang/Cloneable -/
def k3 : Class := { plain "java/lang/Cloneable" (some 0) with
  accessFlags := 1537
  interfaces := #[]
  cf := some (fileOf pool3 2 #[] #[] 1537 4 #[] #[])
  fields := #[]
  methods := #[]
  instanceTypes := #[]
  staticTypes := #[]
  resolved := Array.replicate 8 none
  statics := none }

def pool4 : Array CpInfo := pool [(1, u "java/io/Serializable"), (0, .class_ 1), (0, u "java/lang/Object"), (0, .class_ 3)] 3

/-- java/io/Serializable -/
def k4 : Class := { plain "java/io/Serializable" (some 0) with
  accessFlags := 1537
  interfaces := #[]
  cf := some (fileOf pool4 2 #[] #[] 1537 4 #[] #[])
  fields := #[]
  methods := #[]
  instanceTypes := #[]
  staticTypes := #[]
  resolved := Array.replicate 8 none
  statics := none }

/-- the primitive byte -/
def k5 : Class := { plain "byte" none with kind := .primitive 'B', accessFlags := 0x411 }
/-- [B -/
def k6 : Class := { plain "[B" (some 0) with kind := .array 5 .byte, interfaces := #[3, 4], accessFlags := 1041 }

/-- the primitive int -/
def k7 : Class := { plain "int" none with kind := .primitive 'I', accessFlags := 0x411 }
/-- [I -/
def k8 : Class := { plain "[I" (some 0) with kind := .array 7 .int, interfaces := #[3, 4], accessFlags := 1041 }

/-- the primitive long -/
def k9 : Class := { plain "long" none with kind := .primitive 'J', accessFlags := 0x411 }
/-- [J -/
def k10 : Class := { plain "[J" (some 0) with kind := .array 9 .long, interfaces := #[3, 4], accessFlags := 1041 }

def heap : Heap := #[]
def classes : Array Class := #[k0, k1, k2, k3, k4, k5, k6, k7, k8, k9, k10]
def interned : List (Array UInt16 × Addr) := []
def slotsUsed : Nat := 0
def theMethod : MethodId := ⟨1, 1⟩
def args0 : Array Value := #[.long 5, .long 6, .int 7, .int 8]
def aboutOver (below : List Frame) : State where
  vm := { classes := classes, interned := interned.toArray }
  heap := heap
  slotsUsed := slotsUsed
  threads := #[{ frames := .invoking theMethod args0 :: below }]
def below0 : List Frame := [.native { method := ⟨0, 0⟩, args := #[] }]
def about1 : State := aboutOver below0
def p0 : Program := .bare "" "" ""
def e0 : Env := launch0.env 0 0 0
theorem w_frames : about1.frames = Frame.invoking theMethod args0 :: below0 := rfl
set_option maxRecDepth 65536 in
theorem w_args : argsFit about1.vm theMethod args0 = true := by decide +kernel
set_option maxRecDepth 65536 in
theorem w_heap : heapFits about1 = true := by decide +kernel
set_option maxRecDepth 65536 in
theorem w_runnable : about1.curStatus? = some .runnable := by decide +kernel
set_option maxRecDepth 65536 in
theorem w_alone : about1.alone = true := by decide +kernel
set_option maxRecDepth 65536 in
theorem w_named : about1.methodNamed? x = some theMethod := by decide +kernel
set_option maxRecDepth 65536 in
theorem w_hears : about1.hears theMethod below0 = true := by decide +kernel
set_option maxRecDepth 65536 in
theorem w_ripe : about1.ripe theMethod args0 below0 = true := by decide +kernel
theorem w_running : about1.status = .running := rfl
set_option maxRecDepth 65536 in
theorem w_room : about1.hasRoom e0.platform room_1 = true :=
  launch0.hasRoom_least _ room_1 (by decide +kernel) (by decide +kernel) (by decide +kernel) (by decide +kernel) (by decide +kernel) (by decide +kernel)
theorem allAtoms_all (ts : List Jvm.Cond) (a : Array Jvm.Value) (st : Jvm.State) : (allAtoms ts).before a st = ts.all (fun c => c.before a st) := by
  induction ts with
  | nil => rfl
  | cons c t ih =>
    show (Jvm.Cond.and c (allAtoms t)).before a st = _
    rw [Jvm.Cond.before_and, ih, List.all_cons]
def words1 : List Jvm.Cond := Jvm.Cond.code x code maxLocals ret :: tables_1
/-- a 'code' word, met by the world's own term for the bytes: nothing is compared byte by byte -/
theorem code_word {y : MethodName} {bytes : ByteArray} {mx : Nat} {rt : Option FieldType} {a : Array Value} {s : State} {m : MethodId} {meth : Method} {c : Code} (h1 : s.methodNamed? y = some m) (h2 : s.vm.method? m = some meth) (h3 : meth.code = some c) (h4 : c.code = bytes)
    (h5 : (c.maxLocals == mx && c.exceptionTable.isEmpty && decide (c.maxStack ≤ mostOperands) && decide (meth.sig.returnType = rt) && !meth.locks && decide (parseMethodDescriptor y.desc = some meth.sig)) = true) : (Jvm.Cond.code y bytes mx rt).before a s = true := by
  simp only [Bool.and_eq_true, beq_iff_eq, Bool.not_eq_true', decide_eq_true_eq] at h5
  obtain ⟨⟨⟨⟨⟨g1, g2⟩, g3⟩, g4⟩, g5⟩, g6⟩ := h5
  simp [Cond.before, Cond.holds, Cond.value, h1, h2, h3, h4, g1, g2, g3, g4, g5, g6]
def isCode : Jvm.Cond → Bool
  | .code _ _ _ _ => true
  | _ => false
theorem all_split {L : List Jvm.Cond} {P : Jvm.Cond → Bool} (h1 : L.all (fun c => isCode c || P c) = true) (h2 : ∀ c ∈ L.filter isCode, P c = true) : L.all P = true := by
  refine List.all_eq_true.mpr fun c hc => ?_
  have h := List.all_eq_true.mp h1 c hc
  rcases Bool.eq_false_or_eq_true (isCode c) with hi | hi
  · exact h2 c (List.mem_filter.mpr ⟨hc, hi⟩)
  · simpa [hi] using h
set_option maxRecDepth 65536 in
theorem w_c0 : (Jvm.Cond.code x code maxLocals ret).before args0 about1 = true := code_word (m := ⟨1, 1⟩) (meth := k1m1) (c := k1c1) (by decide +kernel) rfl rfl rfl (by decide +kernel)
set_option maxRecDepth 65536 in
theorem w_c1 : (Jvm.Cond.code ({ cls := "com/example/garantia/garantia/engine/StateLayout", name := "<init>", desc := "([I)V" } : Jvm.MethodName) prog_46_method_1_code (5 : Nat) (Option.none : Option Jvm.ClassFile.FieldType)).before args0 about1 = true := code_word (m := ⟨2, 0⟩) (meth := k2m0) (c := k2c0) (by decide +kernel) rfl rfl rfl (by decide +kernel)
set_option maxRecDepth 65536 in
theorem w_c2 : (Jvm.Cond.code ({ cls := "java/lang/Object", name := "<init>", desc := "()V" } : Jvm.MethodName) object_method_1_code (1 : Nat) (Option.none : Option Jvm.ClassFile.FieldType)).before args0 about1 = true := code_word (m := ⟨0, 0⟩) (meth := k0m0) (c := k0c0) (by decide +kernel) rfl rfl rfl (by decide +kernel)
set_option maxRecDepth 65536 in
theorem w_c3 : (Jvm.Cond.code ({ cls := "com/example/garantia/garantia/engine/StateLayout", name := "unpack", desc := "([JI[I)V" } : Jvm.MethodName) prog_46_method_8_code (5 : Nat) (Option.none : Option Jvm.ClassFile.FieldType)).before args0 about1 = true := code_word (m := ⟨2, 1⟩) (meth := k2m1) (c := k2c1) (by decide +kernel) rfl rfl rfl (by decide +kernel)
set_option maxRecDepth 65536 in
theorem w_c4 : (Jvm.Cond.code ({ cls := "com/example/garantia/garantia/engine/StateLayoutUnpackPinLaw", name := "pick", desc := "(JJI)J" } : Jvm.MethodName) method_3_code (5 : Nat) (Option.some Jvm.ClassFile.FieldType.long)).before args0 about1 = true := code_word (m := ⟨1, 2⟩) (meth := k1m2) (c := k1c2) (by decide +kernel) rfl rfl rfl (by decide +kernel)
set_option maxRecDepth 65536 in
theorem w_c5 : (Jvm.Cond.code ({ cls := "com/example/garantia/garantia/engine/StateLayoutUnpackPinLaw", name := "ref", desc := "(JII)I" } : Jvm.MethodName) method_4_code (4 : Nat) (Option.some Jvm.ClassFile.FieldType.int)).before args0 about1 = true := code_word (m := ⟨1, 3⟩) (meth := k1m3) (c := k1c3) (by decide +kernel) rfl rfl rfl (by decide +kernel)
def codes1 : List Jvm.Cond := [Jvm.Cond.code x code maxLocals ret, Jvm.Cond.code ({ cls := "com/example/garantia/garantia/engine/StateLayout", name := "<init>", desc := "([I)V" } : Jvm.MethodName) prog_46_method_1_code (5 : Nat) (Option.none : Option Jvm.ClassFile.FieldType), Jvm.Cond.code ({ cls := "java/lang/Object", name := "<init>", desc := "()V" } : Jvm.MethodName) object_method_1_code (1 : Nat) (Option.none : Option Jvm.ClassFile.FieldType), Jvm.Cond.code ({ cls := "com/example/garantia/garantia/engine/StateLayout", name := "unpack", desc := "([JI[I)V" } : Jvm.MethodName) prog_46_method_8_code (5 : Nat) (Option.none : Option Jvm.ClassFile.FieldType), Jvm.Cond.code ({ cls := "com/example/garantia/garantia/engine/StateLayoutUnpackPinLaw", name := "pick", desc := "(JJI)J" } : Jvm.MethodName) method_3_code (5 : Nat) (Option.some Jvm.ClassFile.FieldType.long), Jvm.Cond.code ({ cls := "com/example/garantia/garantia/engine/StateLayoutUnpackPinLaw", name := "ref", desc := "(JII)I" } : Jvm.MethodName) method_4_code (4 : Nat) (Option.some Jvm.ClassFile.FieldType.int)]
set_option maxRecDepth 65536 in
theorem codes_eq : words1.filter isCode = codes1 := rfl
theorem w_codes : ∀ c ∈ words1.filter isCode, c.before args0 about1 = true := by
  rw [codes_eq]
  intro c hc
  simp only [codes1, List.mem_cons, List.not_mem_nil, or_false] at hc
  rcases hc with rfl | rfl | rfl | rfl | rfl | rfl
  · exact w_c0
  · exact w_c1
  · exact w_c2
  · exact w_c3
  · exact w_c4
  · exact w_c5
set_option maxRecDepth 65536 in
theorem w_t1 : (words1.take 24).all (fun c => isCode c || c.before args0 about1) = true := by decide +kernel
set_option maxRecDepth 65536 in
theorem w_t2 : (words1.drop 24).all (fun c => isCode c || c.before args0 about1) = true := by decide +kernel
theorem w_tables : (allAtoms (Jvm.Cond.code x code maxLocals ret :: tables_1)).before args0 about1 = true := by
  rw [allAtoms_all]
  show words1.all (fun c => c.before args0 about1) = true
  refine all_split ?_ w_codes
  rw [← List.take_append_drop 24 words1, List.all_append, w_t1, w_t2]
  rfl
set_option maxRecDepth 65536 in
theorem w_case : (Jvm.Cond.and given_1 narrow_1).before args0 about1 = true := by decide +kernel
theorem w_applies : (headSpec (Jvm.Cond.code x code maxLocals ret :: tables_1) room_1).applies x e0.platform about1 = true :=
  (Spec.applies_iff w_frames).mpr ⟨w_running, w_runnable, w_alone, w_named, w_hears, w_ripe, w_room, w_tables⟩
theorem atStart : AtStart classFile x code maxLocals ret World_1 tables_1 room_1 Calls_1 rest_1 Pre_1 launch0 p0 e0 about1 theMethod args0 below0 :=
  ⟨lists_1, trivial, launch0.admits_env _ _ _, launch0.least_env, fairChoices_fair.cas, fairChoices_fair.clock, w_frames, w_args, w_heap, w_applies, trivial, trivial, w_case⟩
end start1
theorem witness_1 : WitnessClaimed_1 := ⟨start1.p0, start1.e0, start1.about1, start1.theMethod, start1.args0, start1.below0, start1.atStart⟩
end Jvm.Pilot.@@N@@
