import JvmDerived
import JvmDerived.Pilot.@@N@@Statement
import JvmDerived.Pilot.@@N@@Code
set_option linter.unusedVariables false
set_option linter.unusedSimpArgs false
namespace Jvm.RoadKit
open Sem ClassFile Op Lib Jvm.Stand Jvm.Free Jvm.LawKit
abbrev vI (x : Int32) : Slot := .val (.int x)
abbrev vJ (x : Int64) : Slot := .val (.long x)
abbrev vR (a : Addr) : Slot := .val (.ref a)
/-- from S0 the run comes to T with g on top -/
def Go (tb : Tables) (e : Env) (below : List Frame) (S0 T : State) (g : JFrame) : Prop := ∀ t, Steps tb e below (T.setTop g) t → Steps tb e below S0 t
theorem Go.fin {tb : Tables} {e : Env} {below : List Frame} {S0 S T t : State} {g : JFrame} (h : Go tb e below S0 T g) (q : S0 = S) (k : Steps tb e below (T.setTop g) t) : Steps tb e below S t := q ▸ h t k
section New
variable {p : Program} {l : Launch} {e : Env} {R : Room} {s : State} {m : MethodId} {args : Array Value} {below : List Frame} {meth : Method} {c : Code} {T : State} {locs : List Loc} {cells slots : Nat}
theorem retI (X : Stand p l e R s m args below meth c T locs cells slots) (hx : p.tables.exec = Jvm.exec) {pc : Nat} {Ls : Array Slot} {z : Int32} {rest : List Value} (hret : meth.sig.returnType = some .int) (hd : decode c.code pc = .ok (.ireturn, 1)) {fs : List Frame}
    (hl : ∀ (f : JFrame) (acts : List Action), f.method = m → f.locked = none → f.entered = [] → (doReturn e (T.setTop f) acts (some (.int z))).1 = T.setFrames fs) : Steps p.tables e below (T.setTop (mkF m pc Ls (.int z :: rest))) (T.setFrames fs) := by
  have hm' : T.vm.method? m = some meth := X.method'
  have hn : narrow .int (.int z) = .int z := rfl
  show Steps p.tables e below (T.setTop { method := m, pc := pc, locals := Ls, stack := _ :: rest, locked := none }) _
  jvm_step X.here [X.here.top, hx, hd, hm', hret, hn]
  first | (intro acts; rw [hl _ acts rfl rfl rfl]) | rw [hl _ _ rfl rfl rfl]
  exact Steps.refl _
theorem retJ (X : Stand p l e R s m args below meth c T locs cells slots) (hx : p.tables.exec = Jvm.exec) {pc : Nat} {Ls : Array Slot} {z : Int64} {rest : List Value} (hret : meth.sig.returnType = some .long) (hd : decode c.code pc = .ok (.lreturn, 1)) {fs : List Frame}
    (hl : ∀ (f : JFrame) (acts : List Action), f.method = m → f.locked = none → f.entered = [] → (doReturn e (T.setTop f) acts (some (.long z))).1 = T.setFrames fs) : Steps p.tables e below (T.setTop (mkF m pc Ls (.long z :: rest))) (T.setFrames fs) := by
  have hm' : T.vm.method? m = some meth := X.method'
  have hn : narrow .long (.long z) = .long z := rfl
  show Steps p.tables e below (T.setTop { method := m, pc := pc, locals := Ls, stack := _ :: rest, locked := none }) _
  jvm_step X.here [X.here.top, hx, hd, hm', hret, hn]
  first | (intro acts; rw [hl _ acts rfl rfl rfl]) | rw [hl _ _ rfl rfl rfl]
  exact Steps.refl _
end New
end Jvm.RoadKit
namespace Jvm.Pilot.@@N@@
open Jvm Jvm.ClassFile Sem Op Lib Jvm.Free Jvm.Stand Jvm.LawKit Jvm.RoadKit Bundle Jvm.Pilot.@@N@@.Jvm.D
def own_put (q j : Int32) (w x : Int32) : Int32 := if q = j then w else x
def own_putL (q j : Int32) (w x : Int64) : Int64 := if q = j then w else x
theorem own_getI (xs : List Int32) (k : Nat) : (xs.map Value.int).getD k (.int (0 : Int32)) = .int (xs.getD k 0) := by
  induction xs generalizing k with
  | nil => rfl
  | cons a t ih => cases k with
    | zero => rfl
    | succ n => exact ih n
theorem own_getJ (xs : List Int64) (k : Nat) : (xs.map Value.long).getD k (.long (0 : Int64)) = .long (xs.getD k 0) := by
  induction xs generalizing k with
  | nil => rfl
  | cons a t ih => cases k with
    | zero => rfl
    | succ n => exact ih n
def own_cur (c u w : Int32) : Int32 := if (64 : Int32) < (u + w) then c + (1 : Int32) else c
def own_u0 (u w : Int32) : Int32 := if (64 : Int32) < (u + w) then (0 : Int32) else u
def own_mask (w : Int32) : Int64 := ((1 : Int64) <<< (w &&& 0x3f).toInt64) - (1 : Int64)
def own_oth (w u : Int32) : Int64 := ((((1 : Int64) <<< (w &&& 0x3f).toInt64) - (1 : Int64)) <<< (u &&& 0x3f).toInt64) ^^^ (-1 : Int64)
theorem own_no1 {w : Int32} (h : 0 ≤ w.toInt ∧ w.toInt ≤ 31) : ¬ ((64 : Int32) < ((0 : Int32) + w)) := by
  have a := c_iadd (0 : Int32) w
  have b := rng32 ((0 : Int32) + w)
  simp only [Int32.lt_iff_toInt_lt, Int32.reduceToInt] at *; omega
theorem own_no2 {w v : Int32} (h : 0 ≤ w.toInt ∧ w.toInt ≤ 31) (h2 : 0 ≤ v.toInt ∧ v.toInt ≤ 31) : ¬ ((64 : Int32) < (((0 : Int32) + w) + v)) := by
  have a := c_iadd (0 : Int32) w
  have b := rng32 ((0 : Int32) + w)
  have a2 := c_iadd ((0 : Int32) + w) v
  have b2 := rng32 (((0 : Int32) + w) + v)
  simp only [Int32.lt_iff_toInt_lt, Int32.reduceToInt] at *; omega
theorem own_setJ2 {q : Int32} {w x0 x1 : Int64} (hq : ¬ q < 0 ∧ q < (2 : Int32)) : q.toNatClampNeg < 2 ∧ [Value.long x0, Value.long x1].set q.toNatClampNeg (Value.long w) = [Value.long (own_putL q (0 : Int32) w x0), Value.long (own_putL q (1 : Int32) w x1)] := by
  have h : q = (0 : Int32) ∨ q = (1 : Int32) := by
    simp only [Int32.lt_iff_toInt_lt, ← Int32.toInt_inj, Int32.reduceToInt] at *
    omega
  rcases h with rfl | rfl <;> exact ⟨by decide, rfl⟩
theorem own_setI4 {q : Int32} {w x0 x1 x2 x3 : Int32} (hq : ¬ q < 0 ∧ q < (4 : Int32)) : q.toNatClampNeg < 4 ∧ [Value.int x0, Value.int x1, Value.int x2, Value.int x3].set q.toNatClampNeg (Value.int w) = [Value.int (own_put q (0 : Int32) w x0), Value.int (own_put q (1 : Int32) w x1), Value.int (own_put q (2 : Int32) w x2), Value.int (own_put q (3 : Int32) w x3)] := by
  have h : q = (0 : Int32) ∨ q = (1 : Int32) ∨ q = (2 : Int32) ∨ q = (3 : Int32) := by
    simp only [Int32.lt_iff_toInt_lt, ← Int32.toInt_inj, Int32.reduceToInt] at *
    omega
  rcases h with rfl | rfl | rfl | rfl <;> exact ⟨by decide, rfl⟩
theorem own_st {c u w c' u' : Int32} (hw : 0 ≤ w.toInt ∧ w.toInt ≤ 31) (hu : 0 ≤ u.toInt ∧ u.toInt ≤ 64) (h : c' = own_cur c u w ∧ u' = own_u0 u w) :
    (u.toInt + w.toInt ≤ 64 ∧ c' = c ∧ u' = u) ∨ (64 < u.toInt + w.toInt ∧ c' = c + (1 : Int32) ∧ u' = (0 : Int32)) := by
  obtain ⟨rfl, rfl⟩ := h
  have a := c_iadd u w
  have b := rng32 (u + w)
  unfold own_cur own_u0
  by_cases q : (64 : Int32) < (u + w)
  · refine Or.inr ⟨?_, if_pos q, if_pos q⟩
    simp only [Int32.lt_iff_toInt_lt, Int32.reduceToInt] at q; omega
  · refine Or.inl ⟨?_, if_neg q, if_neg q⟩
    simp only [Int32.lt_iff_toInt_lt, Int32.reduceToInt] at q; omega
theorem own_sum {u w : Int32} (hw : 0 ≤ w.toInt ∧ w.toInt ≤ 31) (hu : 0 ≤ u.toInt ∧ u.toInt ≤ 64) : (u + w).toInt = u.toInt + w.toInt := by
  have a := c_iadd u w
  have b := rng32 (u + w)
  omega
theorem own_two {w0 w1 : Int32} (h0 : 0 ≤ w0.toInt ∧ w0.toInt ≤ 31) (h1 : 0 ≤ w1.toInt ∧ w1.toInt ≤ 31) : (((0 : Int32) + w0) + w1).toInt = w0.toInt + w1.toInt := by
  have a := c_iadd (0 : Int32) w0
  have b := rng32 ((0 : Int32) + w0)
  have a2 := c_iadd ((0 : Int32) + w0) w1
  have b2 := rng32 (((0 : Int32) + w0) + w1)
  have t : (0 : Int32).toInt = 0 := rfl
  omega
theorem own_pat4 {w0 w1 w2 w3 c2 u2 c3 u3 : Int32} (h0 : 0 ≤ w0.toInt ∧ w0.toInt ≤ 31) (h1 : 0 ≤ w1.toInt ∧ w1.toInt ≤ 31) (h2 : 0 ≤ w2.toInt ∧ w2.toInt ≤ 31) (h3 : 0 ≤ w3.toInt ∧ w3.toInt ≤ 31)
    (e2 : c2 = own_cur (0 : Int32) (((0 : Int32) + w0) + w1) w2 ∧ u2 = own_u0 (((0 : Int32) + w0) + w1) w2) (e3 : c3 = own_cur c2 (u2 + w2) w3 ∧ u3 = own_u0 (u2 + w2) w3) :
    (c2 = (0 : Int32) ∧ c3 = (0 : Int32) ∧ 0 ≤ u3.toInt ∧ u3.toInt + w3.toInt ≤ 64) ∨ (c2 = (0 : Int32) ∧ c3 = (1 : Int32) ∧ u3 = (0 : Int32)) ∨ (c2 = (1 : Int32) ∧ c3 = (1 : Int32) ∧ 0 ≤ u3.toInt ∧ u3.toInt + w3.toInt ≤ 64) := by
  have t := own_two h0 h1
  rcases own_st h2 (by omega) e2 with ⟨a, rfl, rfl⟩ | ⟨a, rfl, rfl⟩
  · have s2 := own_sum h2 (u := ((0 : Int32) + w0) + w1) (by omega)
    rcases own_st h3 (by omega) e3 with ⟨b, rfl, rfl⟩ | ⟨b, rfl, rfl⟩
    · exact Or.inl ⟨rfl, rfl, by omega, by omega⟩
    · exact Or.inr (Or.inl ⟨rfl, rfl, rfl⟩)
  · have s2 := own_sum h2 (u := (0 : Int32)) (by decide)
    have z : (0 : Int32).toInt = 0 := rfl
    rcases own_st h3 (by omega) e3 with ⟨b, rfl, rfl⟩ | ⟨b, rfl, rfl⟩
    · exact Or.inr (Or.inr ⟨rfl, rfl, by omega, by omega⟩)
    · exfalso; omega
theorem own_n64 {k : Int32} (h : 0 ≤ k.toInt ∧ k.toInt < 64) : ∃ n : Fin 64, k = Int32.ofNat n.val ∧ k.toInt = n.val := by
  refine ⟨⟨k.toInt.toNat, by omega⟩, ?_, ?_⟩
  · apply Int32.toInt_inj.mp; rw [Int32.toInt_ofNat_of_lt (by show k.toInt.toNat < _; omega)]; show _ = ((k.toInt.toNat : Nat) : Int); omega
  · show _ = ((k.toInt.toNat : Nat) : Int); omega
theorem own_t1 : ∀ n : Fin 64, (Int32.ofNat n.val &&& 0x3f).toInt64.toBitVec.smod 64 = BitVec.ofNat 64 n.val := by decide +kernel
theorem own_t2 : ∀ n : Fin 64, ((Int32.ofNat n.val &&& 0x3f).toInt64.toUInt64 % 64).toBitVec = BitVec.ofNat 64 n.val := by decide +kernel
theorem own_t3 : ∀ n : Fin 32, (((1 : Int64) <<< (Int32.ofNat n.val &&& 0x3f).toInt64) - (1 : Int64)).toBitVec = BitVec.ofNat 64 (2 ^ n.val - 1) := by decide +kernel
theorem own_shl (x : Int64) {k : Int32} {n : Nat} (h : k.toInt = n) (hn : n < 64) : (x <<< (k &&& 0x3f).toInt64).toBitVec = x.toBitVec <<< n := by
  obtain ⟨m, rfl, e⟩ := own_n64 (k := k) (by omega)
  have : n = m.val := by omega
  subst this
  show x.toBitVec <<< ((Int32.ofNat m.val &&& 0x3f).toInt64.toBitVec.smod 64) = _
  rw [own_t1 m, BitVec.shiftLeft_eq', BitVec.toNat_ofNat, Nat.mod_eq_of_lt (by omega)]
theorem own_shr (x : Int64) {k : Int32} {n : Nat} (h : k.toInt = n) (hn : n < 64) : ((x.toUInt64 >>> (k &&& 0x3f).toInt64.toUInt64).toInt64).toBitVec = x.toBitVec >>> n := by
  obtain ⟨m, rfl, e⟩ := own_n64 (k := k) (by omega)
  have : n = m.val := by omega
  subst this
  show x.toBitVec >>> ((Int32.ofNat m.val &&& 0x3f).toInt64.toUInt64 % 64).toBitVec = _
  rw [own_t2 m, BitVec.ushiftRight_eq', BitVec.toNat_ofNat, Nat.mod_eq_of_lt (by omega)]
theorem own_msk {k : Int32} {n : Nat} (h : k.toInt = n) (hn : n < 32) : (((1 : Int64) <<< (k &&& 0x3f).toInt64) - (1 : Int64)).toBitVec = BitVec.ofNat 64 (2 ^ n - 1) := by
  obtain ⟨m, rfl, e⟩ := own_n64 (k := k) (by omega)
  have : n = m.val := by omega
  subst this
  exact own_t3 ⟨m.val, hn⟩
theorem own_mbit (n i : Nat) (hn : n ≤ 64) : (BitVec.ofNat 64 (2 ^ n - 1)).getLsbD i = decide (i < n) := by
  rw [BitVec.getLsbD_ofNat, Nat.testBit_two_pow_sub_one]
  by_cases h : i < n
  · simp [h]; omega
  · simp [h]
theorem own_ext (W : BitVec 64) {s b : Nat} (h : s + b ≤ 64) (hb : 0 < b) : (W >>> s) &&& BitVec.ofNat 64 (2 ^ b - 1) = (W <<< (64 - s - b)) >>> (64 - b) := by
  apply BitVec.eq_of_getLsbD_eq
  intro i hi
  rw [BitVec.getLsbD_and, own_mbit b i (by omega), BitVec.getLsbD_ushiftRight, BitVec.getLsbD_ushiftRight, BitVec.getLsbD_shiftLeft]
  by_cases q : i < b
  · have e1 : decide (64 - b + i < 64) = true := decide_eq_true (by omega)
    have e2 : decide (64 - b + i < 64 - s - b) = false := decide_eq_false (by omega)
    have e3 : 64 - b + i - (64 - s - b) = s + i := by omega
    rw [e1, e2, e3]; simp [q]
  · have e1 : decide (64 - b + i < 64) = false := decide_eq_false (by omega)
    rw [e1]; simp [q]

def own_H (B : Int64) (u w x : Int32) : Prop := ∀ k : Nat, (k : Int) < w.toInt → B.toBitVec.getLsbD (u.toInt.toNat + k) = x.toInt64.toBitVec.getLsbD k
def own_Z (B : Int64) (u w : Int32) : Prop := ∀ k : Nat, (k : Int) < w.toInt → B.toBitVec.getLsbD (u.toInt.toNat + k) = false
def own_V (w x : Int32) : Prop := ∀ k : Nat, w.toInt ≤ (k : Int) → x.toInt64.toBitVec.getLsbD k = false
abbrev own_A (x u : Int32) : Int64 := x.toInt64 <<< (u &&& 0x3f).toInt64
theorem own_A_bit {x u : Int32} (hu : 0 ≤ u.toInt ∧ u.toInt < 64) (p : Nat) : (own_A x u).toBitVec.getLsbD p = (decide (p < 64) && !decide (p < u.toInt.toNat) && x.toInt64.toBitVec.getLsbD (p - u.toInt.toNat)) := by
  rw [own_A, own_shl _ (n := u.toInt.toNat) (by omega) (by omega), BitVec.getLsbD_shiftLeft]
theorem own_Z0 (u w : Int32) : own_Z 0 u w := fun k _ => by
  show (0#64).getLsbD _ = false
  exact BitVec.getLsbD_zero
theorem own_ZA {y u u' w w' : Int32} (hu : 0 ≤ u.toInt) (hu' : 0 ≤ u'.toInt ∧ u'.toInt < 64) (V : own_V w' y) (h : u.toInt + w.toInt ≤ u'.toInt ∨ u'.toInt + w'.toInt ≤ u.toInt) : own_Z (own_A y u') u w := fun k hk => by
  rw [own_A_bit hu']
  rcases h with h | h
  · have e : decide (u.toInt.toNat + k < u'.toInt.toNat) = true := decide_eq_true (by omega)
    rw [e]; simp
  · rw [V _ (by omega)]; simp
theorem own_Zor {B B' : Int64} {u w : Int32} (h : own_Z B u w) (h' : own_Z B' u w) : own_Z (B ||| B') u w := fun k hk => by
  show (B.toBitVec ||| B'.toBitVec).getLsbD _ = false
  rw [BitVec.getLsbD_or, h k hk, h' k hk]; rfl
theorem own_Hr {B : Int64} {u w x : Int32} (hu : 0 ≤ u.toInt ∧ u.toInt < 64) (h64 : u.toInt + w.toInt ≤ 64) (h : own_Z B u w) : own_H (B ||| own_A x u) u w x := fun k hk => by
  show (B.toBitVec ||| (own_A x u).toBitVec).getLsbD _ = _
  rw [BitVec.getLsbD_or, h k hk, own_A_bit hu]
  have e1 : decide (u.toInt.toNat + k < 64) = true := decide_eq_true (by omega)
  have e2 : decide (u.toInt.toNat + k < u.toInt.toNat) = false := decide_eq_false (by omega)
  have e3 : u.toInt.toNat + k - u.toInt.toNat = k := by omega
  rw [e1, e2, e3]; simp
theorem own_Hl {B A : Int64} {u w x : Int32} (h : own_H B u w x) (h' : own_Z A u w) : own_H (B ||| A) u w x := fun k hk => by
  show (B.toBitVec ||| A.toBitVec).getLsbD _ = _
  rw [BitVec.getLsbD_or, h k hk, h' k hk, Bool.or_false]
theorem own_oth_bit {w u : Int32} (hu : 0 ≤ u.toInt ∧ u.toInt < 64) (hw : 0 ≤ w.toInt ∧ w.toInt ≤ 31) (p : Nat) (hp : p < 64) : (((((1 : Int64) <<< (w &&& 0x3f).toInt64) - (1 : Int64)) <<< (u &&& 0x3f).toInt64) ^^^ (-1 : Int64)).toBitVec.getLsbD p = !(decide (u.toInt.toNat ≤ p) && decide (p < u.toInt.toNat + w.toInt.toNat)) := by
  show (((((1 : Int64) <<< (w &&& 0x3f).toInt64) - (1 : Int64)) <<< (u &&& 0x3f).toInt64).toBitVec ^^^ (-1 : Int64).toBitVec).getLsbD p = _
  rw [BitVec.getLsbD_xor, own_shl _ (n := u.toInt.toNat) (by omega) (by omega), own_msk (n := w.toInt.toNat) (by omega) (by omega), BitVec.getLsbD_shiftLeft, own_mbit _ _ (by omega)]
  have e : (-1 : Int64).toBitVec.getLsbD p = true := by
    show (BitVec.allOnes 64).getLsbD p = true
    rw [BitVec.getLsbD_allOnes]; exact decide_eq_true hp
  rw [e]
  generalize u.toInt.toNat = U
  generalize w.toInt.toNat = Wn
  by_cases a : U ≤ p
  · have e2 : ¬ p < U := by omega
    by_cases c : p < U + Wn
    · have e3 : p - U < Wn := by omega
      simp [hp, e2, a, c, e3]
    · have e3 : ¬ p - U < Wn := by omega
      simp [hp, e2, a, c, e3]
  · have e2 : p < U := by omega
    simp [e2, a]
abbrev own_N (B : Int64) (v w u : Int32) : Int64 := (B &&& (((((1 : Int64) <<< (w &&& 0x3f).toInt64) - (1 : Int64)) <<< (u &&& 0x3f).toInt64) ^^^ (-1 : Int64))) ||| (v.toInt64 <<< (u &&& 0x3f).toInt64)
theorem own_N_in {B : Int64} {v w u : Int32} (hu : 0 ≤ u.toInt ∧ u.toInt < 64) (hw : 0 ≤ w.toInt ∧ w.toInt ≤ 31) (h64 : u.toInt + w.toInt ≤ 64) (k : Nat) (hk : (k : Int) < w.toInt) : (own_N B v w u).toBitVec.getLsbD (u.toInt.toNat + k) = v.toInt64.toBitVec.getLsbD k := by
  show ((B.toBitVec &&& (((((1 : Int64) <<< (w &&& 0x3f).toInt64) - (1 : Int64)) <<< (u &&& 0x3f).toInt64) ^^^ (-1 : Int64)).toBitVec) ||| (own_A v u).toBitVec).getLsbD _ = _
  rw [BitVec.getLsbD_or, BitVec.getLsbD_and, own_oth_bit hu hw _ (by omega), own_A_bit hu]
  have e1 : decide (u.toInt.toNat + k < 64) = true := decide_eq_true (by omega)
  have e2 : decide (u.toInt.toNat + k < u.toInt.toNat) = false := decide_eq_false (by omega)
  have e3 : u.toInt.toNat + k - u.toInt.toNat = k := by omega
  have e4 : decide (u.toInt.toNat ≤ u.toInt.toNat + k) = true := decide_eq_true (by omega)
  have e5 : decide (u.toInt.toNat + k < u.toInt.toNat + w.toInt.toNat) = true := decide_eq_true (by omega)
  rw [e1, e2, e3, e4, e5]; simp
theorem own_N_out {B : Int64} {v w u : Int32} (hu : 0 ≤ u.toInt ∧ u.toInt < 64) (hw : 0 ≤ w.toInt ∧ w.toInt ≤ 31) (V : own_V w v) (p : Nat) (hp : p < 64) (h : (p : Int) < u.toInt ∨ u.toInt + w.toInt ≤ (p : Int)) : (own_N B v w u).toBitVec.getLsbD p = B.toBitVec.getLsbD p := by
  show ((B.toBitVec &&& (((((1 : Int64) <<< (w &&& 0x3f).toInt64) - (1 : Int64)) <<< (u &&& 0x3f).toInt64) ^^^ (-1 : Int64)).toBitVec) ||| (own_A v u).toBitVec).getLsbD _ = _
  rw [BitVec.getLsbD_or, BitVec.getLsbD_and, own_oth_bit hu hw _ hp, own_A_bit hu]
  rcases h with h | h
  · have e1 : decide (u.toInt.toNat ≤ p) = false := decide_eq_false (by omega)
    have e2 : decide (p < u.toInt.toNat) = true := decide_eq_true (by omega)
    rw [e1, e2]; simp
  · have e1 : decide (p < u.toInt.toNat + w.toInt.toNat) = false := decide_eq_false (by omega)
    rw [e1, V _ (by omega)]; simp
theorem own_NH {B : Int64} {v w u : Int32} (hu : 0 ≤ u.toInt ∧ u.toInt < 64) (hw : 0 ≤ w.toInt ∧ w.toInt ≤ 31) (h64 : u.toInt + w.toInt ≤ 64) : own_H (own_N B v w u) u w v := fun k hk => own_N_in hu hw h64 k hk
theorem own_NHo {B : Int64} {v w u u' w' x' : Int32} (hu : 0 ≤ u.toInt ∧ u.toInt < 64) (hw : 0 ≤ w.toInt ∧ w.toInt ≤ 31) (V : own_V w v) (hu' : 0 ≤ u'.toInt) (h64 : u'.toInt + w'.toInt ≤ 64) (h : u.toInt + w.toInt ≤ u'.toInt ∨ u'.toInt + w'.toInt ≤ u.toInt) (H : own_H B u' w' x') : own_H (own_N B v w u) u' w' x' := fun k hk => by
  rw [own_N_out hu hw V _ (by omega) (by omega)]; exact H k hk
theorem own_x64 (a b : Int32) : (a ^^^ b).toInt64 = a.toInt64 ^^^ b.toInt64 := by
  apply Int64.toBitVec_inj.mp
  show (a.toBitVec ^^^ b.toBitVec).signExtend 64 = a.toBitVec.signExtend 64 ^^^ b.toBitVec.signExtend 64
  exact BitVec.signExtend_xor
theorem own_NX {B : Int64} {v w u x : Int32} (hu : 0 ≤ u.toInt ∧ u.toInt < 64) (hw : 0 ≤ w.toInt ∧ w.toInt ≤ 31) (h64 : u.toInt + w.toInt ≤ 64) (V : own_V w v) (X : own_V w x) (H : own_H B u w x) : own_N B v w u = B ^^^ ((x ^^^ v).toInt64 <<< (u &&& 0x3f).toInt64) := by
  apply Int64.toBitVec_inj.mp
  show _ = B.toBitVec ^^^ (own_A (x ^^^ v) u).toBitVec
  apply BitVec.eq_of_getLsbD_eq
  intro p hp
  rw [BitVec.getLsbD_xor, own_A_bit hu, own_x64]
  show _ = (B.toBitVec.getLsbD p ^^ (decide (p < 64) && !decide (p < u.toInt.toNat) && (x.toInt64.toBitVec ^^^ v.toInt64.toBitVec).getLsbD (p - u.toInt.toNat)))
  rw [BitVec.getLsbD_xor]
  by_cases a : (p : Int) < u.toInt
  · rw [own_N_out hu hw V p hp (Or.inl a)]
    have e : decide (p < u.toInt.toNat) = true := decide_eq_true (by omega)
    rw [e]; simp
  · by_cases c : u.toInt + w.toInt ≤ (p : Int)
    · rw [own_N_out hu hw V p hp (Or.inr c), V _ (by omega), X _ (by omega)]; simp
    · obtain ⟨k, rfl⟩ : ∃ k, p = u.toInt.toNat + k := ⟨p - u.toInt.toNat, by omega⟩
      have hk : (k : Int) < w.toInt := by omega
      rw [own_N_in hu hw h64 k hk, H k hk]
      have e1 : decide (u.toInt.toNat + k < 64) = true := decide_eq_true hp
      have e2 : decide (u.toInt.toNat + k < u.toInt.toNat) = false := decide_eq_false (by omega)
      have e3 : u.toInt.toNat + k - u.toInt.toNat = k := by omega
      rw [e1, e2, e3]
      cases x.toInt64.toBitVec.getLsbD k <;> cases v.toInt64.toBitVec.getLsbD k <;> rfl
theorem own_get {B : Int64} {w u x : Int32} (hu : 0 ≤ u.toInt ∧ u.toInt < 64) (hw : 0 ≤ w.toInt ∧ w.toInt ≤ 31) (X : own_V w x) (H : own_H B u w x) : ((((B.toUInt64 >>> (u &&& 0x3f).toInt64.toUInt64).toInt64) &&& (((1 : Int64) <<< (w &&& 0x3f).toInt64) - (1 : Int64))).toInt32) = x := by
  have e : (((B.toUInt64 >>> (u &&& 0x3f).toInt64.toUInt64).toInt64) &&& (((1 : Int64) <<< (w &&& 0x3f).toInt64) - (1 : Int64))) = x.toInt64 := by
    apply Int64.toBitVec_inj.mp
    show ((B.toUInt64 >>> (u &&& 0x3f).toInt64.toUInt64).toInt64).toBitVec &&& (((1 : Int64) <<< (w &&& 0x3f).toInt64) - (1 : Int64)).toBitVec = _
    rw [own_shr B (n := u.toInt.toNat) (by omega) (by omega), own_msk (n := w.toInt.toNat) (by omega) (by omega)]
    apply BitVec.eq_of_getLsbD_eq
    intro p hp
    rw [BitVec.getLsbD_and, BitVec.getLsbD_ushiftRight, own_mbit _ _ (by omega)]
    by_cases a : p < w.toInt.toNat
    · rw [H p (by omega), decide_eq_true a, Bool.and_true]
    · rw [X p (by omega), decide_eq_false a, Bool.and_false]
  rw [e]; exact Int32.toInt32_toInt64 x
theorem own_low31 : ∀ n : Fin 32, (((1 : Int32) <<< (Int32.ofNat n.val &&& 31)) - (1 : Int32)).toBitVec.toNat = 2 ^ n.val - 1 := by decide +kernel
theorem own_lowV {x w : Int32} (hw : 0 ≤ w.toInt ∧ w.toInt ≤ 31) : own_V w (x &&& (((1 : Int32) <<< (w &&& 31)) - (1 : Int32))) := by
  obtain ⟨n, e1, e2⟩ := own_n64 (k := w) (by omega)
  have hn : n.val < 32 := by omega
  have hm := own_low31 ⟨n.val, hn⟩
  dsimp only at hm
  rw [← e1] at hm
  have m := c_mask x (((1 : Int32) <<< (w &&& 31)) - (1 : Int32)) n.val (by omega) hm
  generalize (x &&& (((1 : Int32) <<< (w &&& 31)) - (1 : Int32))) = y at m
  intro k hk
  have i := c_i2l y
  have b : y.toInt64.toBitVec.toInt = y.toInt := i
  have p1 : 0 < (2 ^ n.val : Nat) := Nat.two_pow_pos _
  have q1 : 0 ≤ y.toInt := by rw [m]; exact Int.emod_nonneg _ (by omega)
  have q2 : y.toInt < ((2 ^ n.val : Nat) : Int) := by rw [m]; exact Int.emod_lt_of_pos _ (by omega)
  have c := BitVec.toInt_eq_toNat_cond y.toInt64.toBitVec
  have lt := y.toInt64.toBitVec.isLt
  have f : y.toInt64.toBitVec.toNat < 2 ^ n.val := by
    rw [b] at c
    split at c <;> omega
  show y.toInt64.toBitVec.toNat.testBit k = false
  apply Nat.testBit_lt_two_pow
  exact Nat.lt_of_lt_of_le f (Nat.pow_le_pow_right (by omega) (by omega))

def own_width (p0 : Int32) (p1 : Int32) : Int32 := (((((p0.toUInt32 >>> (((5 : Int32) * p1) &&& 31).toUInt32).toInt32) &&& (31 : Int32)) % (31 : Int32)) + (1 : Int32))
theorem ef_1 (m : MethodId) (x0 : Int32) (x1 : Int32) : entryFrame m #[(.int x0), (.int x1)] 2 = mkF m 0 #[.val (.int x0), .val (.int x1)] [] := by first | (simp [entryFrame, mkF, argsToLocals, Value.category]; done) | rfl
theorem pn_0 : plainName "com/example/garantia/garantia/engine/StateLayoutSetPinLaw" = true := by first | (simp [plainName, overriddenIn]; done) | decide +kernel
theorem d1_0 : decode method_2_code 0 = .ok (.iload_n 0, 1) := by decide +kernel
theorem d1_1 : decode method_2_code 1 = .ok (.iconst 5, 1) := by decide +kernel
theorem d1_2 : decode method_2_code 2 = .ok (.iload_n 1, 1) := by decide +kernel
theorem d1_3 : decode method_2_code 3 = .ok (.imul, 1) := by decide +kernel
theorem d1_4 : decode method_2_code 4 = .ok (.iushr, 1) := by decide +kernel
theorem d1_5 : decode method_2_code 5 = .ok (.bipush 31, 2) := by decide +kernel
theorem d1_7 : decode method_2_code 7 = .ok (.iand, 1) := by decide +kernel
theorem d1_8 : decode method_2_code 8 = .ok (.bipush 31, 2) := by decide +kernel
theorem d1_10 : decode method_2_code 10 = .ok (.irem, 1) := by decide +kernel
theorem d1_11 : decode method_2_code 11 = .ok (.iconst 1, 1) := by decide +kernel
theorem d1_12 : decode method_2_code 12 = .ok (.iadd, 1) := by decide +kernel
theorem d1_13 : decode method_2_code 13 = .ok (.ireturn, 1) := by decide +kernel
def Q1 (Z : State) (p0 : Int32) (p1 : Int32) (h0 : Heap) (n0 : Nat) (v : Option Value) (h : Heap) (L : List Loc) : Prop := v = some (.int (own_width p0 p1)) ∧ Fr n0 L ∧ h = h0
set_option maxRecDepth 65536 in
set_option maxHeartbeats 40000000 in
theorem rm1 (l : Launch) (Z : State) (A0 : Array Value) (hw : ∀ d ∈ tables_1, d.before A0 Z = true) (ws : List Jvm.Cond) (p0 : Int32) (p1 : Int32)  (h0 : Heap) (n0 : Nat) (Z0 : n0 ≤ h0.size)  :
    MetFree l (⟨"com/example/garantia/garantia/engine/StateLayoutSetPinLaw", "width", "(II)I"⟩ : MethodName) (head1 (Jvm.Cond.code (⟨"com/example/garantia/garantia/engine/StateLayoutSetPinLaw", "width", "(II)I"⟩ : MethodName) method_2_code 2 (some .int) :: ws) ({ frames := 0, cells := 0, slots := 0, locals := 0 } : Room)) (fun a U => a = #[(.int p0), (.int p1)] ∧ Z.Warmed39 U.vm ∧ U.heap = h0) (fun _ _ _ _ _ => True) (fun _ U o U' => ∃ v L, o = .returned v ∧ Q1 Z p0 p1 h0 n0 v U'.heap L ∧ FrameEnd U o U' L ({ frames := 0, cells := 0, slots := 0, locals := 0 } : Room).cells ({ frames := 0, cells := 0, slots := 0, locals := 0 } : Room).slots) := by
  refine MetFree.of_bodySF (plainFor_of_name pn_0) hisR ?_
  intro p e s m args below meth c s₁ Bd hml0 hP hK
  obtain ⟨rfl, hZ, hh⟩ := hP
  have hx := Bd.exec
  have hby := Bd.bytes
  have hml : c.maxLocals = 2 := hml0
  have hown : s.vm.findClass "com/example/garantia/garantia/engine/StateLayoutSetPinLaw" = some m.cls := findClass_of_methodNamed Bd.named
  have hnm := (name_of_methodNamed Bd.named Bd.method).1
  have X0 : Stand p l e ({ frames := 0, cells := 0, slots := 0, locals := 0 } : Room) s m #[(.int p0), (.int p1)] below meth c s₁ [] 0 0 := Stand.of_body Bd
  have e0 : s₁.heap = h0 := by rw [← hh, Bd.state]; rfl
  have N0 := Fr.nil n0
  obtain ⟨S0, hS0⟩ : ∃ z, z = s₁.setTop (entryFrame m #[(.int p0), (.int p1)] 2) := ⟨_, rfl⟩
  have pre0 : Go p.tables e below S0 s₁ (mkF m 0 #[vI p0, vI p1] []) := fun t k => by rw [hS0]; exact castTop (ef_1 m p0 p1) k
  have pre1 : Go p.tables e below S0 s₁ (mkF m 13 #[vI p0, vI p1] [(.int (((((p0.toUInt32 >>> (((5 : Int32) * p1) &&& 31).toUInt32).toInt32) &&& (31 : Int32)) % (31 : Int32)) + (1 : Int32)))]) := fun t k => pre0 t (by
    refine XS.iloadN X0.here hx rfl (hb hby d1_0) rfl ?_
    refine XS.iconst X0.here hx rfl (hb hby d1_1) ?_
    refine XS.iloadN X0.here hx rfl (hb hby d1_2) rfl ?_
    show Steps p.tables e below (s₁.setTop (mkF m 3 #[vI p0, vI p1] [(.int p1), (.int (5 : Int32)), (.int p0)])) _
    refine XS.imul X0.here hx rfl (hb hby d1_3) rfl ?_
    refine XS.iushr X0.here hx rfl (hb hby d1_4) rfl ?_
    refine XS.bipush X0.here hx rfl (hb hby d1_5) ?_
    show Steps p.tables e below (s₁.setTop (mkF m 7 #[vI p0, vI p1] [(.int (31 : Int32)), (.int ((p0.toUInt32 >>> (((5 : Int32) * p1) &&& 31).toUInt32).toInt32))])) _
    refine XS.iand X0.here hx rfl (hb hby d1_7) rfl ?_
    refine XS.bipush X0.here hx rfl (hb hby d1_8) ?_
    refine iremM X0 hx rfl (hb hby d1_10) rfl (by decide) ?_
    show Steps p.tables e below (s₁.setTop (mkF m 11 #[vI p0, vI p1] [(.int ((((p0.toUInt32 >>> (((5 : Int32) * p1) &&& 31).toUInt32).toInt32) &&& (31 : Int32)) % (31 : Int32)))])) _
    refine XS.iconst X0.here hx rfl (hb hby d1_11) ?_
    refine XS.iadd X0.here hx rfl (hb hby d1_12) rfl ?_
    exact k)
  obtain ⟨fs, hr, hrun, hended, hW, hsame⟩ := X0.leave (v := some (.int (((((p0.toUInt32 >>> (((5 : Int32) * p1) &&& 31).toUInt32).toInt32) &&& (31 : Int32)) % (31 : Int32)) + (1 : Int32)))) (fun h => by rw [Bd.returns] at h; cases h)
  exact ⟨_, _, pre1.fin hS0 (retI X0 hx Bd.returns (hb hby d1_13) hr), hrun, hended, _, _, rfl, (by
    show Q1 Z p0 p1 h0 n0 _ s₁.heap _
    rw [e0]
    exact ⟨congrArg (fun z => some (Value.int z)) (by rfl), N0, rfl⟩), ⟨_, rfl⟩, hW, hsame.mono (by decide) (by decide)⟩
def own_low (p0 : Int32) (p1 : Int32) : Int32 := (p0 &&& (((1 : Int32) <<< (p1 &&& 31)) - (1 : Int32)))
theorem ef_2 (m : MethodId) (x0 : Int32) (x1 : Int32) : entryFrame m #[(.int x0), (.int x1)] 2 = mkF m 0 #[.val (.int x0), .val (.int x1)] [] := by first | (simp [entryFrame, mkF, argsToLocals, Value.category]; done) | rfl
theorem d2_0 : decode method_3_code 0 = .ok (.iload_n 0, 1) := by decide +kernel
theorem d2_1 : decode method_3_code 1 = .ok (.iconst 1, 1) := by decide +kernel
theorem d2_2 : decode method_3_code 2 = .ok (.iload_n 1, 1) := by decide +kernel
theorem d2_3 : decode method_3_code 3 = .ok (.ishl, 1) := by decide +kernel
theorem d2_4 : decode method_3_code 4 = .ok (.iconst 1, 1) := by decide +kernel
theorem d2_5 : decode method_3_code 5 = .ok (.isub, 1) := by decide +kernel
theorem d2_6 : decode method_3_code 6 = .ok (.iand, 1) := by decide +kernel
theorem d2_7 : decode method_3_code 7 = .ok (.ireturn, 1) := by decide +kernel
def Q2 (Z : State) (p0 : Int32) (p1 : Int32) (h0 : Heap) (n0 : Nat) (v : Option Value) (h : Heap) (L : List Loc) : Prop := v = some (.int (own_low p0 p1)) ∧ Fr n0 L ∧ h = h0
set_option maxRecDepth 65536 in
set_option maxHeartbeats 40000000 in
theorem rm2 (l : Launch) (Z : State) (A0 : Array Value) (hw : ∀ d ∈ tables_1, d.before A0 Z = true) (ws : List Jvm.Cond) (p0 : Int32) (p1 : Int32)  (h0 : Heap) (n0 : Nat) (Z0 : n0 ≤ h0.size)  :
    MetFree l (⟨"com/example/garantia/garantia/engine/StateLayoutSetPinLaw", "low", "(II)I"⟩ : MethodName) (head1 (Jvm.Cond.code (⟨"com/example/garantia/garantia/engine/StateLayoutSetPinLaw", "low", "(II)I"⟩ : MethodName) method_3_code 2 (some .int) :: ws) ({ frames := 0, cells := 0, slots := 0, locals := 0 } : Room)) (fun a U => a = #[(.int p0), (.int p1)] ∧ Z.Warmed39 U.vm ∧ U.heap = h0) (fun _ _ _ _ _ => True) (fun _ U o U' => ∃ v L, o = .returned v ∧ Q2 Z p0 p1 h0 n0 v U'.heap L ∧ FrameEnd U o U' L ({ frames := 0, cells := 0, slots := 0, locals := 0 } : Room).cells ({ frames := 0, cells := 0, slots := 0, locals := 0 } : Room).slots) := by
  refine MetFree.of_bodySF (plainFor_of_name pn_0) hisR ?_
  intro p e s m args below meth c s₁ Bd hml0 hP hK
  obtain ⟨rfl, hZ, hh⟩ := hP
  have hx := Bd.exec
  have hby := Bd.bytes
  have hml : c.maxLocals = 2 := hml0
  have hown : s.vm.findClass "com/example/garantia/garantia/engine/StateLayoutSetPinLaw" = some m.cls := findClass_of_methodNamed Bd.named
  have hnm := (name_of_methodNamed Bd.named Bd.method).1
  have X0 : Stand p l e ({ frames := 0, cells := 0, slots := 0, locals := 0 } : Room) s m #[(.int p0), (.int p1)] below meth c s₁ [] 0 0 := Stand.of_body Bd
  have e0 : s₁.heap = h0 := by rw [← hh, Bd.state]; rfl
  have N0 := Fr.nil n0
  obtain ⟨S0, hS0⟩ : ∃ z, z = s₁.setTop (entryFrame m #[(.int p0), (.int p1)] 2) := ⟨_, rfl⟩
  have pre0 : Go p.tables e below S0 s₁ (mkF m 0 #[vI p0, vI p1] []) := fun t k => by rw [hS0]; exact castTop (ef_2 m p0 p1) k
  have pre1 : Go p.tables e below S0 s₁ (mkF m 7 #[vI p0, vI p1] [(.int (p0 &&& (((1 : Int32) <<< (p1 &&& 31)) - (1 : Int32))))]) := fun t k => pre0 t (by
    refine XS.iloadN X0.here hx rfl (hb hby d2_0) rfl ?_
    refine XS.iconst X0.here hx rfl (hb hby d2_1) ?_
    refine XS.iloadN X0.here hx rfl (hb hby d2_2) rfl ?_
    show Steps p.tables e below (s₁.setTop (mkF m 3 #[vI p0, vI p1] [(.int p1), (.int (1 : Int32)), (.int p0)])) _
    refine XS.ishl X0.here hx rfl (hb hby d2_3) rfl ?_
    refine XS.iconst X0.here hx rfl (hb hby d2_4) ?_
    refine XS.isub X0.here hx rfl (hb hby d2_5) rfl ?_
    show Steps p.tables e below (s₁.setTop (mkF m 6 #[vI p0, vI p1] [(.int (((1 : Int32) <<< (p1 &&& 31)) - (1 : Int32))), (.int p0)])) _
    refine XS.iand X0.here hx rfl (hb hby d2_6) rfl ?_
    exact k)
  obtain ⟨fs, hr, hrun, hended, hW, hsame⟩ := X0.leave (v := some (.int (p0 &&& (((1 : Int32) <<< (p1 &&& 31)) - (1 : Int32))))) (fun h => by rw [Bd.returns] at h; cases h)
  exact ⟨_, _, pre1.fin hS0 (retI X0 hx Bd.returns (hb hby d2_7) hr), hrun, hended, _, _, rfl, (by
    show Q2 Z p0 p1 h0 n0 _ s₁.heap _
    rw [e0]
    exact ⟨congrArg (fun z => some (Value.int z)) (by rfl), N0, rfl⟩), ⟨_, rfl⟩, hW, hsame.mono (by decide) (by decide)⟩
theorem ef_3 (m : MethodId) (x0 : Addr) (x1 : Addr) : entryFrame m #[(.ref x0), (.ref x1)] 5 = mkF m 0 #[.val (.ref x0), .val (.ref x1), .unset, .unset, .unset] [] := by first | (simp [entryFrame, mkF, argsToLocals, Value.category]; done) | rfl
theorem pn_1 : plainName "com/example/garantia/garantia/engine/StateLayout" = true := by first | (simp [plainName, overriddenIn]; done) | decide +kernel
theorem d3_0 : decode prog_46_method_1_code 0 = .ok (.aload_n 0, 1) := by decide +kernel
theorem d3_1 : decode prog_46_method_1_code 1 = .ok (.invokespecial 1, 3) := by decide +kernel
theorem d3_4 : decode prog_46_method_1_code 4 = .ok (.aload_n 0, 1) := by decide +kernel
theorem d3_5 : decode prog_46_method_1_code 5 = .ok (.aload_n 1, 1) := by decide +kernel
theorem d3_6 : decode prog_46_method_1_code 6 = .ok (.arraylength, 1) := by decide +kernel
theorem d3_7 : decode prog_46_method_1_code 7 = .ok (.newarray .int, 2) := by decide +kernel
theorem d3_9 : decode prog_46_method_1_code 9 = .ok (.putfield 7, 3) := by decide +kernel
theorem d3_12 : decode prog_46_method_1_code 12 = .ok (.aload_n 0, 1) := by decide +kernel
theorem d3_13 : decode prog_46_method_1_code 13 = .ok (.aload_n 1, 1) := by decide +kernel
theorem d3_14 : decode prog_46_method_1_code 14 = .ok (.arraylength, 1) := by decide +kernel
theorem d3_15 : decode prog_46_method_1_code 15 = .ok (.newarray .int, 2) := by decide +kernel
theorem d3_17 : decode prog_46_method_1_code 17 = .ok (.putfield 13, 3) := by decide +kernel
theorem d3_20 : decode prog_46_method_1_code 20 = .ok (.aload_n 0, 1) := by decide +kernel
theorem d3_21 : decode prog_46_method_1_code 21 = .ok (.aload_n 1, 1) := by decide +kernel
theorem d3_22 : decode prog_46_method_1_code 22 = .ok (.arraylength, 1) := by decide +kernel
theorem d3_23 : decode prog_46_method_1_code 23 = .ok (.newarray .long, 2) := by decide +kernel
theorem d3_25 : decode prog_46_method_1_code 25 = .ok (.putfield 16, 3) := by decide +kernel
theorem d3_28 : decode prog_46_method_1_code 28 = .ok (.aload_n 0, 1) := by decide +kernel
theorem d3_29 : decode prog_46_method_1_code 29 = .ok (.aload_n 1, 1) := by decide +kernel
theorem d3_30 : decode prog_46_method_1_code 30 = .ok (.arraylength, 1) := by decide +kernel
theorem d3_31 : decode prog_46_method_1_code 31 = .ok (.newarray .long, 2) := by decide +kernel
theorem d3_33 : decode prog_46_method_1_code 33 = .ok (.putfield 20, 3) := by decide +kernel
theorem d3_36 : decode prog_46_method_1_code 36 = .ok (.iconst 0, 1) := by decide +kernel
theorem d3_37 : decode prog_46_method_1_code 37 = .ok (.istore_n 2, 1) := by decide +kernel
theorem d3_38 : decode prog_46_method_1_code 38 = .ok (.iconst 0, 1) := by decide +kernel
theorem d3_39 : decode prog_46_method_1_code 39 = .ok (.istore_n 3, 1) := by decide +kernel
theorem d3_40 : decode prog_46_method_1_code 40 = .ok (.iconst 0, 1) := by decide +kernel
theorem d3_41 : decode prog_46_method_1_code 41 = .ok (.istore 4, 2) := by decide +kernel
theorem d3_43 : decode prog_46_method_1_code 43 = .ok (.iload 4, 2) := by decide +kernel
theorem d3_45 : decode prog_46_method_1_code 45 = .ok (.aload_n 1, 1) := by decide +kernel
theorem d3_46 : decode prog_46_method_1_code 46 = .ok (.arraylength, 1) := by decide +kernel
theorem d3_47 : decode prog_46_method_1_code 47 = .ok (.if_icmp .ge 83, 3) := by decide +kernel
theorem d3_50 : decode prog_46_method_1_code 50 = .ok (.iload_n 2, 1) := by decide +kernel
theorem d3_51 : decode prog_46_method_1_code 51 = .ok (.aload_n 1, 1) := by decide +kernel
theorem d3_52 : decode prog_46_method_1_code 52 = .ok (.iload 4, 2) := by decide +kernel
theorem d3_54 : decode prog_46_method_1_code 54 = .ok (.iaload, 1) := by decide +kernel
theorem d3_55 : decode prog_46_method_1_code 55 = .ok (.iadd, 1) := by decide +kernel
theorem d3_56 : decode prog_46_method_1_code 56 = .ok (.bipush 64, 2) := by decide +kernel
theorem d3_58 : decode prog_46_method_1_code 58 = .ok (.if_icmp .le 8, 3) := by decide +kernel
theorem d3_61 : decode prog_46_method_1_code 61 = .ok (.iinc 3 1, 3) := by decide +kernel
theorem d3_64 : decode prog_46_method_1_code 64 = .ok (.iconst 0, 1) := by decide +kernel
theorem d3_65 : decode prog_46_method_1_code 65 = .ok (.istore_n 2, 1) := by decide +kernel
theorem d3_66 : decode prog_46_method_1_code 66 = .ok (.aload_n 0, 1) := by decide +kernel
theorem d3_67 : decode prog_46_method_1_code 67 = .ok (.getfield 7, 3) := by decide +kernel
theorem d3_70 : decode prog_46_method_1_code 70 = .ok (.iload 4, 2) := by decide +kernel
theorem d3_72 : decode prog_46_method_1_code 72 = .ok (.iload_n 3, 1) := by decide +kernel
theorem d3_73 : decode prog_46_method_1_code 73 = .ok (.iastore, 1) := by decide +kernel
theorem d3_74 : decode prog_46_method_1_code 74 = .ok (.aload_n 0, 1) := by decide +kernel
theorem d3_75 : decode prog_46_method_1_code 75 = .ok (.getfield 13, 3) := by decide +kernel
theorem d3_78 : decode prog_46_method_1_code 78 = .ok (.iload 4, 2) := by decide +kernel
theorem d3_80 : decode prog_46_method_1_code 80 = .ok (.iload_n 2, 1) := by decide +kernel
theorem d3_81 : decode prog_46_method_1_code 81 = .ok (.iastore, 1) := by decide +kernel
theorem d3_82 : decode prog_46_method_1_code 82 = .ok (.aload_n 0, 1) := by decide +kernel
theorem d3_83 : decode prog_46_method_1_code 83 = .ok (.getfield 16, 3) := by decide +kernel
theorem d3_86 : decode prog_46_method_1_code 86 = .ok (.iload 4, 2) := by decide +kernel
theorem d3_88 : decode prog_46_method_1_code 88 = .ok (.lconst 1, 1) := by decide +kernel
theorem d3_89 : decode prog_46_method_1_code 89 = .ok (.aload_n 1, 1) := by decide +kernel
theorem d3_90 : decode prog_46_method_1_code 90 = .ok (.iload 4, 2) := by decide +kernel
theorem d3_92 : decode prog_46_method_1_code 92 = .ok (.iaload, 1) := by decide +kernel
theorem d3_93 : decode prog_46_method_1_code 93 = .ok (.lshl, 1) := by decide +kernel
theorem d3_94 : decode prog_46_method_1_code 94 = .ok (.lconst 1, 1) := by decide +kernel
theorem d3_95 : decode prog_46_method_1_code 95 = .ok (.lsub, 1) := by decide +kernel
theorem d3_96 : decode prog_46_method_1_code 96 = .ok (.lastore, 1) := by decide +kernel
theorem d3_97 : decode prog_46_method_1_code 97 = .ok (.aload_n 0, 1) := by decide +kernel
theorem d3_98 : decode prog_46_method_1_code 98 = .ok (.getfield 20, 3) := by decide +kernel
theorem d3_101 : decode prog_46_method_1_code 101 = .ok (.iload 4, 2) := by decide +kernel
theorem d3_103 : decode prog_46_method_1_code 103 = .ok (.aload_n 0, 1) := by decide +kernel
theorem d3_104 : decode prog_46_method_1_code 104 = .ok (.getfield 16, 3) := by decide +kernel
theorem d3_107 : decode prog_46_method_1_code 107 = .ok (.iload 4, 2) := by decide +kernel
theorem d3_109 : decode prog_46_method_1_code 109 = .ok (.laload, 1) := by decide +kernel
theorem d3_110 : decode prog_46_method_1_code 110 = .ok (.iload_n 2, 1) := by decide +kernel
theorem d3_111 : decode prog_46_method_1_code 111 = .ok (.lshl, 1) := by decide +kernel
theorem d3_112 : decode prog_46_method_1_code 112 = .ok (.ldc2_w 25, 3) := by decide +kernel
theorem d3_115 : decode prog_46_method_1_code 115 = .ok (.lxor, 1) := by decide +kernel
theorem d3_116 : decode prog_46_method_1_code 116 = .ok (.lastore, 1) := by decide +kernel
theorem d3_117 : decode prog_46_method_1_code 117 = .ok (.iload_n 2, 1) := by decide +kernel
theorem d3_118 : decode prog_46_method_1_code 118 = .ok (.aload_n 1, 1) := by decide +kernel
theorem d3_119 : decode prog_46_method_1_code 119 = .ok (.iload 4, 2) := by decide +kernel
theorem d3_121 : decode prog_46_method_1_code 121 = .ok (.iaload, 1) := by decide +kernel
theorem d3_122 : decode prog_46_method_1_code 122 = .ok (.iadd, 1) := by decide +kernel
theorem d3_123 : decode prog_46_method_1_code 123 = .ok (.istore_n 2, 1) := by decide +kernel
theorem d3_124 : decode prog_46_method_1_code 124 = .ok (.iinc 4 1, 3) := by decide +kernel
theorem d3_127 : decode prog_46_method_1_code 127 = .ok (.goto (-84), 3) := by decide +kernel
theorem d3_130 : decode prog_46_method_1_code 130 = .ok (.aload_n 0, 1) := by decide +kernel
theorem d3_131 : decode prog_46_method_1_code 131 = .ok (.iload_n 3, 1) := by decide +kernel
theorem d3_132 : decode prog_46_method_1_code 132 = .ok (.iconst 1, 1) := by decide +kernel
theorem d3_133 : decode prog_46_method_1_code 133 = .ok (.iadd, 1) := by decide +kernel
theorem d3_134 : decode prog_46_method_1_code 134 = .ok (.putfield 27, 3) := by decide +kernel
theorem d3_137 : decode prog_46_method_1_code 137 = .ok (.aload_n 0, 1) := by decide +kernel
theorem d3_138 : decode prog_46_method_1_code 138 = .ok (.aload_n 0, 1) := by decide +kernel
theorem d3_139 : decode prog_46_method_1_code 139 = .ok (.getfield 27, 3) := by decide +kernel
theorem d3_142 : decode prog_46_method_1_code 142 = .ok (.iconst 1, 1) := by decide +kernel
theorem d3_143 : decode prog_46_method_1_code 143 = .ok (.if_icmp .ne 13, 3) := by decide +kernel
theorem d3_146 : decode prog_46_method_1_code 146 = .ok (.iload_n 2, 1) := by decide +kernel
theorem d3_147 : decode prog_46_method_1_code 147 = .ok (.bipush 32, 2) := by decide +kernel
theorem d3_149 : decode prog_46_method_1_code 149 = .ok (.if_icmp .gt 7, 3) := by decide +kernel
theorem d3_152 : decode prog_46_method_1_code 152 = .ok (.iconst 1, 1) := by decide +kernel
theorem d3_153 : decode prog_46_method_1_code 153 = .ok (.goto 4, 3) := by decide +kernel
theorem d3_156 : decode prog_46_method_1_code 156 = .ok (.iconst 0, 1) := by decide +kernel
theorem d3_157 : decode prog_46_method_1_code 157 = .ok (.putfield 33, 3) := by decide +kernel
theorem d3_160 : decode prog_46_method_1_code 160 = .ok (.return_, 1) := by decide +kernel
def Q3 (Z : State) (a0 a1 : Addr) (k1 : ClassId) (w0 : Int32) (w1 : Int32) (w2 : Int32) (w3 : Int32) (h0 : Heap) (n0 : Nat) (v : Option Value) (h : Heap) (L : List Loc) : Prop := v = none ∧ Fr n0 L ∧ ∃ (aw as am ao : Addr) (kw ks km ko : ClassId) (c2 u2 c3 u3 : Int32), ((c2 = own_cur (0 : Int32) (((0 : Int32) + w0) + w1) w2 ∧ u2 = own_u0 (((0 : Int32) + w0) + w1) w2) ∧ (c3 = own_cur c2 (u2 + w2) w3 ∧ u3 = own_u0 (u2 + w2) w3)) ∧ (h0.size ≤ aw ∧ h0.size ≤ as ∧ h0.size ≤ am ∧ h0.size ≤ ao) ∧ (aw ≠ as ∧ aw ≠ am ∧ aw ≠ ao ∧ as ≠ am ∧ as ≠ ao ∧ am ≠ ao) ∧ Keep h0 h [a0] ∧ (Exa Z h a0 "com/example/garantia/garantia/engine/StateLayout") ∧ (Fld Z h a0 "com/example/garantia/garantia/engine/StateLayout" "word" "[I" (.ref aw)) ∧ (Fld Z h a0 "com/example/garantia/garantia/engine/StateLayout" "shift" "[I" (.ref as)) ∧ (Fld Z h a0 "com/example/garantia/garantia/engine/StateLayout" "mask" "[J" (.ref am)) ∧ (Fld Z h a0 "com/example/garantia/garantia/engine/StateLayout" "others" "[J" (.ref ao)) ∧ (Fld Z h a0 "com/example/garantia/garantia/engine/StateLayout" "words" "I" (.int (c3 + (1 : Int32)))) ∧ (Arv Z h aw kw .int (4 : Int32) [(.int (0 : Int32)), (.int (0 : Int32)), (.int c2), (.int c3)] (.int (0 : Int32))) ∧ (Arv Z h as ks .int (4 : Int32) [(.int (0 : Int32)), (.int ((0 : Int32) + w0)), (.int u2), (.int u3)] (.int (0 : Int32))) ∧ (Arv Z h am km .long (4 : Int32) [(.long (((1 : Int64) <<< (w0 &&& 0x3f).toInt64) - (1 : Int64))), (.long (((1 : Int64) <<< (w1 &&& 0x3f).toInt64) - (1 : Int64))), (.long (((1 : Int64) <<< (w2 &&& 0x3f).toInt64) - (1 : Int64))), (.long (((1 : Int64) <<< (w3 &&& 0x3f).toInt64) - (1 : Int64)))] (.long (0 : Int64))) ∧ (Arv Z h ao ko .long (4 : Int32) [(.long (((((1 : Int64) <<< (w0 &&& 0x3f).toInt64) - (1 : Int64)) <<< ((0 : Int32) &&& 0x3f).toInt64) ^^^ (-1 : Int64))), (.long (((((1 : Int64) <<< (w1 &&& 0x3f).toInt64) - (1 : Int64)) <<< (((0 : Int32) + w0) &&& 0x3f).toInt64) ^^^ (-1 : Int64))), (.long (((((1 : Int64) <<< (w2 &&& 0x3f).toInt64) - (1 : Int64)) <<< (u2 &&& 0x3f).toInt64) ^^^ (-1 : Int64))), (.long (((((1 : Int64) <<< (w3 &&& 0x3f).toInt64) - (1 : Int64)) <<< (u3 &&& 0x3f).toInt64) ^^^ (-1 : Int64)))] (.long (0 : Int64)))
set_option maxRecDepth 65536 in
set_option maxHeartbeats 40000000 in
theorem rm3 (l : Launch) (Z : State) (A0 : Array Value) (hw : ∀ d ∈ tables_1, d.before A0 Z = true) (ws : List Jvm.Cond) (a0 : Addr) (a1 : Addr) (k1 : ClassId) (w0 : Int32) (w1 : Int32) (w2 : Int32) (w3 : Int32) (h0 : Heap) (n0 : Nat) (Z0 : n0 ≤ h0.size) (E0 : Exa Z h0 a0 "com/example/garantia/garantia/engine/StateLayout") (Fw : Fld Z h0 a0 "com/example/garantia/garantia/engine/StateLayout" "word" "[I" .null) (Fs : Fld Z h0 a0 "com/example/garantia/garantia/engine/StateLayout" "shift" "[I" .null) (Fm : Fld Z h0 a0 "com/example/garantia/garantia/engine/StateLayout" "mask" "[J" .null) (Fo : Fld Z h0 a0 "com/example/garantia/garantia/engine/StateLayout" "others" "[J" .null) (Fn : Fld Z h0 a0 "com/example/garantia/garantia/engine/StateLayout" "words" "I" (.int (0 : Int32))) (Fb : Fld Z h0 a0 "com/example/garantia/garantia/engine/StateLayout" "narrow" "Z" (.int (0 : Int32))) (V1 : Arv Z h0 a1 k1 .int (4 : Int32) [(.int w0), (.int w1), (.int w2), (.int w3)] (.int (0 : Int32))) (xe1 : a1 ≠ a0) (g0 : n0 ≤ a0) (hw0 : 0 ≤ w0.toInt ∧ w0.toInt ≤ 31) (hw1 : 0 ≤ w1.toInt ∧ w1.toInt ≤ 31) (hw2 : 0 ≤ w2.toInt ∧ w2.toInt ≤ 31) (hw3 : 0 ≤ w3.toInt ∧ w3.toInt ≤ 31) :
    MetFree l (⟨"com/example/garantia/garantia/engine/StateLayout", "<init>", "([I)V"⟩ : MethodName) (head1 (Jvm.Cond.code (⟨"com/example/garantia/garantia/engine/StateLayout", "<init>", "([I)V"⟩ : MethodName) prog_46_method_1_code 5 none :: ws) ({ frames := 1, cells := 4, slots := 16, locals := 12 } : Room)) (fun a U => a = #[(.ref a0), (.ref a1)] ∧ Z.Warmed39 U.vm ∧ U.heap = h0) (fun _ _ _ _ _ => True) (fun _ U o U' => ∃ v L, o = .returned v ∧ Q3 Z a0 a1 k1 w0 w1 w2 w3 h0 n0 v U'.heap L ∧ FrameEnd U o U' L ({ frames := 1, cells := 4, slots := 16, locals := 12 } : Room).cells ({ frames := 1, cells := 4, slots := 16, locals := 12 } : Room).slots) := by
  refine MetFree.of_bodySF (plainFor_of_name pn_1) hisR ?_
  intro p e s m args below meth c s₁ Bd hml0 hP hK
  obtain ⟨rfl, hZ, hh⟩ := hP
  have hx := Bd.exec
  have hby := Bd.bytes
  have hml : c.maxLocals = 5 := hml0
  have hown : s.vm.findClass "com/example/garantia/garantia/engine/StateLayout" = some m.cls := findClass_of_methodNamed Bd.named
  have hnm := (name_of_methodNamed Bd.named Bd.method).1
  have X0 : Stand p l e ({ frames := 1, cells := 4, slots := 16, locals := 12 } : Room) s m #[(.ref a0), (.ref a1)] below meth c s₁ [] 0 0 := Stand.of_body Bd
  have e0 : s₁.heap = h0 := by rw [← hh, Bd.state]; rfl
  have N0 := Fr.nil n0
  have kp0 : Keep h0 h0 [a0] := Keep.refl _ _
  obtain ⟨S0, hS0⟩ : ∃ z, z = s₁.setTop (entryFrame m #[(.ref a0), (.ref a1)] 5) := ⟨_, rfl⟩
  have pre0 : Go p.tables e below S0 s₁ (mkF m 0 #[vR a0, vR a1, .unset, .unset, .unset] []) := fun t k => by rw [hS0]; exact castTop (ef_3 m a0 a1) k
  have pre1 : Go p.tables e below S0 s₁ (mkF m 1 #[vR a0, vR a1, .unset, .unset, .unset] [(.ref a0)]) := fun t k => pre0 t (by
    refine XS.aloadN X0.here hx rfl (hb hby d3_0) rfl rfl ?_
    exact k)
  obtain ⟨T2, X2, e2, st2⟩ := initO X0 hx hZ hown (hw _ (List.mem_of_getElem? (i := 15) rfl)) (hw _ (List.mem_of_getElem? (i := 16) rfl)) (hw _ (List.mem_of_getElem? (i := 17) rfl)) e0 (g := (mkF m 1 #[vR a0, vR a1, .unset, .unset, .unset] [(.ref a0)])) rfl (by rw [hml]; rfl) rfl (hb hby d3_1) (by decide) (W := 0) (by show 2 * 0 + _ ≤ _; exact Nat.le_of_eq rfl) (by decide)
  have pre2 : Go p.tables e below S0 T2 (mkF m 4 #[vR a0, vR a1, .unset, .unset, .unset] []) := fun t k => pre1 t (st2 t k)
  have pre3 : Go p.tables e below S0 T2 (mkF m 6 #[vR a0, vR a1, .unset, .unset, .unset] [(.ref a1), (.ref a0)]) := fun t k => pre2 t (by
    refine XS.aloadN X2.here hx rfl (hb hby d3_4) rfl rfl ?_
    refine XS.aloadN X2.here hx rfl (hb hby d3_5) rfl rfl ?_
    exact k)
  obtain ⟨cl4, Ar4, q4, S4, M4, H4, G4⟩ := id V1
  have pre5 : Go p.tables e below S0 T2 (mkF m 7 #[vR a0, vR a1, .unset, .unset, .unset] [(.int (4 : Int32)), (.ref a0)]) := fun t k => pre3 t (by
    refine X2.arraylength hx (by rw [e2]; exact Ar4.1) (State.isArrayOf_alike hZ.alike Ar4.2.1) (g := (mkF m 6 #[vR a0, vR a1, .unset, .unset, .unset] [(.ref a1), (.ref a0)])) rfl rfl (hb hby d3_6) _ ?_
    rw [len_of S4 M4]
    exact k)
  obtain ⟨T6, h6, kA6, X6, e6, E6, A6, st6⟩ := newP X2 hx hZ (hw _ (List.mem_of_getElem? (i := 4) rfl)) e2 (g := (mkF m 7 #[vR a0, vR a1, .unset, .unset, .unset] [(.int (4 : Int32)), (.ref a0)])) rfl (hb hby d3_7) rfl (by decide) (cap := 4) (by decide) (by decide) (by decide) (by decide)
  obtain ⟨b6, g6⟩ : ∃ z, z = h0.size := ⟨_, rfl⟩
  rw [← g6] at A6 st6
  have pre6 : Go p.tables e below S0 T6 (mkF m 9 #[vR a0, vR a1, .unset, .unset, .unset] [(.ref b6), (.ref a0)]) := fun t k => pre5 t (st6 t k)
  have ne7 : a0 ≠ b6 := Nat.ne_of_lt (Nat.lt_of_lt_of_le E0.lt (Nat.le_of_eq g6.symm))
  have ne8 : a1 ≠ b6 := Nat.ne_of_lt (Nat.lt_of_lt_of_le V1.lt (Nat.le_of_eq g6.symm))
  have bo6 : n0 ≤ b6 := Nat.le_trans Z0 (Nat.le_of_eq g6.symm)
  have ol6 : h0.size ≤ b6 := Nat.le_trans kp0.1 (Nat.le_of_eq g6.symm)
  have f9_1 := Exa.ext E6 E0
  have f9_2 := Fld.ext E6 Fw
  have f9_3 := Fld.ext E6 Fs
  have f9_4 := Fld.ext E6 Fm
  have f9_5 := Fld.ext E6 Fo
  have f9_6 := Fld.ext E6 Fn
  have f9_7 := Fld.ext E6 Fb
  have f9_8 := V1.ext E6
  have zz10 : n0 ≤ h6.size := Nat.le_trans Z0 E6.1
  have kp11 : Keep h0 h6 [a0] := kp0.ext E6
  have av6 : Arv Z h6 b6 kA6 .int (4 : Int32) [(.int (0 : Int32)), (.int (0 : Int32)), (.int (0 : Int32)), (.int (0 : Int32))] (.int (0 : Int32)) := (Arv.new A6 (by decide)).pad (pad_rep [] (.int (0 : Int32)) 4)
  obtain ⟨T12, h12, X12, e12, W12, st12⟩ := putF X6 hx hZ hown (host := "") (Or.inl (hw _ (List.mem_of_getElem? (i := 18) rfl))) Via.refl e6 f9_2 f9_1 (Or.inr ⟨(hw _ (List.mem_of_getElem? (i := 19) rfl)), rfl, hnm⟩) (hw _ (List.mem_of_getElem? (i := 10) rfl)) (ty := (.array .int)) (by decide) rfl rfl (g := (mkF m 9 #[vR a0, vR a1, .unset, .unset, .unset] [(.ref b6), (.ref a0)])) rfl rfl (hb hby d3_9)
  have pre12 : Go p.tables e below S0 T12 (mkF m 12 #[vR a0, vR a1, .unset, .unset, .unset] []) := fun t k => pre6 t (st12 t k)
  obtain ⟨lo12, N12, X12⟩ : ∃ lo, Fr n0 lo ∧ Stand p l e ({ frames := 1, cells := 4, slots := 16, locals := 12 } : Room) s m #[(.ref a0), (.ref a1)] below meth c T12 lo 1 4 := ⟨_, Fr.snoc X12 N0 g0, X12⟩
  have fw12 : Fld Z h12 a0 "com/example/garantia/garantia/engine/StateLayout" "word" "[I" (.ref b6) := Fld.same W12 f9_2
  have f13_1 := Exa.wr W12 f9_1
  have f13_2 := Fld.other W12 f9_3 (Or.inr (slot_ne (Or.inr (hw _ (List.mem_of_getElem? (i := 21) rfl))) (Or.inr (hw _ (List.mem_of_getElem? (i := 19) rfl))) (by decide) (t := (.array .int)) (t' := (.array .int)) (by decide) (by decide)))
  have f13_3 := Fld.other W12 f9_4 (Or.inr (slot_ne (Or.inr (hw _ (List.mem_of_getElem? (i := 23) rfl))) (Or.inr (hw _ (List.mem_of_getElem? (i := 19) rfl))) (by decide) (t := (.array .long)) (t' := (.array .int)) (by decide) (by decide)))
  have f13_4 := Fld.other W12 f9_5 (Or.inr (slot_ne (Or.inr (hw _ (List.mem_of_getElem? (i := 25) rfl))) (Or.inr (hw _ (List.mem_of_getElem? (i := 19) rfl))) (by decide) (t := (.array .long)) (t' := (.array .int)) (by decide) (by decide)))
  have f13_5 := Fld.other W12 f9_6 (Or.inr (slot_ne (Or.inr (hw _ (List.mem_of_getElem? (i := 28) rfl))) (Or.inr (hw _ (List.mem_of_getElem? (i := 19) rfl))) (by decide) (t := .int) (t' := (.array .int)) (by decide) (by decide)))
  have f13_6 := Fld.other W12 f9_7 (Or.inr (slot_ne (Or.inr (hw _ (List.mem_of_getElem? (i := 30) rfl))) (Or.inr (hw _ (List.mem_of_getElem? (i := 19) rfl))) (by decide) (t := .boolean) (t' := (.array .int)) (by decide) (by decide)))
  have f13_7 := f9_8.other W12 xe1
  have f13_8 := av6.other W12 (Ne.symm ne7)
  have zz14 : n0 ≤ h12.size := Nat.le_trans zz10 (Keep.of_wr W12).1
  have kp15 : Keep h0 h12 [a0] := kp11.wr W12 (Or.inl (List.mem_of_getElem? (i := 0) rfl))
  have pre16 : Go p.tables e below S0 T12 (mkF m 14 #[vR a0, vR a1, .unset, .unset, .unset] [(.ref a1), (.ref a0)]) := fun t k => pre12 t (by
    refine XS.aloadN X12.here hx rfl (hb hby d3_12) rfl rfl ?_
    refine XS.aloadN X12.here hx rfl (hb hby d3_13) rfl rfl ?_
    exact k)
  obtain ⟨cl17, Ar17, q17, S17, M17, H17, G17⟩ := id f13_7
  have pre18 : Go p.tables e below S0 T12 (mkF m 15 #[vR a0, vR a1, .unset, .unset, .unset] [(.int (4 : Int32)), (.ref a0)]) := fun t k => pre16 t (by
    refine X12.arraylength hx (by rw [e12]; exact Ar17.1) (State.isArrayOf_alike hZ.alike Ar17.2.1) (g := (mkF m 14 #[vR a0, vR a1, .unset, .unset, .unset] [(.ref a1), (.ref a0)])) rfl rfl (hb hby d3_14) _ ?_
    rw [len_of S17 M17]
    exact k)
  obtain ⟨T19, h19, kA19, X19, e19, E19, A19, st19⟩ := newP X12 hx hZ (hw _ (List.mem_of_getElem? (i := 4) rfl)) e12 (g := (mkF m 15 #[vR a0, vR a1, .unset, .unset, .unset] [(.int (4 : Int32)), (.ref a0)])) rfl (hb hby d3_15) rfl (by decide) (cap := 4) (by decide) (by decide) (by decide) (by decide)
  obtain ⟨b19, g19⟩ : ∃ z, z = h12.size := ⟨_, rfl⟩
  rw [← g19] at A19 st19
  have pre19 : Go p.tables e below S0 T19 (mkF m 17 #[vR a0, vR a1, .unset, .unset, .unset] [(.ref b19), (.ref a0)]) := fun t k => pre18 t (st19 t k)
  have ne20 : a0 ≠ b19 := Nat.ne_of_lt (Nat.lt_of_lt_of_le f13_1.lt (Nat.le_of_eq g19.symm))
  have ne21 : a1 ≠ b19 := Nat.ne_of_lt (Nat.lt_of_lt_of_le f13_7.lt (Nat.le_of_eq g19.symm))
  have ne22 : b6 ≠ b19 := Nat.ne_of_lt (Nat.lt_of_lt_of_le f13_8.lt (Nat.le_of_eq g19.symm))
  have bo19 : n0 ≤ b19 := Nat.le_trans zz14 (Nat.le_of_eq g19.symm)
  have ol19 : h0.size ≤ b19 := Nat.le_trans kp15.1 (Nat.le_of_eq g19.symm)
  have f23_1 := Exa.ext E19 f13_1
  have f23_2 := Fld.ext E19 fw12
  have f23_3 := Fld.ext E19 f13_2
  have f23_4 := Fld.ext E19 f13_3
  have f23_5 := Fld.ext E19 f13_4
  have f23_6 := Fld.ext E19 f13_5
  have f23_7 := Fld.ext E19 f13_6
  have f23_8 := f13_7.ext E19
  have f23_9 := f13_8.ext E19
  have zz24 : n0 ≤ h19.size := Nat.le_trans zz14 E19.1
  have kp25 : Keep h0 h19 [a0] := kp15.ext E19
  have av19 : Arv Z h19 b19 kA19 .int (4 : Int32) [(.int (0 : Int32)), (.int (0 : Int32)), (.int (0 : Int32)), (.int (0 : Int32))] (.int (0 : Int32)) := (Arv.new A19 (by decide)).pad (pad_rep [] (.int (0 : Int32)) 4)
  obtain ⟨T26, h26, X26, e26, W26, st26⟩ := putF X19 hx hZ hown (host := "") (Or.inl (hw _ (List.mem_of_getElem? (i := 20) rfl))) Via.refl e19 f23_3 f23_1 (Or.inr ⟨(hw _ (List.mem_of_getElem? (i := 21) rfl)), rfl, hnm⟩) (hw _ (List.mem_of_getElem? (i := 10) rfl)) (ty := (.array .int)) (by decide) rfl rfl (g := (mkF m 17 #[vR a0, vR a1, .unset, .unset, .unset] [(.ref b19), (.ref a0)])) rfl rfl (hb hby d3_17)
  have pre26 : Go p.tables e below S0 T26 (mkF m 20 #[vR a0, vR a1, .unset, .unset, .unset] []) := fun t k => pre19 t (st26 t k)
  obtain ⟨lo26, N26, X26⟩ : ∃ lo, Fr n0 lo ∧ Stand p l e ({ frames := 1, cells := 4, slots := 16, locals := 12 } : Room) s m #[(.ref a0), (.ref a1)] below meth c T26 lo 2 8 := ⟨_, Fr.snoc X26 N12 g0, X26⟩
  have fw26 : Fld Z h26 a0 "com/example/garantia/garantia/engine/StateLayout" "shift" "[I" (.ref b19) := Fld.same W26 f23_3
  have f27_1 := Exa.wr W26 f23_1
  have f27_2 := Fld.other W26 f23_2 (Or.inr (slot_ne (Or.inr (hw _ (List.mem_of_getElem? (i := 19) rfl))) (Or.inr (hw _ (List.mem_of_getElem? (i := 21) rfl))) (by decide) (t := (.array .int)) (t' := (.array .int)) (by decide) (by decide)))
  have f27_3 := Fld.other W26 f23_4 (Or.inr (slot_ne (Or.inr (hw _ (List.mem_of_getElem? (i := 23) rfl))) (Or.inr (hw _ (List.mem_of_getElem? (i := 21) rfl))) (by decide) (t := (.array .long)) (t' := (.array .int)) (by decide) (by decide)))
  have f27_4 := Fld.other W26 f23_5 (Or.inr (slot_ne (Or.inr (hw _ (List.mem_of_getElem? (i := 25) rfl))) (Or.inr (hw _ (List.mem_of_getElem? (i := 21) rfl))) (by decide) (t := (.array .long)) (t' := (.array .int)) (by decide) (by decide)))
  have f27_5 := Fld.other W26 f23_6 (Or.inr (slot_ne (Or.inr (hw _ (List.mem_of_getElem? (i := 28) rfl))) (Or.inr (hw _ (List.mem_of_getElem? (i := 21) rfl))) (by decide) (t := .int) (t' := (.array .int)) (by decide) (by decide)))
  have f27_6 := Fld.other W26 f23_7 (Or.inr (slot_ne (Or.inr (hw _ (List.mem_of_getElem? (i := 30) rfl))) (Or.inr (hw _ (List.mem_of_getElem? (i := 21) rfl))) (by decide) (t := .boolean) (t' := (.array .int)) (by decide) (by decide)))
  have f27_7 := f23_8.other W26 xe1
  have f27_8 := f23_9.other W26 (Ne.symm ne7)
  have f27_9 := av19.other W26 (Ne.symm ne20)
  have zz28 : n0 ≤ h26.size := Nat.le_trans zz24 (Keep.of_wr W26).1
  have kp29 : Keep h0 h26 [a0] := kp25.wr W26 (Or.inl (List.mem_of_getElem? (i := 0) rfl))
  have pre30 : Go p.tables e below S0 T26 (mkF m 22 #[vR a0, vR a1, .unset, .unset, .unset] [(.ref a1), (.ref a0)]) := fun t k => pre26 t (by
    refine XS.aloadN X26.here hx rfl (hb hby d3_20) rfl rfl ?_
    refine XS.aloadN X26.here hx rfl (hb hby d3_21) rfl rfl ?_
    exact k)
  obtain ⟨cl31, Ar31, q31, S31, M31, H31, G31⟩ := id f27_7
  have pre32 : Go p.tables e below S0 T26 (mkF m 23 #[vR a0, vR a1, .unset, .unset, .unset] [(.int (4 : Int32)), (.ref a0)]) := fun t k => pre30 t (by
    refine X26.arraylength hx (by rw [e26]; exact Ar31.1) (State.isArrayOf_alike hZ.alike Ar31.2.1) (g := (mkF m 22 #[vR a0, vR a1, .unset, .unset, .unset] [(.ref a1), (.ref a0)])) rfl rfl (hb hby d3_22) _ ?_
    rw [len_of S31 M31]
    exact k)
  obtain ⟨T33, h33, kA33, X33, e33, E33, A33, st33⟩ := newP X26 hx hZ (hw _ (List.mem_of_getElem? (i := 8) rfl)) e26 (g := (mkF m 23 #[vR a0, vR a1, .unset, .unset, .unset] [(.int (4 : Int32)), (.ref a0)])) rfl (hb hby d3_23) rfl (by decide) (cap := 4) (by decide) (by decide) (by decide) (by decide)
  obtain ⟨b33, g33⟩ : ∃ z, z = h26.size := ⟨_, rfl⟩
  rw [← g33] at A33 st33
  have pre33 : Go p.tables e below S0 T33 (mkF m 25 #[vR a0, vR a1, .unset, .unset, .unset] [(.ref b33), (.ref a0)]) := fun t k => pre32 t (st33 t k)
  have ne34 : a0 ≠ b33 := Nat.ne_of_lt (Nat.lt_of_lt_of_le f27_1.lt (Nat.le_of_eq g33.symm))
  have ne35 : a1 ≠ b33 := Nat.ne_of_lt (Nat.lt_of_lt_of_le f27_7.lt (Nat.le_of_eq g33.symm))
  have ne36 : b6 ≠ b33 := Nat.ne_of_lt (Nat.lt_of_lt_of_le f27_8.lt (Nat.le_of_eq g33.symm))
  have ne37 : b19 ≠ b33 := Nat.ne_of_lt (Nat.lt_of_lt_of_le f27_9.lt (Nat.le_of_eq g33.symm))
  have bo33 : n0 ≤ b33 := Nat.le_trans zz28 (Nat.le_of_eq g33.symm)
  have ol33 : h0.size ≤ b33 := Nat.le_trans kp29.1 (Nat.le_of_eq g33.symm)
  have f38_1 := Exa.ext E33 f27_1
  have f38_2 := Fld.ext E33 f27_2
  have f38_3 := Fld.ext E33 fw26
  have f38_4 := Fld.ext E33 f27_3
  have f38_5 := Fld.ext E33 f27_4
  have f38_6 := Fld.ext E33 f27_5
  have f38_7 := Fld.ext E33 f27_6
  have f38_8 := f27_7.ext E33
  have f38_9 := f27_8.ext E33
  have f38_10 := f27_9.ext E33
  have zz39 : n0 ≤ h33.size := Nat.le_trans zz28 E33.1
  have kp40 : Keep h0 h33 [a0] := kp29.ext E33
  have av33 : Arv Z h33 b33 kA33 .long (4 : Int32) [(.long (0 : Int64)), (.long (0 : Int64)), (.long (0 : Int64)), (.long (0 : Int64))] (.long (0 : Int64)) := (Arv.new A33 (by decide)).pad (pad_rep [] (.long (0 : Int64)) 4)
  obtain ⟨T41, h41, X41, e41, W41, st41⟩ := putF X33 hx hZ hown (host := "") (Or.inl (hw _ (List.mem_of_getElem? (i := 22) rfl))) Via.refl e33 f38_4 f38_1 (Or.inr ⟨(hw _ (List.mem_of_getElem? (i := 23) rfl)), rfl, hnm⟩) (hw _ (List.mem_of_getElem? (i := 10) rfl)) (ty := (.array .long)) (by decide) rfl rfl (g := (mkF m 25 #[vR a0, vR a1, .unset, .unset, .unset] [(.ref b33), (.ref a0)])) rfl rfl (hb hby d3_25)
  have pre41 : Go p.tables e below S0 T41 (mkF m 28 #[vR a0, vR a1, .unset, .unset, .unset] []) := fun t k => pre33 t (st41 t k)
  obtain ⟨lo41, N41, X41⟩ : ∃ lo, Fr n0 lo ∧ Stand p l e ({ frames := 1, cells := 4, slots := 16, locals := 12 } : Room) s m #[(.ref a0), (.ref a1)] below meth c T41 lo 3 12 := ⟨_, Fr.snoc X41 N26 g0, X41⟩
  have fw41 : Fld Z h41 a0 "com/example/garantia/garantia/engine/StateLayout" "mask" "[J" (.ref b33) := Fld.same W41 f38_4
  have f42_1 := Exa.wr W41 f38_1
  have f42_2 := Fld.other W41 f38_2 (Or.inr (slot_ne (Or.inr (hw _ (List.mem_of_getElem? (i := 19) rfl))) (Or.inr (hw _ (List.mem_of_getElem? (i := 23) rfl))) (by decide) (t := (.array .int)) (t' := (.array .long)) (by decide) (by decide)))
  have f42_3 := Fld.other W41 f38_3 (Or.inr (slot_ne (Or.inr (hw _ (List.mem_of_getElem? (i := 21) rfl))) (Or.inr (hw _ (List.mem_of_getElem? (i := 23) rfl))) (by decide) (t := (.array .int)) (t' := (.array .long)) (by decide) (by decide)))
  have f42_4 := Fld.other W41 f38_5 (Or.inr (slot_ne (Or.inr (hw _ (List.mem_of_getElem? (i := 25) rfl))) (Or.inr (hw _ (List.mem_of_getElem? (i := 23) rfl))) (by decide) (t := (.array .long)) (t' := (.array .long)) (by decide) (by decide)))
  have f42_5 := Fld.other W41 f38_6 (Or.inr (slot_ne (Or.inr (hw _ (List.mem_of_getElem? (i := 28) rfl))) (Or.inr (hw _ (List.mem_of_getElem? (i := 23) rfl))) (by decide) (t := .int) (t' := (.array .long)) (by decide) (by decide)))
  have f42_6 := Fld.other W41 f38_7 (Or.inr (slot_ne (Or.inr (hw _ (List.mem_of_getElem? (i := 30) rfl))) (Or.inr (hw _ (List.mem_of_getElem? (i := 23) rfl))) (by decide) (t := .boolean) (t' := (.array .long)) (by decide) (by decide)))
  have f42_7 := f38_8.other W41 xe1
  have f42_8 := f38_9.other W41 (Ne.symm ne7)
  have f42_9 := f38_10.other W41 (Ne.symm ne20)
  have f42_10 := av33.other W41 (Ne.symm ne34)
  have zz43 : n0 ≤ h41.size := Nat.le_trans zz39 (Keep.of_wr W41).1
  have kp44 : Keep h0 h41 [a0] := kp40.wr W41 (Or.inl (List.mem_of_getElem? (i := 0) rfl))
  have pre45 : Go p.tables e below S0 T41 (mkF m 30 #[vR a0, vR a1, .unset, .unset, .unset] [(.ref a1), (.ref a0)]) := fun t k => pre41 t (by
    refine XS.aloadN X41.here hx rfl (hb hby d3_28) rfl rfl ?_
    refine XS.aloadN X41.here hx rfl (hb hby d3_29) rfl rfl ?_
    exact k)
  obtain ⟨cl46, Ar46, q46, S46, M46, H46, G46⟩ := id f42_7
  have pre47 : Go p.tables e below S0 T41 (mkF m 31 #[vR a0, vR a1, .unset, .unset, .unset] [(.int (4 : Int32)), (.ref a0)]) := fun t k => pre45 t (by
    refine X41.arraylength hx (by rw [e41]; exact Ar46.1) (State.isArrayOf_alike hZ.alike Ar46.2.1) (g := (mkF m 30 #[vR a0, vR a1, .unset, .unset, .unset] [(.ref a1), (.ref a0)])) rfl rfl (hb hby d3_30) _ ?_
    rw [len_of S46 M46]
    exact k)
  obtain ⟨T48, h48, kA48, X48, e48, E48, A48, st48⟩ := newP X41 hx hZ (hw _ (List.mem_of_getElem? (i := 8) rfl)) e41 (g := (mkF m 31 #[vR a0, vR a1, .unset, .unset, .unset] [(.int (4 : Int32)), (.ref a0)])) rfl (hb hby d3_31) rfl (by decide) (cap := 4) (by decide) (by decide) (by decide) (by decide)
  obtain ⟨b48, g48⟩ : ∃ z, z = h41.size := ⟨_, rfl⟩
  rw [← g48] at A48 st48
  have pre48 : Go p.tables e below S0 T48 (mkF m 33 #[vR a0, vR a1, .unset, .unset, .unset] [(.ref b48), (.ref a0)]) := fun t k => pre47 t (st48 t k)
  have ne49 : a0 ≠ b48 := Nat.ne_of_lt (Nat.lt_of_lt_of_le f42_1.lt (Nat.le_of_eq g48.symm))
  have ne50 : a1 ≠ b48 := Nat.ne_of_lt (Nat.lt_of_lt_of_le f42_7.lt (Nat.le_of_eq g48.symm))
  have ne51 : b6 ≠ b48 := Nat.ne_of_lt (Nat.lt_of_lt_of_le f42_8.lt (Nat.le_of_eq g48.symm))
  have ne52 : b19 ≠ b48 := Nat.ne_of_lt (Nat.lt_of_lt_of_le f42_9.lt (Nat.le_of_eq g48.symm))
  have ne53 : b33 ≠ b48 := Nat.ne_of_lt (Nat.lt_of_lt_of_le f42_10.lt (Nat.le_of_eq g48.symm))
  have bo48 : n0 ≤ b48 := Nat.le_trans zz43 (Nat.le_of_eq g48.symm)
  have ol48 : h0.size ≤ b48 := Nat.le_trans kp44.1 (Nat.le_of_eq g48.symm)
  have f54_1 := Exa.ext E48 f42_1
  have f54_2 := Fld.ext E48 f42_2
  have f54_3 := Fld.ext E48 f42_3
  have f54_4 := Fld.ext E48 fw41
  have f54_5 := Fld.ext E48 f42_4
  have f54_6 := Fld.ext E48 f42_5
  have f54_7 := Fld.ext E48 f42_6
  have f54_8 := f42_7.ext E48
  have f54_9 := f42_8.ext E48
  have f54_10 := f42_9.ext E48
  have f54_11 := f42_10.ext E48
  have zz55 : n0 ≤ h48.size := Nat.le_trans zz43 E48.1
  have kp56 : Keep h0 h48 [a0] := kp44.ext E48
  have av48 : Arv Z h48 b48 kA48 .long (4 : Int32) [(.long (0 : Int64)), (.long (0 : Int64)), (.long (0 : Int64)), (.long (0 : Int64))] (.long (0 : Int64)) := (Arv.new A48 (by decide)).pad (pad_rep [] (.long (0 : Int64)) 4)
  obtain ⟨T57, h57, X57, e57, W57, st57⟩ := putF X48 hx hZ hown (host := "") (Or.inl (hw _ (List.mem_of_getElem? (i := 24) rfl))) Via.refl e48 f54_5 f54_1 (Or.inr ⟨(hw _ (List.mem_of_getElem? (i := 25) rfl)), rfl, hnm⟩) (hw _ (List.mem_of_getElem? (i := 10) rfl)) (ty := (.array .long)) (by decide) rfl rfl (g := (mkF m 33 #[vR a0, vR a1, .unset, .unset, .unset] [(.ref b48), (.ref a0)])) rfl rfl (hb hby d3_33)
  have pre57 : Go p.tables e below S0 T57 (mkF m 36 #[vR a0, vR a1, .unset, .unset, .unset] []) := fun t k => pre48 t (st57 t k)
  obtain ⟨lo57, N57, X57⟩ : ∃ lo, Fr n0 lo ∧ Stand p l e ({ frames := 1, cells := 4, slots := 16, locals := 12 } : Room) s m #[(.ref a0), (.ref a1)] below meth c T57 lo 4 16 := ⟨_, Fr.snoc X57 N41 g0, X57⟩
  have fw57 : Fld Z h57 a0 "com/example/garantia/garantia/engine/StateLayout" "others" "[J" (.ref b48) := Fld.same W57 f54_5
  have f58_1 := Exa.wr W57 f54_1
  have f58_2 := Fld.other W57 f54_2 (Or.inr (slot_ne (Or.inr (hw _ (List.mem_of_getElem? (i := 19) rfl))) (Or.inr (hw _ (List.mem_of_getElem? (i := 25) rfl))) (by decide) (t := (.array .int)) (t' := (.array .long)) (by decide) (by decide)))
  have f58_3 := Fld.other W57 f54_3 (Or.inr (slot_ne (Or.inr (hw _ (List.mem_of_getElem? (i := 21) rfl))) (Or.inr (hw _ (List.mem_of_getElem? (i := 25) rfl))) (by decide) (t := (.array .int)) (t' := (.array .long)) (by decide) (by decide)))
  have f58_4 := Fld.other W57 f54_4 (Or.inr (slot_ne (Or.inr (hw _ (List.mem_of_getElem? (i := 23) rfl))) (Or.inr (hw _ (List.mem_of_getElem? (i := 25) rfl))) (by decide) (t := (.array .long)) (t' := (.array .long)) (by decide) (by decide)))
  have f58_5 := Fld.other W57 f54_6 (Or.inr (slot_ne (Or.inr (hw _ (List.mem_of_getElem? (i := 28) rfl))) (Or.inr (hw _ (List.mem_of_getElem? (i := 25) rfl))) (by decide) (t := .int) (t' := (.array .long)) (by decide) (by decide)))
  have f58_6 := Fld.other W57 f54_7 (Or.inr (slot_ne (Or.inr (hw _ (List.mem_of_getElem? (i := 30) rfl))) (Or.inr (hw _ (List.mem_of_getElem? (i := 25) rfl))) (by decide) (t := .boolean) (t' := (.array .long)) (by decide) (by decide)))
  have f58_7 := f54_8.other W57 xe1
  have f58_8 := f54_9.other W57 (Ne.symm ne7)
  have f58_9 := f54_10.other W57 (Ne.symm ne20)
  have f58_10 := f54_11.other W57 (Ne.symm ne34)
  have f58_11 := av48.other W57 (Ne.symm ne49)
  have zz59 : n0 ≤ h57.size := Nat.le_trans zz55 (Keep.of_wr W57).1
  have kp60 : Keep h0 h57 [a0] := kp56.wr W57 (Or.inl (List.mem_of_getElem? (i := 0) rfl))
  have pre61 : Go p.tables e below S0 T57 (mkF m 46 #[vR a0, vR a1, vI (0 : Int32), vI (0 : Int32), vI (0 : Int32)] [(.ref a1), (.int (0 : Int32))]) := fun t k => pre57 t (by
    refine XS.iconst X57.here hx rfl (hb hby d3_36) ?_
    refine XS.istoreN X57.here hx rfl (hb hby d3_37) rfl (l' := #[vR a0, vR a1, vI (0 : Int32), .unset, .unset]) rfl ?_
    refine XS.iconst X57.here hx rfl (hb hby d3_38) ?_
    show Steps p.tables e below (T57.setTop (mkF m 39 #[vR a0, vR a1, vI (0 : Int32), .unset, .unset] [(.int (0 : Int32))])) _
    refine XS.istoreN X57.here hx rfl (hb hby d3_39) rfl (l' := #[vR a0, vR a1, vI (0 : Int32), vI (0 : Int32), .unset]) rfl ?_
    refine XS.iconst X57.here hx rfl (hb hby d3_40) ?_
    refine XS.istore X57.here hx rfl (hb hby d3_41) rfl (l' := #[vR a0, vR a1, vI (0 : Int32), vI (0 : Int32), vI (0 : Int32)]) rfl ?_
    show Steps p.tables e below (T57.setTop (mkF m 43 #[vR a0, vR a1, vI (0 : Int32), vI (0 : Int32), vI (0 : Int32)] [])) _
    refine XS.iload X57.here hx rfl (hb hby d3_43) rfl ?_
    refine XS.aloadN X57.here hx rfl (hb hby d3_45) rfl rfl ?_
    exact k)
  obtain ⟨cl62, Ar62, q62, S62, M62, H62, G62⟩ := id f58_7
  have pre63 : Go p.tables e below S0 T57 (mkF m 54 #[vR a0, vR a1, vI (0 : Int32), vI (0 : Int32), vI (0 : Int32)] [(.int (0 : Int32)), (.ref a1), (.int (0 : Int32))]) := fun t k => pre61 t (by
    refine X57.arraylength hx (by rw [e57]; exact Ar62.1) (State.isArrayOf_alike hZ.alike Ar62.2.1) (g := (mkF m 46 #[vR a0, vR a1, vI (0 : Int32), vI (0 : Int32), vI (0 : Int32)] [(.ref a1), (.int (0 : Int32))])) rfl rfl (hb hby d3_46) _ ?_
    rw [len_of S62 M62]
    refine XS.icmpNo X57.here hx rfl (hb hby d3_47) rfl (tlt (by decide : (0 : Int32) < (4 : Int32))).2.1 ?_
    refine XS.iloadN X57.here hx rfl (hb hby d3_50) rfl ?_
    show Steps p.tables e below (T57.setTop (mkF m 51 #[vR a0, vR a1, vI (0 : Int32), vI (0 : Int32), vI (0 : Int32)] [(.int (0 : Int32))])) _
    refine XS.aloadN X57.here hx rfl (hb hby d3_51) rfl rfl ?_
    refine XS.iload X57.here hx rfl (hb hby d3_52) rfl ?_
    exact k)
  obtain ⟨cl64, Ar64, q64, S64, M64, H64, G64⟩ := id f58_7
  have in64 : ¬ ((0 : Int32) < 0 ∨ cl64.slots.size ≤ ((0 : Int32)).toNatClampNeg) := inb_of S64 ⟨by decide, by decide⟩
  have at64 : cl64.slots[((0 : Int32)).toNatClampNeg]? = some (.int w0) := H64.at in64 rfl
  have pre65 : Go p.tables e below S0 T57 (mkF m 58 #[vR a0, vR a1, vI (0 : Int32), vI (0 : Int32), vI (0 : Int32)] [(.int (64 : Int32)), (.int ((0 : Int32) + w0))]) := fun t k => pre63 t (by
    refine X57.iaload hx (j := (0 : Int32)) (v := (.int w0)) (by rw [e57]; exact Ar64.1) (State.isArrayOf_alike hZ.alike Ar64.2.1) Ar64.2.2 in64 at64 (g := (mkF m 54 #[vR a0, vR a1, vI (0 : Int32), vI (0 : Int32), vI (0 : Int32)] [(.int (0 : Int32)), (.ref a1), (.int (0 : Int32))])) rfl rfl (hb hby d3_54) _ ?_
    refine XS.iadd X57.here hx rfl (hb hby d3_55) rfl ?_
    refine XS.bipush X57.here hx rfl (hb hby d3_56) ?_
    show Steps p.tables e below (T57.setTop (mkF m 58 #[vR a0, vR a1, vI (0 : Int32), vI (0 : Int32), vI (0 : Int32)] [(.int (64 : Int32)), (.int ((0 : Int32) + w0))])) _
    exact k)
  have cc66 : ¬ ((64 : Int32) < ((0 : Int32) + w0)) := own_no1 hw0
  have pre67 : Go p.tables e below S0 T57 (mkF m 67 #[vR a0, vR a1, vI (0 : Int32), vI (0 : Int32), vI (0 : Int32)] [(.ref a0)]) := fun t k => pre65 t (by
    refine XS.icmpYes X57.here hx rfl (pc0 := 58) (pc' := 66) rfl (hb hby d3_58) rfl (flt cc66).2.2.2 (by decide) (by decide) ?_
    refine XS.aloadN X57.here hx rfl (hb hby d3_66) rfl rfl ?_
    exact k)
  obtain ⟨T68, X68, e68, st68⟩ := getF X57 hx hZ hown (host := "") (Or.inl (hw _ (List.mem_of_getElem? (i := 18) rfl))) Via.refl e57 f58_2 (g := (mkF m 67 #[vR a0, vR a1, vI (0 : Int32), vI (0 : Int32), vI (0 : Int32)] [(.ref a0)])) rfl rfl (hb hby d3_67)
  have pre68 : Go p.tables e below S0 T68 (mkF m 70 #[vR a0, vR a1, vI (0 : Int32), vI (0 : Int32), vI (0 : Int32)] [(.ref b6)]) := fun t k => pre67 t (st68 t k)
  have pre69 : Go p.tables e below S0 T68 (mkF m 73 #[vR a0, vR a1, vI (0 : Int32), vI (0 : Int32), vI (0 : Int32)] [(.int (0 : Int32)), (.int (0 : Int32)), (.ref b6)]) := fun t k => pre68 t (by
    refine XS.iload X68.here hx rfl (hb hby d3_70) rfl ?_
    refine XS.iloadN X68.here hx rfl (hb hby d3_72) rfl ?_
    exact k)
  obtain ⟨cl70, Ar70, q70, S70, M70, H70, G70⟩ := id f58_8
  have in70 : ¬ ((0 : Int32) < 0 ∨ cl70.slots.size ≤ ((0 : Int32)).toNatClampNeg) := inb_of S70 ⟨by decide, by decide⟩
  obtain ⟨T70, h70, X70, e70, W70, st70⟩ := stI X68 hx hZ e68 Ar70 (j := (0 : Int32)) in70 (g := (mkF m 73 #[vR a0, vR a1, vI (0 : Int32), vI (0 : Int32), vI (0 : Int32)] [(.int (0 : Int32)), (.int (0 : Int32)), (.ref b6)])) rfl rfl (hb hby d3_73)
  have pre70 : Go p.tables e below S0 T70 (mkF m 74 #[vR a0, vR a1, vI (0 : Int32), vI (0 : Int32), vI (0 : Int32)] []) := fun t k => pre69 t (st70 t k)
  obtain ⟨lo70, N70, X70⟩ : ∃ lo, Fr n0 lo ∧ Stand p l e ({ frames := 1, cells := 4, slots := 16, locals := 12 } : Room) s m #[(.ref a0), (.ref a1)] below meth c T70 lo 4 16 := ⟨_, Fr.snoc X70 N57 bo6, X70⟩
  have av70 : Arv Z h70 b6 kA6 .int (4 : Int32) [(.int (0 : Int32)), (.int (0 : Int32)), (.int (0 : Int32)), (.int (0 : Int32))] (.int (0 : Int32)) := Arv.set Ar70 q70 S70 M70 H70 G70 rfl W70 0 rfl (Nat.le_of_ble_eq_true rfl)
  have f71_1 := Exa.wr W70 f58_1
  have f71_2 := Fld.other W70 f58_2 (Or.inl ne7)
  have f71_3 := Fld.other W70 f58_3 (Or.inl ne7)
  have f71_4 := Fld.other W70 f58_4 (Or.inl ne7)
  have f71_5 := Fld.other W70 fw57 (Or.inl ne7)
  have f71_6 := Fld.other W70 f58_5 (Or.inl ne7)
  have f71_7 := Fld.other W70 f58_6 (Or.inl ne7)
  have f71_8 := f58_7.other W70 ne8
  have f71_9 := f58_9.other W70 (Ne.symm ne22)
  have f71_10 := f58_10.other W70 (Ne.symm ne36)
  have f71_11 := f58_11.other W70 (Ne.symm ne51)
  have zz72 : n0 ≤ h70.size := Nat.le_trans zz59 (Keep.of_wr W70).1
  have kp73 : Keep h0 h70 [a0] := kp60.wr W70 (Or.inr ol6)
  have pre74 : Go p.tables e below S0 T70 (mkF m 75 #[vR a0, vR a1, vI (0 : Int32), vI (0 : Int32), vI (0 : Int32)] [(.ref a0)]) := fun t k => pre70 t (by
    refine XS.aloadN X70.here hx rfl (hb hby d3_74) rfl rfl ?_
    exact k)
  obtain ⟨T75, X75, e75, st75⟩ := getF X70 hx hZ hown (host := "") (Or.inl (hw _ (List.mem_of_getElem? (i := 20) rfl))) Via.refl e70 f71_3 (g := (mkF m 75 #[vR a0, vR a1, vI (0 : Int32), vI (0 : Int32), vI (0 : Int32)] [(.ref a0)])) rfl rfl (hb hby d3_75)
  have pre75 : Go p.tables e below S0 T75 (mkF m 78 #[vR a0, vR a1, vI (0 : Int32), vI (0 : Int32), vI (0 : Int32)] [(.ref b19)]) := fun t k => pre74 t (st75 t k)
  have pre76 : Go p.tables e below S0 T75 (mkF m 81 #[vR a0, vR a1, vI (0 : Int32), vI (0 : Int32), vI (0 : Int32)] [(.int (0 : Int32)), (.int (0 : Int32)), (.ref b19)]) := fun t k => pre75 t (by
    refine XS.iload X75.here hx rfl (hb hby d3_78) rfl ?_
    refine XS.iloadN X75.here hx rfl (hb hby d3_80) rfl ?_
    exact k)
  obtain ⟨cl77, Ar77, q77, S77, M77, H77, G77⟩ := id f71_9
  have in77 : ¬ ((0 : Int32) < 0 ∨ cl77.slots.size ≤ ((0 : Int32)).toNatClampNeg) := inb_of S77 ⟨by decide, by decide⟩
  obtain ⟨T77, h77, X77, e77, W77, st77⟩ := stI X75 hx hZ e75 Ar77 (j := (0 : Int32)) in77 (g := (mkF m 81 #[vR a0, vR a1, vI (0 : Int32), vI (0 : Int32), vI (0 : Int32)] [(.int (0 : Int32)), (.int (0 : Int32)), (.ref b19)])) rfl rfl (hb hby d3_81)
  have pre77 : Go p.tables e below S0 T77 (mkF m 82 #[vR a0, vR a1, vI (0 : Int32), vI (0 : Int32), vI (0 : Int32)] []) := fun t k => pre76 t (st77 t k)
  obtain ⟨lo77, N77, X77⟩ : ∃ lo, Fr n0 lo ∧ Stand p l e ({ frames := 1, cells := 4, slots := 16, locals := 12 } : Room) s m #[(.ref a0), (.ref a1)] below meth c T77 lo 4 16 := ⟨_, Fr.snoc X77 N70 bo19, X77⟩
  have av77 : Arv Z h77 b19 kA19 .int (4 : Int32) [(.int (0 : Int32)), (.int (0 : Int32)), (.int (0 : Int32)), (.int (0 : Int32))] (.int (0 : Int32)) := Arv.set Ar77 q77 S77 M77 H77 G77 rfl W77 0 rfl (Nat.le_of_ble_eq_true rfl)
  have f78_1 := Exa.wr W77 f71_1
  have f78_2 := Fld.other W77 f71_2 (Or.inl ne20)
  have f78_3 := Fld.other W77 f71_3 (Or.inl ne20)
  have f78_4 := Fld.other W77 f71_4 (Or.inl ne20)
  have f78_5 := Fld.other W77 f71_5 (Or.inl ne20)
  have f78_6 := Fld.other W77 f71_6 (Or.inl ne20)
  have f78_7 := Fld.other W77 f71_7 (Or.inl ne20)
  have f78_8 := f71_8.other W77 ne21
  have f78_9 := av70.other W77 ne22
  have f78_10 := f71_10.other W77 (Ne.symm ne37)
  have f78_11 := f71_11.other W77 (Ne.symm ne52)
  have zz79 : n0 ≤ h77.size := Nat.le_trans zz72 (Keep.of_wr W77).1
  have kp80 : Keep h0 h77 [a0] := kp73.wr W77 (Or.inr ol19)
  have pre81 : Go p.tables e below S0 T77 (mkF m 83 #[vR a0, vR a1, vI (0 : Int32), vI (0 : Int32), vI (0 : Int32)] [(.ref a0)]) := fun t k => pre77 t (by
    refine XS.aloadN X77.here hx rfl (hb hby d3_82) rfl rfl ?_
    exact k)
  obtain ⟨T82, X82, e82, st82⟩ := getF X77 hx hZ hown (host := "") (Or.inl (hw _ (List.mem_of_getElem? (i := 22) rfl))) Via.refl e77 f78_4 (g := (mkF m 83 #[vR a0, vR a1, vI (0 : Int32), vI (0 : Int32), vI (0 : Int32)] [(.ref a0)])) rfl rfl (hb hby d3_83)
  have pre82 : Go p.tables e below S0 T82 (mkF m 86 #[vR a0, vR a1, vI (0 : Int32), vI (0 : Int32), vI (0 : Int32)] [(.ref b33)]) := fun t k => pre81 t (st82 t k)
  have pre83 : Go p.tables e below S0 T82 (mkF m 92 #[vR a0, vR a1, vI (0 : Int32), vI (0 : Int32), vI (0 : Int32)] [(.int (0 : Int32)), (.ref a1), (.long (1 : Int64)), (.int (0 : Int32)), (.ref b33)]) := fun t k => pre82 t (by
    refine XS.iload X82.here hx rfl (hb hby d3_86) rfl ?_
    refine XS.lconst X82.here hx rfl (hb hby d3_88) ?_
    refine XS.aloadN X82.here hx rfl (hb hby d3_89) rfl rfl ?_
    show Steps p.tables e below (T82.setTop (mkF m 90 #[vR a0, vR a1, vI (0 : Int32), vI (0 : Int32), vI (0 : Int32)] [(.ref a1), (.long (1 : Int64)), (.int (0 : Int32)), (.ref b33)])) _
    refine XS.iload X82.here hx rfl (hb hby d3_90) rfl ?_
    exact k)
  obtain ⟨cl84, Ar84, q84, S84, M84, H84, G84⟩ := id f78_8
  have in84 : ¬ ((0 : Int32) < 0 ∨ cl84.slots.size ≤ ((0 : Int32)).toNatClampNeg) := inb_of S84 ⟨by decide, by decide⟩
  have at84 : cl84.slots[((0 : Int32)).toNatClampNeg]? = some (.int w0) := H84.at in84 rfl
  have pre85 : Go p.tables e below S0 T82 (mkF m 96 #[vR a0, vR a1, vI (0 : Int32), vI (0 : Int32), vI (0 : Int32)] [(.long (((1 : Int64) <<< (w0 &&& 0x3f).toInt64) - (1 : Int64))), (.int (0 : Int32)), (.ref b33)]) := fun t k => pre83 t (by
    refine X82.iaload hx (j := (0 : Int32)) (v := (.int w0)) (by rw [e82]; exact Ar84.1) (State.isArrayOf_alike hZ.alike Ar84.2.1) Ar84.2.2 in84 at84 (g := (mkF m 92 #[vR a0, vR a1, vI (0 : Int32), vI (0 : Int32), vI (0 : Int32)] [(.int (0 : Int32)), (.ref a1), (.long (1 : Int64)), (.int (0 : Int32)), (.ref b33)])) rfl rfl (hb hby d3_92) _ ?_
    refine XS.lshl X82.here hx rfl (hb hby d3_93) rfl ?_
    refine XS.lconst X82.here hx rfl (hb hby d3_94) ?_
    show Steps p.tables e below (T82.setTop (mkF m 95 #[vR a0, vR a1, vI (0 : Int32), vI (0 : Int32), vI (0 : Int32)] [(.long (1 : Int64)), (.long ((1 : Int64) <<< (w0 &&& 0x3f).toInt64)), (.int (0 : Int32)), (.ref b33)])) _
    refine XS.lsub X82.here hx rfl (hb hby d3_95) rfl ?_
    exact k)
  obtain ⟨cl86, Ar86, q86, S86, M86, H86, G86⟩ := id f78_10
  have in86 : ¬ ((0 : Int32) < 0 ∨ cl86.slots.size ≤ ((0 : Int32)).toNatClampNeg) := inb_of S86 ⟨by decide, by decide⟩
  obtain ⟨T86, h86, X86, e86, W86, st86⟩ := stJ X82 hx hZ e82 Ar86 (j := (0 : Int32)) in86 (g := (mkF m 96 #[vR a0, vR a1, vI (0 : Int32), vI (0 : Int32), vI (0 : Int32)] [(.long (((1 : Int64) <<< (w0 &&& 0x3f).toInt64) - (1 : Int64))), (.int (0 : Int32)), (.ref b33)])) rfl rfl (hb hby d3_96)
  have pre86 : Go p.tables e below S0 T86 (mkF m 97 #[vR a0, vR a1, vI (0 : Int32), vI (0 : Int32), vI (0 : Int32)] []) := fun t k => pre85 t (st86 t k)
  obtain ⟨lo86, N86, X86⟩ : ∃ lo, Fr n0 lo ∧ Stand p l e ({ frames := 1, cells := 4, slots := 16, locals := 12 } : Room) s m #[(.ref a0), (.ref a1)] below meth c T86 lo 4 16 := ⟨_, Fr.snoc X86 N77 bo33, X86⟩
  have av86 : Arv Z h86 b33 kA33 .long (4 : Int32) [(.long (((1 : Int64) <<< (w0 &&& 0x3f).toInt64) - (1 : Int64))), (.long (0 : Int64)), (.long (0 : Int64)), (.long (0 : Int64))] (.long (0 : Int64)) := Arv.set Ar86 q86 S86 M86 H86 G86 rfl W86 0 rfl (Nat.le_of_ble_eq_true rfl)
  have f87_1 := Exa.wr W86 f78_1
  have f87_2 := Fld.other W86 f78_2 (Or.inl ne34)
  have f87_3 := Fld.other W86 f78_3 (Or.inl ne34)
  have f87_4 := Fld.other W86 f78_4 (Or.inl ne34)
  have f87_5 := Fld.other W86 f78_5 (Or.inl ne34)
  have f87_6 := Fld.other W86 f78_6 (Or.inl ne34)
  have f87_7 := Fld.other W86 f78_7 (Or.inl ne34)
  have f87_8 := f78_8.other W86 ne35
  have f87_9 := f78_9.other W86 ne36
  have f87_10 := av77.other W86 ne37
  have f87_11 := f78_11.other W86 (Ne.symm ne53)
  have zz88 : n0 ≤ h86.size := Nat.le_trans zz79 (Keep.of_wr W86).1
  have kp89 : Keep h0 h86 [a0] := kp80.wr W86 (Or.inr ol33)
  have pre90 : Go p.tables e below S0 T86 (mkF m 98 #[vR a0, vR a1, vI (0 : Int32), vI (0 : Int32), vI (0 : Int32)] [(.ref a0)]) := fun t k => pre86 t (by
    refine XS.aloadN X86.here hx rfl (hb hby d3_97) rfl rfl ?_
    exact k)
  obtain ⟨T91, X91, e91, st91⟩ := getF X86 hx hZ hown (host := "") (Or.inl (hw _ (List.mem_of_getElem? (i := 24) rfl))) Via.refl e86 f87_5 (g := (mkF m 98 #[vR a0, vR a1, vI (0 : Int32), vI (0 : Int32), vI (0 : Int32)] [(.ref a0)])) rfl rfl (hb hby d3_98)
  have pre91 : Go p.tables e below S0 T91 (mkF m 101 #[vR a0, vR a1, vI (0 : Int32), vI (0 : Int32), vI (0 : Int32)] [(.ref b48)]) := fun t k => pre90 t (st91 t k)
  have pre92 : Go p.tables e below S0 T91 (mkF m 104 #[vR a0, vR a1, vI (0 : Int32), vI (0 : Int32), vI (0 : Int32)] [(.ref a0), (.int (0 : Int32)), (.ref b48)]) := fun t k => pre91 t (by
    refine XS.iload X91.here hx rfl (hb hby d3_101) rfl ?_
    refine XS.aloadN X91.here hx rfl (hb hby d3_103) rfl rfl ?_
    exact k)
  obtain ⟨T93, X93, e93, st93⟩ := getF X91 hx hZ hown (host := "") (Or.inl (hw _ (List.mem_of_getElem? (i := 22) rfl))) Via.refl e91 f87_4 (g := (mkF m 104 #[vR a0, vR a1, vI (0 : Int32), vI (0 : Int32), vI (0 : Int32)] [(.ref a0), (.int (0 : Int32)), (.ref b48)])) rfl rfl (hb hby d3_104)
  have pre93 : Go p.tables e below S0 T93 (mkF m 107 #[vR a0, vR a1, vI (0 : Int32), vI (0 : Int32), vI (0 : Int32)] [(.ref b33), (.int (0 : Int32)), (.ref b48)]) := fun t k => pre92 t (st93 t k)
  have pre94 : Go p.tables e below S0 T93 (mkF m 109 #[vR a0, vR a1, vI (0 : Int32), vI (0 : Int32), vI (0 : Int32)] [(.int (0 : Int32)), (.ref b33), (.int (0 : Int32)), (.ref b48)]) := fun t k => pre93 t (by
    refine XS.iload X93.here hx rfl (hb hby d3_107) rfl ?_
    exact k)
  obtain ⟨cl95, Ar95, q95, S95, M95, H95, G95⟩ := id av86
  have in95 : ¬ ((0 : Int32) < 0 ∨ cl95.slots.size ≤ ((0 : Int32)).toNatClampNeg) := inb_of S95 ⟨by decide, by decide⟩
  have at95 : cl95.slots[((0 : Int32)).toNatClampNeg]? = some (.long (((1 : Int64) <<< (w0 &&& 0x3f).toInt64) - (1 : Int64))) := H95.at in95 rfl
  have pre96 : Go p.tables e below S0 T93 (mkF m 116 #[vR a0, vR a1, vI (0 : Int32), vI (0 : Int32), vI (0 : Int32)] [(.long (((((1 : Int64) <<< (w0 &&& 0x3f).toInt64) - (1 : Int64)) <<< ((0 : Int32) &&& 0x3f).toInt64) ^^^ (-1 : Int64))), (.int (0 : Int32)), (.ref b48)]) := fun t k => pre94 t (by
    refine X93.laload hx (j := (0 : Int32)) (v := (.long (((1 : Int64) <<< (w0 &&& 0x3f).toInt64) - (1 : Int64)))) (by rw [e93]; exact Ar95.1) (State.isArrayOf_alike hZ.alike Ar95.2.1) Ar95.2.2 in95 at95 (g := (mkF m 109 #[vR a0, vR a1, vI (0 : Int32), vI (0 : Int32), vI (0 : Int32)] [(.int (0 : Int32)), (.ref b33), (.int (0 : Int32)), (.ref b48)])) rfl rfl (hb hby d3_109) _ ?_
    refine XS.iloadN X93.here hx rfl (hb hby d3_110) rfl ?_
    refine XS.lshl X93.here hx rfl (hb hby d3_111) rfl ?_
    show Steps p.tables e below (T93.setTop (mkF m 112 #[vR a0, vR a1, vI (0 : Int32), vI (0 : Int32), vI (0 : Int32)] [(.long ((((1 : Int64) <<< (w0 &&& 0x3f).toInt64) - (1 : Int64)) <<< ((0 : Int32) &&& 0x3f).toInt64)), (.int (0 : Int32)), (.ref b48)])) _
    refine X93.ldc2Long hx hown (mvT hZ (hw _ (List.mem_of_getElem? (i := 26) rfl))) (g := (mkF m 112 #[vR a0, vR a1, vI (0 : Int32), vI (0 : Int32), vI (0 : Int32)] [(.long ((((1 : Int64) <<< (w0 &&& 0x3f).toInt64) - (1 : Int64)) <<< ((0 : Int32) &&& 0x3f).toInt64)), (.int (0 : Int32)), (.ref b48)])) rfl (hb hby d3_112) _ ?_
    refine XS.lxor X93.here hx rfl (hb hby d3_115) rfl ?_
    exact k)
  obtain ⟨cl97, Ar97, q97, S97, M97, H97, G97⟩ := id f87_11
  have in97 : ¬ ((0 : Int32) < 0 ∨ cl97.slots.size ≤ ((0 : Int32)).toNatClampNeg) := inb_of S97 ⟨by decide, by decide⟩
  obtain ⟨T97, h97, X97, e97, W97, st97⟩ := stJ X93 hx hZ e93 Ar97 (j := (0 : Int32)) in97 (g := (mkF m 116 #[vR a0, vR a1, vI (0 : Int32), vI (0 : Int32), vI (0 : Int32)] [(.long (((((1 : Int64) <<< (w0 &&& 0x3f).toInt64) - (1 : Int64)) <<< ((0 : Int32) &&& 0x3f).toInt64) ^^^ (-1 : Int64))), (.int (0 : Int32)), (.ref b48)])) rfl rfl (hb hby d3_116)
  have pre97 : Go p.tables e below S0 T97 (mkF m 117 #[vR a0, vR a1, vI (0 : Int32), vI (0 : Int32), vI (0 : Int32)] []) := fun t k => pre96 t (st97 t k)
  obtain ⟨lo97, N97, X97⟩ : ∃ lo, Fr n0 lo ∧ Stand p l e ({ frames := 1, cells := 4, slots := 16, locals := 12 } : Room) s m #[(.ref a0), (.ref a1)] below meth c T97 lo 4 16 := ⟨_, Fr.snoc X97 N86 bo48, X97⟩
  have av97 : Arv Z h97 b48 kA48 .long (4 : Int32) [(.long (((((1 : Int64) <<< (w0 &&& 0x3f).toInt64) - (1 : Int64)) <<< ((0 : Int32) &&& 0x3f).toInt64) ^^^ (-1 : Int64))), (.long (0 : Int64)), (.long (0 : Int64)), (.long (0 : Int64))] (.long (0 : Int64)) := Arv.set Ar97 q97 S97 M97 H97 G97 rfl W97 0 rfl (Nat.le_of_ble_eq_true rfl)
  have f98_1 := Exa.wr W97 f87_1
  have f98_2 := Fld.other W97 f87_2 (Or.inl ne49)
  have f98_3 := Fld.other W97 f87_3 (Or.inl ne49)
  have f98_4 := Fld.other W97 f87_4 (Or.inl ne49)
  have f98_5 := Fld.other W97 f87_5 (Or.inl ne49)
  have f98_6 := Fld.other W97 f87_6 (Or.inl ne49)
  have f98_7 := Fld.other W97 f87_7 (Or.inl ne49)
  have f98_8 := f87_8.other W97 ne50
  have f98_9 := f87_9.other W97 ne51
  have f98_10 := f87_10.other W97 ne52
  have f98_11 := av86.other W97 ne53
  have zz99 : n0 ≤ h97.size := Nat.le_trans zz88 (Keep.of_wr W97).1
  have kp100 : Keep h0 h97 [a0] := kp89.wr W97 (Or.inr ol48)
  have pre101 : Go p.tables e below S0 T97 (mkF m 121 #[vR a0, vR a1, vI (0 : Int32), vI (0 : Int32), vI (0 : Int32)] [(.int (0 : Int32)), (.ref a1), (.int (0 : Int32))]) := fun t k => pre97 t (by
    refine XS.iloadN X97.here hx rfl (hb hby d3_117) rfl ?_
    refine XS.aloadN X97.here hx rfl (hb hby d3_118) rfl rfl ?_
    refine XS.iload X97.here hx rfl (hb hby d3_119) rfl ?_
    show Steps p.tables e below (T97.setTop (mkF m 121 #[vR a0, vR a1, vI (0 : Int32), vI (0 : Int32), vI (0 : Int32)] [(.int (0 : Int32)), (.ref a1), (.int (0 : Int32))])) _
    exact k)
  obtain ⟨cl102, Ar102, q102, S102, M102, H102, G102⟩ := id f98_8
  have in102 : ¬ ((0 : Int32) < 0 ∨ cl102.slots.size ≤ ((0 : Int32)).toNatClampNeg) := inb_of S102 ⟨by decide, by decide⟩
  have at102 : cl102.slots[((0 : Int32)).toNatClampNeg]? = some (.int w0) := H102.at in102 rfl
  have pre103 : Go p.tables e below S0 T97 (mkF m 46 #[vR a0, vR a1, vI ((0 : Int32) + w0), vI (0 : Int32), vI (1 : Int32)] [(.ref a1), (.int (1 : Int32))]) := fun t k => pre101 t (by
    refine X97.iaload hx (j := (0 : Int32)) (v := (.int w0)) (by rw [e97]; exact Ar102.1) (State.isArrayOf_alike hZ.alike Ar102.2.1) Ar102.2.2 in102 at102 (g := (mkF m 121 #[vR a0, vR a1, vI (0 : Int32), vI (0 : Int32), vI (0 : Int32)] [(.int (0 : Int32)), (.ref a1), (.int (0 : Int32))])) rfl rfl (hb hby d3_121) _ ?_
    refine XS.iadd X97.here hx rfl (hb hby d3_122) rfl ?_
    refine XS.istoreN X97.here hx rfl (hb hby d3_123) rfl (l' := #[vR a0, vR a1, vI ((0 : Int32) + w0), vI (0 : Int32), vI (0 : Int32)]) rfl ?_
    show Steps p.tables e below (T97.setTop (mkF m 124 #[vR a0, vR a1, vI ((0 : Int32) + w0), vI (0 : Int32), vI (0 : Int32)] [])) _
    refine XS.iinc X97.here hx rfl (hb hby d3_124) rfl (l' := #[vR a0, vR a1, vI ((0 : Int32) + w0), vI (0 : Int32), vI (1 : Int32)]) rfl ?_
    refine XS.goto X97.here hx rfl (pc0 := 127) (pc' := 43) rfl (hb hby d3_127) (by decide) (by decide) ?_
    refine XS.iload X97.here hx rfl (hb hby d3_43) rfl ?_
    show Steps p.tables e below (T97.setTop (mkF m 45 #[vR a0, vR a1, vI ((0 : Int32) + w0), vI (0 : Int32), vI (1 : Int32)] [(.int (1 : Int32))])) _
    refine XS.aloadN X97.here hx rfl (hb hby d3_45) rfl rfl ?_
    exact k)
  obtain ⟨cl104, Ar104, q104, S104, M104, H104, G104⟩ := id f98_8
  have pre105 : Go p.tables e below S0 T97 (mkF m 54 #[vR a0, vR a1, vI ((0 : Int32) + w0), vI (0 : Int32), vI (1 : Int32)] [(.int (1 : Int32)), (.ref a1), (.int ((0 : Int32) + w0))]) := fun t k => pre103 t (by
    refine X97.arraylength hx (by rw [e97]; exact Ar104.1) (State.isArrayOf_alike hZ.alike Ar104.2.1) (g := (mkF m 46 #[vR a0, vR a1, vI ((0 : Int32) + w0), vI (0 : Int32), vI (1 : Int32)] [(.ref a1), (.int (1 : Int32))])) rfl rfl (hb hby d3_46) _ ?_
    rw [len_of S104 M104]
    refine XS.icmpNo X97.here hx rfl (hb hby d3_47) rfl (tlt (by decide : (1 : Int32) < (4 : Int32))).2.1 ?_
    refine XS.iloadN X97.here hx rfl (hb hby d3_50) rfl ?_
    show Steps p.tables e below (T97.setTop (mkF m 51 #[vR a0, vR a1, vI ((0 : Int32) + w0), vI (0 : Int32), vI (1 : Int32)] [(.int ((0 : Int32) + w0))])) _
    refine XS.aloadN X97.here hx rfl (hb hby d3_51) rfl rfl ?_
    refine XS.iload X97.here hx rfl (hb hby d3_52) rfl ?_
    exact k)
  obtain ⟨cl106, Ar106, q106, S106, M106, H106, G106⟩ := id f98_8
  have in106 : ¬ ((1 : Int32) < 0 ∨ cl106.slots.size ≤ ((1 : Int32)).toNatClampNeg) := inb_of S106 ⟨by decide, by decide⟩
  have at106 : cl106.slots[((1 : Int32)).toNatClampNeg]? = some (.int w1) := H106.at in106 rfl
  have pre107 : Go p.tables e below S0 T97 (mkF m 58 #[vR a0, vR a1, vI ((0 : Int32) + w0), vI (0 : Int32), vI (1 : Int32)] [(.int (64 : Int32)), (.int (((0 : Int32) + w0) + w1))]) := fun t k => pre105 t (by
    refine X97.iaload hx (j := (1 : Int32)) (v := (.int w1)) (by rw [e97]; exact Ar106.1) (State.isArrayOf_alike hZ.alike Ar106.2.1) Ar106.2.2 in106 at106 (g := (mkF m 54 #[vR a0, vR a1, vI ((0 : Int32) + w0), vI (0 : Int32), vI (1 : Int32)] [(.int (1 : Int32)), (.ref a1), (.int ((0 : Int32) + w0))])) rfl rfl (hb hby d3_54) _ ?_
    refine XS.iadd X97.here hx rfl (hb hby d3_55) rfl ?_
    refine XS.bipush X97.here hx rfl (hb hby d3_56) ?_
    show Steps p.tables e below (T97.setTop (mkF m 58 #[vR a0, vR a1, vI ((0 : Int32) + w0), vI (0 : Int32), vI (1 : Int32)] [(.int (64 : Int32)), (.int (((0 : Int32) + w0) + w1))])) _
    exact k)
  have cc108 : ¬ ((64 : Int32) < (((0 : Int32) + w0) + w1)) := own_no2 hw0 hw1
  have pre109 : Go p.tables e below S0 T97 (mkF m 67 #[vR a0, vR a1, vI ((0 : Int32) + w0), vI (0 : Int32), vI (1 : Int32)] [(.ref a0)]) := fun t k => pre107 t (by
    refine XS.icmpYes X97.here hx rfl (pc0 := 58) (pc' := 66) rfl (hb hby d3_58) rfl (flt cc108).2.2.2 (by decide) (by decide) ?_
    refine XS.aloadN X97.here hx rfl (hb hby d3_66) rfl rfl ?_
    exact k)
  obtain ⟨T110, X110, e110, st110⟩ := getF X97 hx hZ hown (host := "") (Or.inl (hw _ (List.mem_of_getElem? (i := 18) rfl))) Via.refl e97 f98_2 (g := (mkF m 67 #[vR a0, vR a1, vI ((0 : Int32) + w0), vI (0 : Int32), vI (1 : Int32)] [(.ref a0)])) rfl rfl (hb hby d3_67)
  have pre110 : Go p.tables e below S0 T110 (mkF m 70 #[vR a0, vR a1, vI ((0 : Int32) + w0), vI (0 : Int32), vI (1 : Int32)] [(.ref b6)]) := fun t k => pre109 t (st110 t k)
  have pre111 : Go p.tables e below S0 T110 (mkF m 73 #[vR a0, vR a1, vI ((0 : Int32) + w0), vI (0 : Int32), vI (1 : Int32)] [(.int (0 : Int32)), (.int (1 : Int32)), (.ref b6)]) := fun t k => pre110 t (by
    refine XS.iload X110.here hx rfl (hb hby d3_70) rfl ?_
    refine XS.iloadN X110.here hx rfl (hb hby d3_72) rfl ?_
    exact k)
  obtain ⟨cl112, Ar112, q112, S112, M112, H112, G112⟩ := id f98_9
  have in112 : ¬ ((1 : Int32) < 0 ∨ cl112.slots.size ≤ ((1 : Int32)).toNatClampNeg) := inb_of S112 ⟨by decide, by decide⟩
  obtain ⟨T112, h112, X112, e112, W112, st112⟩ := stI X110 hx hZ e110 Ar112 (j := (1 : Int32)) in112 (g := (mkF m 73 #[vR a0, vR a1, vI ((0 : Int32) + w0), vI (0 : Int32), vI (1 : Int32)] [(.int (0 : Int32)), (.int (1 : Int32)), (.ref b6)])) rfl rfl (hb hby d3_73)
  have pre112 : Go p.tables e below S0 T112 (mkF m 74 #[vR a0, vR a1, vI ((0 : Int32) + w0), vI (0 : Int32), vI (1 : Int32)] []) := fun t k => pre111 t (st112 t k)
  obtain ⟨lo112, N112, X112⟩ : ∃ lo, Fr n0 lo ∧ Stand p l e ({ frames := 1, cells := 4, slots := 16, locals := 12 } : Room) s m #[(.ref a0), (.ref a1)] below meth c T112 lo 4 16 := ⟨_, Fr.snoc X112 N97 bo6, X112⟩
  have av112 : Arv Z h112 b6 kA6 .int (4 : Int32) [(.int (0 : Int32)), (.int (0 : Int32)), (.int (0 : Int32)), (.int (0 : Int32))] (.int (0 : Int32)) := Arv.set Ar112 q112 S112 M112 H112 G112 rfl W112 1 rfl (Nat.le_of_ble_eq_true rfl)
  have f113_1 := Exa.wr W112 f98_1
  have f113_2 := Fld.other W112 f98_2 (Or.inl ne7)
  have f113_3 := Fld.other W112 f98_3 (Or.inl ne7)
  have f113_4 := Fld.other W112 f98_4 (Or.inl ne7)
  have f113_5 := Fld.other W112 f98_5 (Or.inl ne7)
  have f113_6 := Fld.other W112 f98_6 (Or.inl ne7)
  have f113_7 := Fld.other W112 f98_7 (Or.inl ne7)
  have f113_8 := f98_8.other W112 ne8
  have f113_9 := f98_10.other W112 (Ne.symm ne22)
  have f113_10 := f98_11.other W112 (Ne.symm ne36)
  have f113_11 := av97.other W112 (Ne.symm ne51)
  have zz114 : n0 ≤ h112.size := Nat.le_trans zz99 (Keep.of_wr W112).1
  have kp115 : Keep h0 h112 [a0] := kp100.wr W112 (Or.inr ol6)
  have pre116 : Go p.tables e below S0 T112 (mkF m 75 #[vR a0, vR a1, vI ((0 : Int32) + w0), vI (0 : Int32), vI (1 : Int32)] [(.ref a0)]) := fun t k => pre112 t (by
    refine XS.aloadN X112.here hx rfl (hb hby d3_74) rfl rfl ?_
    exact k)
  obtain ⟨T117, X117, e117, st117⟩ := getF X112 hx hZ hown (host := "") (Or.inl (hw _ (List.mem_of_getElem? (i := 20) rfl))) Via.refl e112 f113_3 (g := (mkF m 75 #[vR a0, vR a1, vI ((0 : Int32) + w0), vI (0 : Int32), vI (1 : Int32)] [(.ref a0)])) rfl rfl (hb hby d3_75)
  have pre117 : Go p.tables e below S0 T117 (mkF m 78 #[vR a0, vR a1, vI ((0 : Int32) + w0), vI (0 : Int32), vI (1 : Int32)] [(.ref b19)]) := fun t k => pre116 t (st117 t k)
  have pre118 : Go p.tables e below S0 T117 (mkF m 81 #[vR a0, vR a1, vI ((0 : Int32) + w0), vI (0 : Int32), vI (1 : Int32)] [(.int ((0 : Int32) + w0)), (.int (1 : Int32)), (.ref b19)]) := fun t k => pre117 t (by
    refine XS.iload X117.here hx rfl (hb hby d3_78) rfl ?_
    refine XS.iloadN X117.here hx rfl (hb hby d3_80) rfl ?_
    exact k)
  obtain ⟨cl119, Ar119, q119, S119, M119, H119, G119⟩ := id f113_9
  have in119 : ¬ ((1 : Int32) < 0 ∨ cl119.slots.size ≤ ((1 : Int32)).toNatClampNeg) := inb_of S119 ⟨by decide, by decide⟩
  obtain ⟨T119, h119, X119, e119, W119, st119⟩ := stI X117 hx hZ e117 Ar119 (j := (1 : Int32)) in119 (g := (mkF m 81 #[vR a0, vR a1, vI ((0 : Int32) + w0), vI (0 : Int32), vI (1 : Int32)] [(.int ((0 : Int32) + w0)), (.int (1 : Int32)), (.ref b19)])) rfl rfl (hb hby d3_81)
  have pre119 : Go p.tables e below S0 T119 (mkF m 82 #[vR a0, vR a1, vI ((0 : Int32) + w0), vI (0 : Int32), vI (1 : Int32)] []) := fun t k => pre118 t (st119 t k)
  obtain ⟨lo119, N119, X119⟩ : ∃ lo, Fr n0 lo ∧ Stand p l e ({ frames := 1, cells := 4, slots := 16, locals := 12 } : Room) s m #[(.ref a0), (.ref a1)] below meth c T119 lo 4 16 := ⟨_, Fr.snoc X119 N112 bo19, X119⟩
  have av119 : Arv Z h119 b19 kA19 .int (4 : Int32) [(.int (0 : Int32)), (.int ((0 : Int32) + w0)), (.int (0 : Int32)), (.int (0 : Int32))] (.int (0 : Int32)) := Arv.set Ar119 q119 S119 M119 H119 G119 rfl W119 1 rfl (Nat.le_of_ble_eq_true rfl)
  have f120_1 := Exa.wr W119 f113_1
  have f120_2 := Fld.other W119 f113_2 (Or.inl ne20)
  have f120_3 := Fld.other W119 f113_3 (Or.inl ne20)
  have f120_4 := Fld.other W119 f113_4 (Or.inl ne20)
  have f120_5 := Fld.other W119 f113_5 (Or.inl ne20)
  have f120_6 := Fld.other W119 f113_6 (Or.inl ne20)
  have f120_7 := Fld.other W119 f113_7 (Or.inl ne20)
  have f120_8 := f113_8.other W119 ne21
  have f120_9 := av112.other W119 ne22
  have f120_10 := f113_10.other W119 (Ne.symm ne37)
  have f120_11 := f113_11.other W119 (Ne.symm ne52)
  have zz121 : n0 ≤ h119.size := Nat.le_trans zz114 (Keep.of_wr W119).1
  have kp122 : Keep h0 h119 [a0] := kp115.wr W119 (Or.inr ol19)
  have pre123 : Go p.tables e below S0 T119 (mkF m 83 #[vR a0, vR a1, vI ((0 : Int32) + w0), vI (0 : Int32), vI (1 : Int32)] [(.ref a0)]) := fun t k => pre119 t (by
    refine XS.aloadN X119.here hx rfl (hb hby d3_82) rfl rfl ?_
    exact k)
  obtain ⟨T124, X124, e124, st124⟩ := getF X119 hx hZ hown (host := "") (Or.inl (hw _ (List.mem_of_getElem? (i := 22) rfl))) Via.refl e119 f120_4 (g := (mkF m 83 #[vR a0, vR a1, vI ((0 : Int32) + w0), vI (0 : Int32), vI (1 : Int32)] [(.ref a0)])) rfl rfl (hb hby d3_83)
  have pre124 : Go p.tables e below S0 T124 (mkF m 86 #[vR a0, vR a1, vI ((0 : Int32) + w0), vI (0 : Int32), vI (1 : Int32)] [(.ref b33)]) := fun t k => pre123 t (st124 t k)
  have pre125 : Go p.tables e below S0 T124 (mkF m 92 #[vR a0, vR a1, vI ((0 : Int32) + w0), vI (0 : Int32), vI (1 : Int32)] [(.int (1 : Int32)), (.ref a1), (.long (1 : Int64)), (.int (1 : Int32)), (.ref b33)]) := fun t k => pre124 t (by
    refine XS.iload X124.here hx rfl (hb hby d3_86) rfl ?_
    refine XS.lconst X124.here hx rfl (hb hby d3_88) ?_
    refine XS.aloadN X124.here hx rfl (hb hby d3_89) rfl rfl ?_
    show Steps p.tables e below (T124.setTop (mkF m 90 #[vR a0, vR a1, vI ((0 : Int32) + w0), vI (0 : Int32), vI (1 : Int32)] [(.ref a1), (.long (1 : Int64)), (.int (1 : Int32)), (.ref b33)])) _
    refine XS.iload X124.here hx rfl (hb hby d3_90) rfl ?_
    exact k)
  obtain ⟨cl126, Ar126, q126, S126, M126, H126, G126⟩ := id f120_8
  have in126 : ¬ ((1 : Int32) < 0 ∨ cl126.slots.size ≤ ((1 : Int32)).toNatClampNeg) := inb_of S126 ⟨by decide, by decide⟩
  have at126 : cl126.slots[((1 : Int32)).toNatClampNeg]? = some (.int w1) := H126.at in126 rfl
  have pre127 : Go p.tables e below S0 T124 (mkF m 96 #[vR a0, vR a1, vI ((0 : Int32) + w0), vI (0 : Int32), vI (1 : Int32)] [(.long (((1 : Int64) <<< (w1 &&& 0x3f).toInt64) - (1 : Int64))), (.int (1 : Int32)), (.ref b33)]) := fun t k => pre125 t (by
    refine X124.iaload hx (j := (1 : Int32)) (v := (.int w1)) (by rw [e124]; exact Ar126.1) (State.isArrayOf_alike hZ.alike Ar126.2.1) Ar126.2.2 in126 at126 (g := (mkF m 92 #[vR a0, vR a1, vI ((0 : Int32) + w0), vI (0 : Int32), vI (1 : Int32)] [(.int (1 : Int32)), (.ref a1), (.long (1 : Int64)), (.int (1 : Int32)), (.ref b33)])) rfl rfl (hb hby d3_92) _ ?_
    refine XS.lshl X124.here hx rfl (hb hby d3_93) rfl ?_
    refine XS.lconst X124.here hx rfl (hb hby d3_94) ?_
    show Steps p.tables e below (T124.setTop (mkF m 95 #[vR a0, vR a1, vI ((0 : Int32) + w0), vI (0 : Int32), vI (1 : Int32)] [(.long (1 : Int64)), (.long ((1 : Int64) <<< (w1 &&& 0x3f).toInt64)), (.int (1 : Int32)), (.ref b33)])) _
    refine XS.lsub X124.here hx rfl (hb hby d3_95) rfl ?_
    exact k)
  obtain ⟨cl128, Ar128, q128, S128, M128, H128, G128⟩ := id f120_10
  have in128 : ¬ ((1 : Int32) < 0 ∨ cl128.slots.size ≤ ((1 : Int32)).toNatClampNeg) := inb_of S128 ⟨by decide, by decide⟩
  obtain ⟨T128, h128, X128, e128, W128, st128⟩ := stJ X124 hx hZ e124 Ar128 (j := (1 : Int32)) in128 (g := (mkF m 96 #[vR a0, vR a1, vI ((0 : Int32) + w0), vI (0 : Int32), vI (1 : Int32)] [(.long (((1 : Int64) <<< (w1 &&& 0x3f).toInt64) - (1 : Int64))), (.int (1 : Int32)), (.ref b33)])) rfl rfl (hb hby d3_96)
  have pre128 : Go p.tables e below S0 T128 (mkF m 97 #[vR a0, vR a1, vI ((0 : Int32) + w0), vI (0 : Int32), vI (1 : Int32)] []) := fun t k => pre127 t (st128 t k)
  obtain ⟨lo128, N128, X128⟩ : ∃ lo, Fr n0 lo ∧ Stand p l e ({ frames := 1, cells := 4, slots := 16, locals := 12 } : Room) s m #[(.ref a0), (.ref a1)] below meth c T128 lo 4 16 := ⟨_, Fr.snoc X128 N119 bo33, X128⟩
  have av128 : Arv Z h128 b33 kA33 .long (4 : Int32) [(.long (((1 : Int64) <<< (w0 &&& 0x3f).toInt64) - (1 : Int64))), (.long (((1 : Int64) <<< (w1 &&& 0x3f).toInt64) - (1 : Int64))), (.long (0 : Int64)), (.long (0 : Int64))] (.long (0 : Int64)) := Arv.set Ar128 q128 S128 M128 H128 G128 rfl W128 1 rfl (Nat.le_of_ble_eq_true rfl)
  have f129_1 := Exa.wr W128 f120_1
  have f129_2 := Fld.other W128 f120_2 (Or.inl ne34)
  have f129_3 := Fld.other W128 f120_3 (Or.inl ne34)
  have f129_4 := Fld.other W128 f120_4 (Or.inl ne34)
  have f129_5 := Fld.other W128 f120_5 (Or.inl ne34)
  have f129_6 := Fld.other W128 f120_6 (Or.inl ne34)
  have f129_7 := Fld.other W128 f120_7 (Or.inl ne34)
  have f129_8 := f120_8.other W128 ne35
  have f129_9 := f120_9.other W128 ne36
  have f129_10 := av119.other W128 ne37
  have f129_11 := f120_11.other W128 (Ne.symm ne53)
  have zz130 : n0 ≤ h128.size := Nat.le_trans zz121 (Keep.of_wr W128).1
  have kp131 : Keep h0 h128 [a0] := kp122.wr W128 (Or.inr ol33)
  have pre132 : Go p.tables e below S0 T128 (mkF m 98 #[vR a0, vR a1, vI ((0 : Int32) + w0), vI (0 : Int32), vI (1 : Int32)] [(.ref a0)]) := fun t k => pre128 t (by
    refine XS.aloadN X128.here hx rfl (hb hby d3_97) rfl rfl ?_
    exact k)
  obtain ⟨T133, X133, e133, st133⟩ := getF X128 hx hZ hown (host := "") (Or.inl (hw _ (List.mem_of_getElem? (i := 24) rfl))) Via.refl e128 f129_5 (g := (mkF m 98 #[vR a0, vR a1, vI ((0 : Int32) + w0), vI (0 : Int32), vI (1 : Int32)] [(.ref a0)])) rfl rfl (hb hby d3_98)
  have pre133 : Go p.tables e below S0 T133 (mkF m 101 #[vR a0, vR a1, vI ((0 : Int32) + w0), vI (0 : Int32), vI (1 : Int32)] [(.ref b48)]) := fun t k => pre132 t (st133 t k)
  have pre134 : Go p.tables e below S0 T133 (mkF m 104 #[vR a0, vR a1, vI ((0 : Int32) + w0), vI (0 : Int32), vI (1 : Int32)] [(.ref a0), (.int (1 : Int32)), (.ref b48)]) := fun t k => pre133 t (by
    refine XS.iload X133.here hx rfl (hb hby d3_101) rfl ?_
    refine XS.aloadN X133.here hx rfl (hb hby d3_103) rfl rfl ?_
    exact k)
  obtain ⟨T135, X135, e135, st135⟩ := getF X133 hx hZ hown (host := "") (Or.inl (hw _ (List.mem_of_getElem? (i := 22) rfl))) Via.refl e133 f129_4 (g := (mkF m 104 #[vR a0, vR a1, vI ((0 : Int32) + w0), vI (0 : Int32), vI (1 : Int32)] [(.ref a0), (.int (1 : Int32)), (.ref b48)])) rfl rfl (hb hby d3_104)
  have pre135 : Go p.tables e below S0 T135 (mkF m 107 #[vR a0, vR a1, vI ((0 : Int32) + w0), vI (0 : Int32), vI (1 : Int32)] [(.ref b33), (.int (1 : Int32)), (.ref b48)]) := fun t k => pre134 t (st135 t k)
  have pre136 : Go p.tables e below S0 T135 (mkF m 109 #[vR a0, vR a1, vI ((0 : Int32) + w0), vI (0 : Int32), vI (1 : Int32)] [(.int (1 : Int32)), (.ref b33), (.int (1 : Int32)), (.ref b48)]) := fun t k => pre135 t (by
    refine XS.iload X135.here hx rfl (hb hby d3_107) rfl ?_
    exact k)
  obtain ⟨cl137, Ar137, q137, S137, M137, H137, G137⟩ := id av128
  have in137 : ¬ ((1 : Int32) < 0 ∨ cl137.slots.size ≤ ((1 : Int32)).toNatClampNeg) := inb_of S137 ⟨by decide, by decide⟩
  have at137 : cl137.slots[((1 : Int32)).toNatClampNeg]? = some (.long (((1 : Int64) <<< (w1 &&& 0x3f).toInt64) - (1 : Int64))) := H137.at in137 rfl
  have pre138 : Go p.tables e below S0 T135 (mkF m 116 #[vR a0, vR a1, vI ((0 : Int32) + w0), vI (0 : Int32), vI (1 : Int32)] [(.long (((((1 : Int64) <<< (w1 &&& 0x3f).toInt64) - (1 : Int64)) <<< (((0 : Int32) + w0) &&& 0x3f).toInt64) ^^^ (-1 : Int64))), (.int (1 : Int32)), (.ref b48)]) := fun t k => pre136 t (by
    refine X135.laload hx (j := (1 : Int32)) (v := (.long (((1 : Int64) <<< (w1 &&& 0x3f).toInt64) - (1 : Int64)))) (by rw [e135]; exact Ar137.1) (State.isArrayOf_alike hZ.alike Ar137.2.1) Ar137.2.2 in137 at137 (g := (mkF m 109 #[vR a0, vR a1, vI ((0 : Int32) + w0), vI (0 : Int32), vI (1 : Int32)] [(.int (1 : Int32)), (.ref b33), (.int (1 : Int32)), (.ref b48)])) rfl rfl (hb hby d3_109) _ ?_
    refine XS.iloadN X135.here hx rfl (hb hby d3_110) rfl ?_
    refine XS.lshl X135.here hx rfl (hb hby d3_111) rfl ?_
    show Steps p.tables e below (T135.setTop (mkF m 112 #[vR a0, vR a1, vI ((0 : Int32) + w0), vI (0 : Int32), vI (1 : Int32)] [(.long ((((1 : Int64) <<< (w1 &&& 0x3f).toInt64) - (1 : Int64)) <<< (((0 : Int32) + w0) &&& 0x3f).toInt64)), (.int (1 : Int32)), (.ref b48)])) _
    refine X135.ldc2Long hx hown (mvT hZ (hw _ (List.mem_of_getElem? (i := 26) rfl))) (g := (mkF m 112 #[vR a0, vR a1, vI ((0 : Int32) + w0), vI (0 : Int32), vI (1 : Int32)] [(.long ((((1 : Int64) <<< (w1 &&& 0x3f).toInt64) - (1 : Int64)) <<< (((0 : Int32) + w0) &&& 0x3f).toInt64)), (.int (1 : Int32)), (.ref b48)])) rfl (hb hby d3_112) _ ?_
    refine XS.lxor X135.here hx rfl (hb hby d3_115) rfl ?_
    exact k)
  obtain ⟨cl139, Ar139, q139, S139, M139, H139, G139⟩ := id f129_11
  have in139 : ¬ ((1 : Int32) < 0 ∨ cl139.slots.size ≤ ((1 : Int32)).toNatClampNeg) := inb_of S139 ⟨by decide, by decide⟩
  obtain ⟨T139, h139, X139, e139, W139, st139⟩ := stJ X135 hx hZ e135 Ar139 (j := (1 : Int32)) in139 (g := (mkF m 116 #[vR a0, vR a1, vI ((0 : Int32) + w0), vI (0 : Int32), vI (1 : Int32)] [(.long (((((1 : Int64) <<< (w1 &&& 0x3f).toInt64) - (1 : Int64)) <<< (((0 : Int32) + w0) &&& 0x3f).toInt64) ^^^ (-1 : Int64))), (.int (1 : Int32)), (.ref b48)])) rfl rfl (hb hby d3_116)
  have pre139 : Go p.tables e below S0 T139 (mkF m 117 #[vR a0, vR a1, vI ((0 : Int32) + w0), vI (0 : Int32), vI (1 : Int32)] []) := fun t k => pre138 t (st139 t k)
  obtain ⟨lo139, N139, X139⟩ : ∃ lo, Fr n0 lo ∧ Stand p l e ({ frames := 1, cells := 4, slots := 16, locals := 12 } : Room) s m #[(.ref a0), (.ref a1)] below meth c T139 lo 4 16 := ⟨_, Fr.snoc X139 N128 bo48, X139⟩
  have av139 : Arv Z h139 b48 kA48 .long (4 : Int32) [(.long (((((1 : Int64) <<< (w0 &&& 0x3f).toInt64) - (1 : Int64)) <<< ((0 : Int32) &&& 0x3f).toInt64) ^^^ (-1 : Int64))), (.long (((((1 : Int64) <<< (w1 &&& 0x3f).toInt64) - (1 : Int64)) <<< (((0 : Int32) + w0) &&& 0x3f).toInt64) ^^^ (-1 : Int64))), (.long (0 : Int64)), (.long (0 : Int64))] (.long (0 : Int64)) := Arv.set Ar139 q139 S139 M139 H139 G139 rfl W139 1 rfl (Nat.le_of_ble_eq_true rfl)
  have f140_1 := Exa.wr W139 f129_1
  have f140_2 := Fld.other W139 f129_2 (Or.inl ne49)
  have f140_3 := Fld.other W139 f129_3 (Or.inl ne49)
  have f140_4 := Fld.other W139 f129_4 (Or.inl ne49)
  have f140_5 := Fld.other W139 f129_5 (Or.inl ne49)
  have f140_6 := Fld.other W139 f129_6 (Or.inl ne49)
  have f140_7 := Fld.other W139 f129_7 (Or.inl ne49)
  have f140_8 := f129_8.other W139 ne50
  have f140_9 := f129_9.other W139 ne51
  have f140_10 := f129_10.other W139 ne52
  have f140_11 := av128.other W139 ne53
  have zz141 : n0 ≤ h139.size := Nat.le_trans zz130 (Keep.of_wr W139).1
  have kp142 : Keep h0 h139 [a0] := kp131.wr W139 (Or.inr ol48)
  have pre143 : Go p.tables e below S0 T139 (mkF m 121 #[vR a0, vR a1, vI ((0 : Int32) + w0), vI (0 : Int32), vI (1 : Int32)] [(.int (1 : Int32)), (.ref a1), (.int ((0 : Int32) + w0))]) := fun t k => pre139 t (by
    refine XS.iloadN X139.here hx rfl (hb hby d3_117) rfl ?_
    refine XS.aloadN X139.here hx rfl (hb hby d3_118) rfl rfl ?_
    refine XS.iload X139.here hx rfl (hb hby d3_119) rfl ?_
    show Steps p.tables e below (T139.setTop (mkF m 121 #[vR a0, vR a1, vI ((0 : Int32) + w0), vI (0 : Int32), vI (1 : Int32)] [(.int (1 : Int32)), (.ref a1), (.int ((0 : Int32) + w0))])) _
    exact k)
  obtain ⟨cl144, Ar144, q144, S144, M144, H144, G144⟩ := id f140_8
  have in144 : ¬ ((1 : Int32) < 0 ∨ cl144.slots.size ≤ ((1 : Int32)).toNatClampNeg) := inb_of S144 ⟨by decide, by decide⟩
  have at144 : cl144.slots[((1 : Int32)).toNatClampNeg]? = some (.int w1) := H144.at in144 rfl
  have pre145 : Go p.tables e below S0 T139 (mkF m 46 #[vR a0, vR a1, vI (((0 : Int32) + w0) + w1), vI (0 : Int32), vI (2 : Int32)] [(.ref a1), (.int (2 : Int32))]) := fun t k => pre143 t (by
    refine X139.iaload hx (j := (1 : Int32)) (v := (.int w1)) (by rw [e139]; exact Ar144.1) (State.isArrayOf_alike hZ.alike Ar144.2.1) Ar144.2.2 in144 at144 (g := (mkF m 121 #[vR a0, vR a1, vI ((0 : Int32) + w0), vI (0 : Int32), vI (1 : Int32)] [(.int (1 : Int32)), (.ref a1), (.int ((0 : Int32) + w0))])) rfl rfl (hb hby d3_121) _ ?_
    refine XS.iadd X139.here hx rfl (hb hby d3_122) rfl ?_
    refine XS.istoreN X139.here hx rfl (hb hby d3_123) rfl (l' := #[vR a0, vR a1, vI (((0 : Int32) + w0) + w1), vI (0 : Int32), vI (1 : Int32)]) rfl ?_
    show Steps p.tables e below (T139.setTop (mkF m 124 #[vR a0, vR a1, vI (((0 : Int32) + w0) + w1), vI (0 : Int32), vI (1 : Int32)] [])) _
    refine XS.iinc X139.here hx rfl (hb hby d3_124) rfl (l' := #[vR a0, vR a1, vI (((0 : Int32) + w0) + w1), vI (0 : Int32), vI (2 : Int32)]) rfl ?_
    refine XS.goto X139.here hx rfl (pc0 := 127) (pc' := 43) rfl (hb hby d3_127) (by decide) (by decide) ?_
    refine XS.iload X139.here hx rfl (hb hby d3_43) rfl ?_
    show Steps p.tables e below (T139.setTop (mkF m 45 #[vR a0, vR a1, vI (((0 : Int32) + w0) + w1), vI (0 : Int32), vI (2 : Int32)] [(.int (2 : Int32))])) _
    refine XS.aloadN X139.here hx rfl (hb hby d3_45) rfl rfl ?_
    exact k)
  obtain ⟨cl146, Ar146, q146, S146, M146, H146, G146⟩ := id f140_8
  have pre147 : Go p.tables e below S0 T139 (mkF m 54 #[vR a0, vR a1, vI (((0 : Int32) + w0) + w1), vI (0 : Int32), vI (2 : Int32)] [(.int (2 : Int32)), (.ref a1), (.int (((0 : Int32) + w0) + w1))]) := fun t k => pre145 t (by
    refine X139.arraylength hx (by rw [e139]; exact Ar146.1) (State.isArrayOf_alike hZ.alike Ar146.2.1) (g := (mkF m 46 #[vR a0, vR a1, vI (((0 : Int32) + w0) + w1), vI (0 : Int32), vI (2 : Int32)] [(.ref a1), (.int (2 : Int32))])) rfl rfl (hb hby d3_46) _ ?_
    rw [len_of S146 M146]
    refine XS.icmpNo X139.here hx rfl (hb hby d3_47) rfl (tlt (by decide : (2 : Int32) < (4 : Int32))).2.1 ?_
    refine XS.iloadN X139.here hx rfl (hb hby d3_50) rfl ?_
    show Steps p.tables e below (T139.setTop (mkF m 51 #[vR a0, vR a1, vI (((0 : Int32) + w0) + w1), vI (0 : Int32), vI (2 : Int32)] [(.int (((0 : Int32) + w0) + w1))])) _
    refine XS.aloadN X139.here hx rfl (hb hby d3_51) rfl rfl ?_
    refine XS.iload X139.here hx rfl (hb hby d3_52) rfl ?_
    exact k)
  obtain ⟨cl148, Ar148, q148, S148, M148, H148, G148⟩ := id f140_8
  have in148 : ¬ ((2 : Int32) < 0 ∨ cl148.slots.size ≤ ((2 : Int32)).toNatClampNeg) := inb_of S148 ⟨by decide, by decide⟩
  have at148 : cl148.slots[((2 : Int32)).toNatClampNeg]? = some (.int w2) := H148.at in148 rfl
  have pre149 : Go p.tables e below S0 T139 (mkF m 58 #[vR a0, vR a1, vI (((0 : Int32) + w0) + w1), vI (0 : Int32), vI (2 : Int32)] [(.int (64 : Int32)), (.int ((((0 : Int32) + w0) + w1) + w2))]) := fun t k => pre147 t (by
    refine X139.iaload hx (j := (2 : Int32)) (v := (.int w2)) (by rw [e139]; exact Ar148.1) (State.isArrayOf_alike hZ.alike Ar148.2.1) Ar148.2.2 in148 at148 (g := (mkF m 54 #[vR a0, vR a1, vI (((0 : Int32) + w0) + w1), vI (0 : Int32), vI (2 : Int32)] [(.int (2 : Int32)), (.ref a1), (.int (((0 : Int32) + w0) + w1))])) rfl rfl (hb hby d3_54) _ ?_
    refine XS.iadd X139.here hx rfl (hb hby d3_55) rfl ?_
    refine XS.bipush X139.here hx rfl (hb hby d3_56) ?_
    show Steps p.tables e below (T139.setTop (mkF m 58 #[vR a0, vR a1, vI (((0 : Int32) + w0) + w1), vI (0 : Int32), vI (2 : Int32)] [(.int (64 : Int32)), (.int ((((0 : Int32) + w0) + w1) + w2))])) _
    exact k)
  refine cps (A := ∃ (j66_l2_153 : Int32) (j66_l3_154 : Int32), (j66_l3_154 = own_cur (0 : Int32) (((0 : Int32) + w0) + w1) w2 ∧ j66_l2_153 = own_u0 (((0 : Int32) + w0) + w1) w2) ∧ (Go p.tables e below S0 T139 (mkF m 66 #[vR a0, vR a1, vI j66_l2_153, vI j66_l3_154, vI (2 : Int32)] []))) (fun tail157 => ?_) ?_
  · skip
    by_cases c58_150 : (64 : Int32) < ((((0 : Int32) + w0) + w1) + w2)
    · skip
      have pre151 : Go p.tables e below S0 T139 (mkF m 66 #[vR a0, vR a1, vI (0 : Int32), vI (1 : Int32), vI (2 : Int32)] []) := fun t k => pre149 t (by
        refine XS.icmpNo X139.here hx rfl (hb hby d3_58) rfl (tlt c58_150).2.2.2 ?_
        refine XS.iinc X139.here hx rfl (hb hby d3_61) rfl (l' := #[vR a0, vR a1, vI (((0 : Int32) + w0) + w1), vI (1 : Int32), vI (2 : Int32)]) rfl ?_
        refine XS.iconst X139.here hx rfl (hb hby d3_64) ?_
        show Steps p.tables e below (T139.setTop (mkF m 65 #[vR a0, vR a1, vI (((0 : Int32) + w0) + w1), vI (1 : Int32), vI (2 : Int32)] [(.int (0 : Int32))])) _
        refine XS.istoreN X139.here hx rfl (hb hby d3_65) rfl (l' := #[vR a0, vR a1, vI (0 : Int32), vI (1 : Int32), vI (2 : Int32)]) rfl ?_
        exact k)
      exact tail157 ⟨(0 : Int32), (1 : Int32), (by exact ⟨(if_pos c58_150).symm, (if_pos c58_150).symm⟩), pre151⟩
    · skip
      have pre152 : Go p.tables e below S0 T139 (mkF m 66 #[vR a0, vR a1, vI (((0 : Int32) + w0) + w1), vI (0 : Int32), vI (2 : Int32)] []) := fun t k => pre149 t (by
        refine XS.icmpYes X139.here hx rfl (pc0 := 58) (pc' := 66) rfl (hb hby d3_58) rfl (flt c58_150).2.2.2 (by decide) (by decide) ?_
        exact k)
      exact tail157 ⟨(((0 : Int32) + w0) + w1), (0 : Int32), (by exact ⟨(if_neg c58_150).symm, (if_neg c58_150).symm⟩), pre152⟩
  rintro ⟨j66_l2_153, j66_l3_154, hj66_155, pre156⟩
  have pre158 : Go p.tables e below S0 T139 (mkF m 67 #[vR a0, vR a1, vI j66_l2_153, vI j66_l3_154, vI (2 : Int32)] [(.ref a0)]) := fun t k => pre156 t (by
    refine XS.aloadN X139.here hx rfl (hb hby d3_66) rfl rfl ?_
    exact k)
  obtain ⟨T159, X159, e159, st159⟩ := getF X139 hx hZ hown (host := "") (Or.inl (hw _ (List.mem_of_getElem? (i := 18) rfl))) Via.refl e139 f140_2 (g := (mkF m 67 #[vR a0, vR a1, vI j66_l2_153, vI j66_l3_154, vI (2 : Int32)] [(.ref a0)])) rfl rfl (hb hby d3_67)
  have pre159 : Go p.tables e below S0 T159 (mkF m 70 #[vR a0, vR a1, vI j66_l2_153, vI j66_l3_154, vI (2 : Int32)] [(.ref b6)]) := fun t k => pre158 t (st159 t k)
  have pre160 : Go p.tables e below S0 T159 (mkF m 73 #[vR a0, vR a1, vI j66_l2_153, vI j66_l3_154, vI (2 : Int32)] [(.int j66_l3_154), (.int (2 : Int32)), (.ref b6)]) := fun t k => pre159 t (by
    refine XS.iload X159.here hx rfl (hb hby d3_70) rfl ?_
    refine XS.iloadN X159.here hx rfl (hb hby d3_72) rfl ?_
    exact k)
  obtain ⟨cl161, Ar161, q161, S161, M161, H161, G161⟩ := id f140_9
  have in161 : ¬ ((2 : Int32) < 0 ∨ cl161.slots.size ≤ ((2 : Int32)).toNatClampNeg) := inb_of S161 ⟨by decide, by decide⟩
  obtain ⟨T161, h161, X161, e161, W161, st161⟩ := stI X159 hx hZ e159 Ar161 (j := (2 : Int32)) in161 (g := (mkF m 73 #[vR a0, vR a1, vI j66_l2_153, vI j66_l3_154, vI (2 : Int32)] [(.int j66_l3_154), (.int (2 : Int32)), (.ref b6)])) rfl rfl (hb hby d3_73)
  have pre161 : Go p.tables e below S0 T161 (mkF m 74 #[vR a0, vR a1, vI j66_l2_153, vI j66_l3_154, vI (2 : Int32)] []) := fun t k => pre160 t (st161 t k)
  obtain ⟨lo161, N161, X161⟩ : ∃ lo, Fr n0 lo ∧ Stand p l e ({ frames := 1, cells := 4, slots := 16, locals := 12 } : Room) s m #[(.ref a0), (.ref a1)] below meth c T161 lo 4 16 := ⟨_, Fr.snoc X161 N139 bo6, X161⟩
  have av161 : Arv Z h161 b6 kA6 .int (4 : Int32) [(.int (0 : Int32)), (.int (0 : Int32)), (.int j66_l3_154), (.int (0 : Int32))] (.int (0 : Int32)) := Arv.set Ar161 q161 S161 M161 H161 G161 rfl W161 2 rfl (Nat.le_of_ble_eq_true rfl)
  have f162_1 := Exa.wr W161 f140_1
  have f162_2 := Fld.other W161 f140_2 (Or.inl ne7)
  have f162_3 := Fld.other W161 f140_3 (Or.inl ne7)
  have f162_4 := Fld.other W161 f140_4 (Or.inl ne7)
  have f162_5 := Fld.other W161 f140_5 (Or.inl ne7)
  have f162_6 := Fld.other W161 f140_6 (Or.inl ne7)
  have f162_7 := Fld.other W161 f140_7 (Or.inl ne7)
  have f162_8 := f140_8.other W161 ne8
  have f162_9 := f140_10.other W161 (Ne.symm ne22)
  have f162_10 := f140_11.other W161 (Ne.symm ne36)
  have f162_11 := av139.other W161 (Ne.symm ne51)
  have zz163 : n0 ≤ h161.size := Nat.le_trans zz141 (Keep.of_wr W161).1
  have kp164 : Keep h0 h161 [a0] := kp142.wr W161 (Or.inr ol6)
  have pre165 : Go p.tables e below S0 T161 (mkF m 75 #[vR a0, vR a1, vI j66_l2_153, vI j66_l3_154, vI (2 : Int32)] [(.ref a0)]) := fun t k => pre161 t (by
    refine XS.aloadN X161.here hx rfl (hb hby d3_74) rfl rfl ?_
    exact k)
  obtain ⟨T166, X166, e166, st166⟩ := getF X161 hx hZ hown (host := "") (Or.inl (hw _ (List.mem_of_getElem? (i := 20) rfl))) Via.refl e161 f162_3 (g := (mkF m 75 #[vR a0, vR a1, vI j66_l2_153, vI j66_l3_154, vI (2 : Int32)] [(.ref a0)])) rfl rfl (hb hby d3_75)
  have pre166 : Go p.tables e below S0 T166 (mkF m 78 #[vR a0, vR a1, vI j66_l2_153, vI j66_l3_154, vI (2 : Int32)] [(.ref b19)]) := fun t k => pre165 t (st166 t k)
  have pre167 : Go p.tables e below S0 T166 (mkF m 81 #[vR a0, vR a1, vI j66_l2_153, vI j66_l3_154, vI (2 : Int32)] [(.int j66_l2_153), (.int (2 : Int32)), (.ref b19)]) := fun t k => pre166 t (by
    refine XS.iload X166.here hx rfl (hb hby d3_78) rfl ?_
    refine XS.iloadN X166.here hx rfl (hb hby d3_80) rfl ?_
    exact k)
  obtain ⟨cl168, Ar168, q168, S168, M168, H168, G168⟩ := id f162_9
  have in168 : ¬ ((2 : Int32) < 0 ∨ cl168.slots.size ≤ ((2 : Int32)).toNatClampNeg) := inb_of S168 ⟨by decide, by decide⟩
  obtain ⟨T168, h168, X168, e168, W168, st168⟩ := stI X166 hx hZ e166 Ar168 (j := (2 : Int32)) in168 (g := (mkF m 81 #[vR a0, vR a1, vI j66_l2_153, vI j66_l3_154, vI (2 : Int32)] [(.int j66_l2_153), (.int (2 : Int32)), (.ref b19)])) rfl rfl (hb hby d3_81)
  have pre168 : Go p.tables e below S0 T168 (mkF m 82 #[vR a0, vR a1, vI j66_l2_153, vI j66_l3_154, vI (2 : Int32)] []) := fun t k => pre167 t (st168 t k)
  obtain ⟨lo168, N168, X168⟩ : ∃ lo, Fr n0 lo ∧ Stand p l e ({ frames := 1, cells := 4, slots := 16, locals := 12 } : Room) s m #[(.ref a0), (.ref a1)] below meth c T168 lo 4 16 := ⟨_, Fr.snoc X168 N161 bo19, X168⟩
  have av168 : Arv Z h168 b19 kA19 .int (4 : Int32) [(.int (0 : Int32)), (.int ((0 : Int32) + w0)), (.int j66_l2_153), (.int (0 : Int32))] (.int (0 : Int32)) := Arv.set Ar168 q168 S168 M168 H168 G168 rfl W168 2 rfl (Nat.le_of_ble_eq_true rfl)
  have f169_1 := Exa.wr W168 f162_1
  have f169_2 := Fld.other W168 f162_2 (Or.inl ne20)
  have f169_3 := Fld.other W168 f162_3 (Or.inl ne20)
  have f169_4 := Fld.other W168 f162_4 (Or.inl ne20)
  have f169_5 := Fld.other W168 f162_5 (Or.inl ne20)
  have f169_6 := Fld.other W168 f162_6 (Or.inl ne20)
  have f169_7 := Fld.other W168 f162_7 (Or.inl ne20)
  have f169_8 := f162_8.other W168 ne21
  have f169_9 := av161.other W168 ne22
  have f169_10 := f162_10.other W168 (Ne.symm ne37)
  have f169_11 := f162_11.other W168 (Ne.symm ne52)
  have zz170 : n0 ≤ h168.size := Nat.le_trans zz163 (Keep.of_wr W168).1
  have kp171 : Keep h0 h168 [a0] := kp164.wr W168 (Or.inr ol19)
  have pre172 : Go p.tables e below S0 T168 (mkF m 83 #[vR a0, vR a1, vI j66_l2_153, vI j66_l3_154, vI (2 : Int32)] [(.ref a0)]) := fun t k => pre168 t (by
    refine XS.aloadN X168.here hx rfl (hb hby d3_82) rfl rfl ?_
    exact k)
  obtain ⟨T173, X173, e173, st173⟩ := getF X168 hx hZ hown (host := "") (Or.inl (hw _ (List.mem_of_getElem? (i := 22) rfl))) Via.refl e168 f169_4 (g := (mkF m 83 #[vR a0, vR a1, vI j66_l2_153, vI j66_l3_154, vI (2 : Int32)] [(.ref a0)])) rfl rfl (hb hby d3_83)
  have pre173 : Go p.tables e below S0 T173 (mkF m 86 #[vR a0, vR a1, vI j66_l2_153, vI j66_l3_154, vI (2 : Int32)] [(.ref b33)]) := fun t k => pre172 t (st173 t k)
  have pre174 : Go p.tables e below S0 T173 (mkF m 92 #[vR a0, vR a1, vI j66_l2_153, vI j66_l3_154, vI (2 : Int32)] [(.int (2 : Int32)), (.ref a1), (.long (1 : Int64)), (.int (2 : Int32)), (.ref b33)]) := fun t k => pre173 t (by
    refine XS.iload X173.here hx rfl (hb hby d3_86) rfl ?_
    refine XS.lconst X173.here hx rfl (hb hby d3_88) ?_
    refine XS.aloadN X173.here hx rfl (hb hby d3_89) rfl rfl ?_
    show Steps p.tables e below (T173.setTop (mkF m 90 #[vR a0, vR a1, vI j66_l2_153, vI j66_l3_154, vI (2 : Int32)] [(.ref a1), (.long (1 : Int64)), (.int (2 : Int32)), (.ref b33)])) _
    refine XS.iload X173.here hx rfl (hb hby d3_90) rfl ?_
    exact k)
  obtain ⟨cl175, Ar175, q175, S175, M175, H175, G175⟩ := id f169_8
  have in175 : ¬ ((2 : Int32) < 0 ∨ cl175.slots.size ≤ ((2 : Int32)).toNatClampNeg) := inb_of S175 ⟨by decide, by decide⟩
  have at175 : cl175.slots[((2 : Int32)).toNatClampNeg]? = some (.int w2) := H175.at in175 rfl
  have pre176 : Go p.tables e below S0 T173 (mkF m 96 #[vR a0, vR a1, vI j66_l2_153, vI j66_l3_154, vI (2 : Int32)] [(.long (((1 : Int64) <<< (w2 &&& 0x3f).toInt64) - (1 : Int64))), (.int (2 : Int32)), (.ref b33)]) := fun t k => pre174 t (by
    refine X173.iaload hx (j := (2 : Int32)) (v := (.int w2)) (by rw [e173]; exact Ar175.1) (State.isArrayOf_alike hZ.alike Ar175.2.1) Ar175.2.2 in175 at175 (g := (mkF m 92 #[vR a0, vR a1, vI j66_l2_153, vI j66_l3_154, vI (2 : Int32)] [(.int (2 : Int32)), (.ref a1), (.long (1 : Int64)), (.int (2 : Int32)), (.ref b33)])) rfl rfl (hb hby d3_92) _ ?_
    refine XS.lshl X173.here hx rfl (hb hby d3_93) rfl ?_
    refine XS.lconst X173.here hx rfl (hb hby d3_94) ?_
    show Steps p.tables e below (T173.setTop (mkF m 95 #[vR a0, vR a1, vI j66_l2_153, vI j66_l3_154, vI (2 : Int32)] [(.long (1 : Int64)), (.long ((1 : Int64) <<< (w2 &&& 0x3f).toInt64)), (.int (2 : Int32)), (.ref b33)])) _
    refine XS.lsub X173.here hx rfl (hb hby d3_95) rfl ?_
    exact k)
  obtain ⟨cl177, Ar177, q177, S177, M177, H177, G177⟩ := id f169_10
  have in177 : ¬ ((2 : Int32) < 0 ∨ cl177.slots.size ≤ ((2 : Int32)).toNatClampNeg) := inb_of S177 ⟨by decide, by decide⟩
  obtain ⟨T177, h177, X177, e177, W177, st177⟩ := stJ X173 hx hZ e173 Ar177 (j := (2 : Int32)) in177 (g := (mkF m 96 #[vR a0, vR a1, vI j66_l2_153, vI j66_l3_154, vI (2 : Int32)] [(.long (((1 : Int64) <<< (w2 &&& 0x3f).toInt64) - (1 : Int64))), (.int (2 : Int32)), (.ref b33)])) rfl rfl (hb hby d3_96)
  have pre177 : Go p.tables e below S0 T177 (mkF m 97 #[vR a0, vR a1, vI j66_l2_153, vI j66_l3_154, vI (2 : Int32)] []) := fun t k => pre176 t (st177 t k)
  obtain ⟨lo177, N177, X177⟩ : ∃ lo, Fr n0 lo ∧ Stand p l e ({ frames := 1, cells := 4, slots := 16, locals := 12 } : Room) s m #[(.ref a0), (.ref a1)] below meth c T177 lo 4 16 := ⟨_, Fr.snoc X177 N168 bo33, X177⟩
  have av177 : Arv Z h177 b33 kA33 .long (4 : Int32) [(.long (((1 : Int64) <<< (w0 &&& 0x3f).toInt64) - (1 : Int64))), (.long (((1 : Int64) <<< (w1 &&& 0x3f).toInt64) - (1 : Int64))), (.long (((1 : Int64) <<< (w2 &&& 0x3f).toInt64) - (1 : Int64))), (.long (0 : Int64))] (.long (0 : Int64)) := Arv.set Ar177 q177 S177 M177 H177 G177 rfl W177 2 rfl (Nat.le_of_ble_eq_true rfl)
  have f178_1 := Exa.wr W177 f169_1
  have f178_2 := Fld.other W177 f169_2 (Or.inl ne34)
  have f178_3 := Fld.other W177 f169_3 (Or.inl ne34)
  have f178_4 := Fld.other W177 f169_4 (Or.inl ne34)
  have f178_5 := Fld.other W177 f169_5 (Or.inl ne34)
  have f178_6 := Fld.other W177 f169_6 (Or.inl ne34)
  have f178_7 := Fld.other W177 f169_7 (Or.inl ne34)
  have f178_8 := f169_8.other W177 ne35
  have f178_9 := f169_9.other W177 ne36
  have f178_10 := av168.other W177 ne37
  have f178_11 := f169_11.other W177 (Ne.symm ne53)
  have zz179 : n0 ≤ h177.size := Nat.le_trans zz170 (Keep.of_wr W177).1
  have kp180 : Keep h0 h177 [a0] := kp171.wr W177 (Or.inr ol33)
  have pre181 : Go p.tables e below S0 T177 (mkF m 98 #[vR a0, vR a1, vI j66_l2_153, vI j66_l3_154, vI (2 : Int32)] [(.ref a0)]) := fun t k => pre177 t (by
    refine XS.aloadN X177.here hx rfl (hb hby d3_97) rfl rfl ?_
    exact k)
  obtain ⟨T182, X182, e182, st182⟩ := getF X177 hx hZ hown (host := "") (Or.inl (hw _ (List.mem_of_getElem? (i := 24) rfl))) Via.refl e177 f178_5 (g := (mkF m 98 #[vR a0, vR a1, vI j66_l2_153, vI j66_l3_154, vI (2 : Int32)] [(.ref a0)])) rfl rfl (hb hby d3_98)
  have pre182 : Go p.tables e below S0 T182 (mkF m 101 #[vR a0, vR a1, vI j66_l2_153, vI j66_l3_154, vI (2 : Int32)] [(.ref b48)]) := fun t k => pre181 t (st182 t k)
  have pre183 : Go p.tables e below S0 T182 (mkF m 104 #[vR a0, vR a1, vI j66_l2_153, vI j66_l3_154, vI (2 : Int32)] [(.ref a0), (.int (2 : Int32)), (.ref b48)]) := fun t k => pre182 t (by
    refine XS.iload X182.here hx rfl (hb hby d3_101) rfl ?_
    refine XS.aloadN X182.here hx rfl (hb hby d3_103) rfl rfl ?_
    exact k)
  obtain ⟨T184, X184, e184, st184⟩ := getF X182 hx hZ hown (host := "") (Or.inl (hw _ (List.mem_of_getElem? (i := 22) rfl))) Via.refl e182 f178_4 (g := (mkF m 104 #[vR a0, vR a1, vI j66_l2_153, vI j66_l3_154, vI (2 : Int32)] [(.ref a0), (.int (2 : Int32)), (.ref b48)])) rfl rfl (hb hby d3_104)
  have pre184 : Go p.tables e below S0 T184 (mkF m 107 #[vR a0, vR a1, vI j66_l2_153, vI j66_l3_154, vI (2 : Int32)] [(.ref b33), (.int (2 : Int32)), (.ref b48)]) := fun t k => pre183 t (st184 t k)
  have pre185 : Go p.tables e below S0 T184 (mkF m 109 #[vR a0, vR a1, vI j66_l2_153, vI j66_l3_154, vI (2 : Int32)] [(.int (2 : Int32)), (.ref b33), (.int (2 : Int32)), (.ref b48)]) := fun t k => pre184 t (by
    refine XS.iload X184.here hx rfl (hb hby d3_107) rfl ?_
    exact k)
  obtain ⟨cl186, Ar186, q186, S186, M186, H186, G186⟩ := id av177
  have in186 : ¬ ((2 : Int32) < 0 ∨ cl186.slots.size ≤ ((2 : Int32)).toNatClampNeg) := inb_of S186 ⟨by decide, by decide⟩
  have at186 : cl186.slots[((2 : Int32)).toNatClampNeg]? = some (.long (((1 : Int64) <<< (w2 &&& 0x3f).toInt64) - (1 : Int64))) := H186.at in186 rfl
  have pre187 : Go p.tables e below S0 T184 (mkF m 116 #[vR a0, vR a1, vI j66_l2_153, vI j66_l3_154, vI (2 : Int32)] [(.long (((((1 : Int64) <<< (w2 &&& 0x3f).toInt64) - (1 : Int64)) <<< (j66_l2_153 &&& 0x3f).toInt64) ^^^ (-1 : Int64))), (.int (2 : Int32)), (.ref b48)]) := fun t k => pre185 t (by
    refine X184.laload hx (j := (2 : Int32)) (v := (.long (((1 : Int64) <<< (w2 &&& 0x3f).toInt64) - (1 : Int64)))) (by rw [e184]; exact Ar186.1) (State.isArrayOf_alike hZ.alike Ar186.2.1) Ar186.2.2 in186 at186 (g := (mkF m 109 #[vR a0, vR a1, vI j66_l2_153, vI j66_l3_154, vI (2 : Int32)] [(.int (2 : Int32)), (.ref b33), (.int (2 : Int32)), (.ref b48)])) rfl rfl (hb hby d3_109) _ ?_
    refine XS.iloadN X184.here hx rfl (hb hby d3_110) rfl ?_
    refine XS.lshl X184.here hx rfl (hb hby d3_111) rfl ?_
    show Steps p.tables e below (T184.setTop (mkF m 112 #[vR a0, vR a1, vI j66_l2_153, vI j66_l3_154, vI (2 : Int32)] [(.long ((((1 : Int64) <<< (w2 &&& 0x3f).toInt64) - (1 : Int64)) <<< (j66_l2_153 &&& 0x3f).toInt64)), (.int (2 : Int32)), (.ref b48)])) _
    refine X184.ldc2Long hx hown (mvT hZ (hw _ (List.mem_of_getElem? (i := 26) rfl))) (g := (mkF m 112 #[vR a0, vR a1, vI j66_l2_153, vI j66_l3_154, vI (2 : Int32)] [(.long ((((1 : Int64) <<< (w2 &&& 0x3f).toInt64) - (1 : Int64)) <<< (j66_l2_153 &&& 0x3f).toInt64)), (.int (2 : Int32)), (.ref b48)])) rfl (hb hby d3_112) _ ?_
    refine XS.lxor X184.here hx rfl (hb hby d3_115) rfl ?_
    exact k)
  obtain ⟨cl188, Ar188, q188, S188, M188, H188, G188⟩ := id f178_11
  have in188 : ¬ ((2 : Int32) < 0 ∨ cl188.slots.size ≤ ((2 : Int32)).toNatClampNeg) := inb_of S188 ⟨by decide, by decide⟩
  obtain ⟨T188, h188, X188, e188, W188, st188⟩ := stJ X184 hx hZ e184 Ar188 (j := (2 : Int32)) in188 (g := (mkF m 116 #[vR a0, vR a1, vI j66_l2_153, vI j66_l3_154, vI (2 : Int32)] [(.long (((((1 : Int64) <<< (w2 &&& 0x3f).toInt64) - (1 : Int64)) <<< (j66_l2_153 &&& 0x3f).toInt64) ^^^ (-1 : Int64))), (.int (2 : Int32)), (.ref b48)])) rfl rfl (hb hby d3_116)
  have pre188 : Go p.tables e below S0 T188 (mkF m 117 #[vR a0, vR a1, vI j66_l2_153, vI j66_l3_154, vI (2 : Int32)] []) := fun t k => pre187 t (st188 t k)
  obtain ⟨lo188, N188, X188⟩ : ∃ lo, Fr n0 lo ∧ Stand p l e ({ frames := 1, cells := 4, slots := 16, locals := 12 } : Room) s m #[(.ref a0), (.ref a1)] below meth c T188 lo 4 16 := ⟨_, Fr.snoc X188 N177 bo48, X188⟩
  have av188 : Arv Z h188 b48 kA48 .long (4 : Int32) [(.long (((((1 : Int64) <<< (w0 &&& 0x3f).toInt64) - (1 : Int64)) <<< ((0 : Int32) &&& 0x3f).toInt64) ^^^ (-1 : Int64))), (.long (((((1 : Int64) <<< (w1 &&& 0x3f).toInt64) - (1 : Int64)) <<< (((0 : Int32) + w0) &&& 0x3f).toInt64) ^^^ (-1 : Int64))), (.long (((((1 : Int64) <<< (w2 &&& 0x3f).toInt64) - (1 : Int64)) <<< (j66_l2_153 &&& 0x3f).toInt64) ^^^ (-1 : Int64))), (.long (0 : Int64))] (.long (0 : Int64)) := Arv.set Ar188 q188 S188 M188 H188 G188 rfl W188 2 rfl (Nat.le_of_ble_eq_true rfl)
  have f189_1 := Exa.wr W188 f178_1
  have f189_2 := Fld.other W188 f178_2 (Or.inl ne49)
  have f189_3 := Fld.other W188 f178_3 (Or.inl ne49)
  have f189_4 := Fld.other W188 f178_4 (Or.inl ne49)
  have f189_5 := Fld.other W188 f178_5 (Or.inl ne49)
  have f189_6 := Fld.other W188 f178_6 (Or.inl ne49)
  have f189_7 := Fld.other W188 f178_7 (Or.inl ne49)
  have f189_8 := f178_8.other W188 ne50
  have f189_9 := f178_9.other W188 ne51
  have f189_10 := f178_10.other W188 ne52
  have f189_11 := av177.other W188 ne53
  have zz190 : n0 ≤ h188.size := Nat.le_trans zz179 (Keep.of_wr W188).1
  have kp191 : Keep h0 h188 [a0] := kp180.wr W188 (Or.inr ol48)
  have pre192 : Go p.tables e below S0 T188 (mkF m 121 #[vR a0, vR a1, vI j66_l2_153, vI j66_l3_154, vI (2 : Int32)] [(.int (2 : Int32)), (.ref a1), (.int j66_l2_153)]) := fun t k => pre188 t (by
    refine XS.iloadN X188.here hx rfl (hb hby d3_117) rfl ?_
    refine XS.aloadN X188.here hx rfl (hb hby d3_118) rfl rfl ?_
    refine XS.iload X188.here hx rfl (hb hby d3_119) rfl ?_
    show Steps p.tables e below (T188.setTop (mkF m 121 #[vR a0, vR a1, vI j66_l2_153, vI j66_l3_154, vI (2 : Int32)] [(.int (2 : Int32)), (.ref a1), (.int j66_l2_153)])) _
    exact k)
  obtain ⟨cl193, Ar193, q193, S193, M193, H193, G193⟩ := id f189_8
  have in193 : ¬ ((2 : Int32) < 0 ∨ cl193.slots.size ≤ ((2 : Int32)).toNatClampNeg) := inb_of S193 ⟨by decide, by decide⟩
  have at193 : cl193.slots[((2 : Int32)).toNatClampNeg]? = some (.int w2) := H193.at in193 rfl
  have pre194 : Go p.tables e below S0 T188 (mkF m 46 #[vR a0, vR a1, vI (j66_l2_153 + w2), vI j66_l3_154, vI (3 : Int32)] [(.ref a1), (.int (3 : Int32))]) := fun t k => pre192 t (by
    refine X188.iaload hx (j := (2 : Int32)) (v := (.int w2)) (by rw [e188]; exact Ar193.1) (State.isArrayOf_alike hZ.alike Ar193.2.1) Ar193.2.2 in193 at193 (g := (mkF m 121 #[vR a0, vR a1, vI j66_l2_153, vI j66_l3_154, vI (2 : Int32)] [(.int (2 : Int32)), (.ref a1), (.int j66_l2_153)])) rfl rfl (hb hby d3_121) _ ?_
    refine XS.iadd X188.here hx rfl (hb hby d3_122) rfl ?_
    refine XS.istoreN X188.here hx rfl (hb hby d3_123) rfl (l' := #[vR a0, vR a1, vI (j66_l2_153 + w2), vI j66_l3_154, vI (2 : Int32)]) rfl ?_
    show Steps p.tables e below (T188.setTop (mkF m 124 #[vR a0, vR a1, vI (j66_l2_153 + w2), vI j66_l3_154, vI (2 : Int32)] [])) _
    refine XS.iinc X188.here hx rfl (hb hby d3_124) rfl (l' := #[vR a0, vR a1, vI (j66_l2_153 + w2), vI j66_l3_154, vI (3 : Int32)]) rfl ?_
    refine XS.goto X188.here hx rfl (pc0 := 127) (pc' := 43) rfl (hb hby d3_127) (by decide) (by decide) ?_
    refine XS.iload X188.here hx rfl (hb hby d3_43) rfl ?_
    show Steps p.tables e below (T188.setTop (mkF m 45 #[vR a0, vR a1, vI (j66_l2_153 + w2), vI j66_l3_154, vI (3 : Int32)] [(.int (3 : Int32))])) _
    refine XS.aloadN X188.here hx rfl (hb hby d3_45) rfl rfl ?_
    exact k)
  obtain ⟨cl195, Ar195, q195, S195, M195, H195, G195⟩ := id f189_8
  have pre196 : Go p.tables e below S0 T188 (mkF m 54 #[vR a0, vR a1, vI (j66_l2_153 + w2), vI j66_l3_154, vI (3 : Int32)] [(.int (3 : Int32)), (.ref a1), (.int (j66_l2_153 + w2))]) := fun t k => pre194 t (by
    refine X188.arraylength hx (by rw [e188]; exact Ar195.1) (State.isArrayOf_alike hZ.alike Ar195.2.1) (g := (mkF m 46 #[vR a0, vR a1, vI (j66_l2_153 + w2), vI j66_l3_154, vI (3 : Int32)] [(.ref a1), (.int (3 : Int32))])) rfl rfl (hb hby d3_46) _ ?_
    rw [len_of S195 M195]
    refine XS.icmpNo X188.here hx rfl (hb hby d3_47) rfl (tlt (by decide : (3 : Int32) < (4 : Int32))).2.1 ?_
    refine XS.iloadN X188.here hx rfl (hb hby d3_50) rfl ?_
    show Steps p.tables e below (T188.setTop (mkF m 51 #[vR a0, vR a1, vI (j66_l2_153 + w2), vI j66_l3_154, vI (3 : Int32)] [(.int (j66_l2_153 + w2))])) _
    refine XS.aloadN X188.here hx rfl (hb hby d3_51) rfl rfl ?_
    refine XS.iload X188.here hx rfl (hb hby d3_52) rfl ?_
    exact k)
  obtain ⟨cl197, Ar197, q197, S197, M197, H197, G197⟩ := id f189_8
  have in197 : ¬ ((3 : Int32) < 0 ∨ cl197.slots.size ≤ ((3 : Int32)).toNatClampNeg) := inb_of S197 ⟨by decide, by decide⟩
  have at197 : cl197.slots[((3 : Int32)).toNatClampNeg]? = some (.int w3) := H197.at in197 rfl
  have pre198 : Go p.tables e below S0 T188 (mkF m 58 #[vR a0, vR a1, vI (j66_l2_153 + w2), vI j66_l3_154, vI (3 : Int32)] [(.int (64 : Int32)), (.int ((j66_l2_153 + w2) + w3))]) := fun t k => pre196 t (by
    refine X188.iaload hx (j := (3 : Int32)) (v := (.int w3)) (by rw [e188]; exact Ar197.1) (State.isArrayOf_alike hZ.alike Ar197.2.1) Ar197.2.2 in197 at197 (g := (mkF m 54 #[vR a0, vR a1, vI (j66_l2_153 + w2), vI j66_l3_154, vI (3 : Int32)] [(.int (3 : Int32)), (.ref a1), (.int (j66_l2_153 + w2))])) rfl rfl (hb hby d3_54) _ ?_
    refine XS.iadd X188.here hx rfl (hb hby d3_55) rfl ?_
    refine XS.bipush X188.here hx rfl (hb hby d3_56) ?_
    show Steps p.tables e below (T188.setTop (mkF m 58 #[vR a0, vR a1, vI (j66_l2_153 + w2), vI j66_l3_154, vI (3 : Int32)] [(.int (64 : Int32)), (.int ((j66_l2_153 + w2) + w3))])) _
    exact k)
  refine cps (A := ∃ (j66_l2_202 : Int32) (j66_l3_203 : Int32), (j66_l3_203 = own_cur j66_l3_154 (j66_l2_153 + w2) w3 ∧ j66_l2_202 = own_u0 (j66_l2_153 + w2) w3) ∧ (Go p.tables e below S0 T188 (mkF m 66 #[vR a0, vR a1, vI j66_l2_202, vI j66_l3_203, vI (3 : Int32)] []))) (fun tail206 => ?_) ?_
  · skip
    by_cases c58_199 : (64 : Int32) < ((j66_l2_153 + w2) + w3)
    · skip
      have pre200 : Go p.tables e below S0 T188 (mkF m 66 #[vR a0, vR a1, vI (0 : Int32), vI (j66_l3_154 + (1 : Int32)), vI (3 : Int32)] []) := fun t k => pre198 t (by
        refine XS.icmpNo X188.here hx rfl (hb hby d3_58) rfl (tlt c58_199).2.2.2 ?_
        refine XS.iinc X188.here hx rfl (hb hby d3_61) rfl (l' := #[vR a0, vR a1, vI (j66_l2_153 + w2), vI (j66_l3_154 + (1 : Int32)), vI (3 : Int32)]) rfl ?_
        refine XS.iconst X188.here hx rfl (hb hby d3_64) ?_
        show Steps p.tables e below (T188.setTop (mkF m 65 #[vR a0, vR a1, vI (j66_l2_153 + w2), vI (j66_l3_154 + (1 : Int32)), vI (3 : Int32)] [(.int (0 : Int32))])) _
        refine XS.istoreN X188.here hx rfl (hb hby d3_65) rfl (l' := #[vR a0, vR a1, vI (0 : Int32), vI (j66_l3_154 + (1 : Int32)), vI (3 : Int32)]) rfl ?_
        exact k)
      exact tail206 ⟨(0 : Int32), (j66_l3_154 + (1 : Int32)), (by exact ⟨(if_pos c58_199).symm, (if_pos c58_199).symm⟩), pre200⟩
    · skip
      have pre201 : Go p.tables e below S0 T188 (mkF m 66 #[vR a0, vR a1, vI (j66_l2_153 + w2), vI j66_l3_154, vI (3 : Int32)] []) := fun t k => pre198 t (by
        refine XS.icmpYes X188.here hx rfl (pc0 := 58) (pc' := 66) rfl (hb hby d3_58) rfl (flt c58_199).2.2.2 (by decide) (by decide) ?_
        exact k)
      exact tail206 ⟨(j66_l2_153 + w2), j66_l3_154, (by exact ⟨(if_neg c58_199).symm, (if_neg c58_199).symm⟩), pre201⟩
  rintro ⟨j66_l2_202, j66_l3_203, hj66_204, pre205⟩
  have pre207 : Go p.tables e below S0 T188 (mkF m 67 #[vR a0, vR a1, vI j66_l2_202, vI j66_l3_203, vI (3 : Int32)] [(.ref a0)]) := fun t k => pre205 t (by
    refine XS.aloadN X188.here hx rfl (hb hby d3_66) rfl rfl ?_
    exact k)
  obtain ⟨T208, X208, e208, st208⟩ := getF X188 hx hZ hown (host := "") (Or.inl (hw _ (List.mem_of_getElem? (i := 18) rfl))) Via.refl e188 f189_2 (g := (mkF m 67 #[vR a0, vR a1, vI j66_l2_202, vI j66_l3_203, vI (3 : Int32)] [(.ref a0)])) rfl rfl (hb hby d3_67)
  have pre208 : Go p.tables e below S0 T208 (mkF m 70 #[vR a0, vR a1, vI j66_l2_202, vI j66_l3_203, vI (3 : Int32)] [(.ref b6)]) := fun t k => pre207 t (st208 t k)
  have pre209 : Go p.tables e below S0 T208 (mkF m 73 #[vR a0, vR a1, vI j66_l2_202, vI j66_l3_203, vI (3 : Int32)] [(.int j66_l3_203), (.int (3 : Int32)), (.ref b6)]) := fun t k => pre208 t (by
    refine XS.iload X208.here hx rfl (hb hby d3_70) rfl ?_
    refine XS.iloadN X208.here hx rfl (hb hby d3_72) rfl ?_
    exact k)
  obtain ⟨cl210, Ar210, q210, S210, M210, H210, G210⟩ := id f189_9
  have in210 : ¬ ((3 : Int32) < 0 ∨ cl210.slots.size ≤ ((3 : Int32)).toNatClampNeg) := inb_of S210 ⟨by decide, by decide⟩
  obtain ⟨T210, h210, X210, e210, W210, st210⟩ := stI X208 hx hZ e208 Ar210 (j := (3 : Int32)) in210 (g := (mkF m 73 #[vR a0, vR a1, vI j66_l2_202, vI j66_l3_203, vI (3 : Int32)] [(.int j66_l3_203), (.int (3 : Int32)), (.ref b6)])) rfl rfl (hb hby d3_73)
  have pre210 : Go p.tables e below S0 T210 (mkF m 74 #[vR a0, vR a1, vI j66_l2_202, vI j66_l3_203, vI (3 : Int32)] []) := fun t k => pre209 t (st210 t k)
  obtain ⟨lo210, N210, X210⟩ : ∃ lo, Fr n0 lo ∧ Stand p l e ({ frames := 1, cells := 4, slots := 16, locals := 12 } : Room) s m #[(.ref a0), (.ref a1)] below meth c T210 lo 4 16 := ⟨_, Fr.snoc X210 N188 bo6, X210⟩
  have av210 : Arv Z h210 b6 kA6 .int (4 : Int32) [(.int (0 : Int32)), (.int (0 : Int32)), (.int j66_l3_154), (.int j66_l3_203)] (.int (0 : Int32)) := Arv.set Ar210 q210 S210 M210 H210 G210 rfl W210 3 rfl (Nat.le_of_ble_eq_true rfl)
  have f211_1 := Exa.wr W210 f189_1
  have f211_2 := Fld.other W210 f189_2 (Or.inl ne7)
  have f211_3 := Fld.other W210 f189_3 (Or.inl ne7)
  have f211_4 := Fld.other W210 f189_4 (Or.inl ne7)
  have f211_5 := Fld.other W210 f189_5 (Or.inl ne7)
  have f211_6 := Fld.other W210 f189_6 (Or.inl ne7)
  have f211_7 := Fld.other W210 f189_7 (Or.inl ne7)
  have f211_8 := f189_8.other W210 ne8
  have f211_9 := f189_10.other W210 (Ne.symm ne22)
  have f211_10 := f189_11.other W210 (Ne.symm ne36)
  have f211_11 := av188.other W210 (Ne.symm ne51)
  have zz212 : n0 ≤ h210.size := Nat.le_trans zz190 (Keep.of_wr W210).1
  have kp213 : Keep h0 h210 [a0] := kp191.wr W210 (Or.inr ol6)
  have pre214 : Go p.tables e below S0 T210 (mkF m 75 #[vR a0, vR a1, vI j66_l2_202, vI j66_l3_203, vI (3 : Int32)] [(.ref a0)]) := fun t k => pre210 t (by
    refine XS.aloadN X210.here hx rfl (hb hby d3_74) rfl rfl ?_
    exact k)
  obtain ⟨T215, X215, e215, st215⟩ := getF X210 hx hZ hown (host := "") (Or.inl (hw _ (List.mem_of_getElem? (i := 20) rfl))) Via.refl e210 f211_3 (g := (mkF m 75 #[vR a0, vR a1, vI j66_l2_202, vI j66_l3_203, vI (3 : Int32)] [(.ref a0)])) rfl rfl (hb hby d3_75)
  have pre215 : Go p.tables e below S0 T215 (mkF m 78 #[vR a0, vR a1, vI j66_l2_202, vI j66_l3_203, vI (3 : Int32)] [(.ref b19)]) := fun t k => pre214 t (st215 t k)
  have pre216 : Go p.tables e below S0 T215 (mkF m 81 #[vR a0, vR a1, vI j66_l2_202, vI j66_l3_203, vI (3 : Int32)] [(.int j66_l2_202), (.int (3 : Int32)), (.ref b19)]) := fun t k => pre215 t (by
    refine XS.iload X215.here hx rfl (hb hby d3_78) rfl ?_
    refine XS.iloadN X215.here hx rfl (hb hby d3_80) rfl ?_
    exact k)
  obtain ⟨cl217, Ar217, q217, S217, M217, H217, G217⟩ := id f211_9
  have in217 : ¬ ((3 : Int32) < 0 ∨ cl217.slots.size ≤ ((3 : Int32)).toNatClampNeg) := inb_of S217 ⟨by decide, by decide⟩
  obtain ⟨T217, h217, X217, e217, W217, st217⟩ := stI X215 hx hZ e215 Ar217 (j := (3 : Int32)) in217 (g := (mkF m 81 #[vR a0, vR a1, vI j66_l2_202, vI j66_l3_203, vI (3 : Int32)] [(.int j66_l2_202), (.int (3 : Int32)), (.ref b19)])) rfl rfl (hb hby d3_81)
  have pre217 : Go p.tables e below S0 T217 (mkF m 82 #[vR a0, vR a1, vI j66_l2_202, vI j66_l3_203, vI (3 : Int32)] []) := fun t k => pre216 t (st217 t k)
  obtain ⟨lo217, N217, X217⟩ : ∃ lo, Fr n0 lo ∧ Stand p l e ({ frames := 1, cells := 4, slots := 16, locals := 12 } : Room) s m #[(.ref a0), (.ref a1)] below meth c T217 lo 4 16 := ⟨_, Fr.snoc X217 N210 bo19, X217⟩
  have av217 : Arv Z h217 b19 kA19 .int (4 : Int32) [(.int (0 : Int32)), (.int ((0 : Int32) + w0)), (.int j66_l2_153), (.int j66_l2_202)] (.int (0 : Int32)) := Arv.set Ar217 q217 S217 M217 H217 G217 rfl W217 3 rfl (Nat.le_of_ble_eq_true rfl)
  have f218_1 := Exa.wr W217 f211_1
  have f218_2 := Fld.other W217 f211_2 (Or.inl ne20)
  have f218_3 := Fld.other W217 f211_3 (Or.inl ne20)
  have f218_4 := Fld.other W217 f211_4 (Or.inl ne20)
  have f218_5 := Fld.other W217 f211_5 (Or.inl ne20)
  have f218_6 := Fld.other W217 f211_6 (Or.inl ne20)
  have f218_7 := Fld.other W217 f211_7 (Or.inl ne20)
  have f218_8 := f211_8.other W217 ne21
  have f218_9 := av210.other W217 ne22
  have f218_10 := f211_10.other W217 (Ne.symm ne37)
  have f218_11 := f211_11.other W217 (Ne.symm ne52)
  have zz219 : n0 ≤ h217.size := Nat.le_trans zz212 (Keep.of_wr W217).1
  have kp220 : Keep h0 h217 [a0] := kp213.wr W217 (Or.inr ol19)
  have pre221 : Go p.tables e below S0 T217 (mkF m 83 #[vR a0, vR a1, vI j66_l2_202, vI j66_l3_203, vI (3 : Int32)] [(.ref a0)]) := fun t k => pre217 t (by
    refine XS.aloadN X217.here hx rfl (hb hby d3_82) rfl rfl ?_
    exact k)
  obtain ⟨T222, X222, e222, st222⟩ := getF X217 hx hZ hown (host := "") (Or.inl (hw _ (List.mem_of_getElem? (i := 22) rfl))) Via.refl e217 f218_4 (g := (mkF m 83 #[vR a0, vR a1, vI j66_l2_202, vI j66_l3_203, vI (3 : Int32)] [(.ref a0)])) rfl rfl (hb hby d3_83)
  have pre222 : Go p.tables e below S0 T222 (mkF m 86 #[vR a0, vR a1, vI j66_l2_202, vI j66_l3_203, vI (3 : Int32)] [(.ref b33)]) := fun t k => pre221 t (st222 t k)
  have pre223 : Go p.tables e below S0 T222 (mkF m 92 #[vR a0, vR a1, vI j66_l2_202, vI j66_l3_203, vI (3 : Int32)] [(.int (3 : Int32)), (.ref a1), (.long (1 : Int64)), (.int (3 : Int32)), (.ref b33)]) := fun t k => pre222 t (by
    refine XS.iload X222.here hx rfl (hb hby d3_86) rfl ?_
    refine XS.lconst X222.here hx rfl (hb hby d3_88) ?_
    refine XS.aloadN X222.here hx rfl (hb hby d3_89) rfl rfl ?_
    show Steps p.tables e below (T222.setTop (mkF m 90 #[vR a0, vR a1, vI j66_l2_202, vI j66_l3_203, vI (3 : Int32)] [(.ref a1), (.long (1 : Int64)), (.int (3 : Int32)), (.ref b33)])) _
    refine XS.iload X222.here hx rfl (hb hby d3_90) rfl ?_
    exact k)
  obtain ⟨cl224, Ar224, q224, S224, M224, H224, G224⟩ := id f218_8
  have in224 : ¬ ((3 : Int32) < 0 ∨ cl224.slots.size ≤ ((3 : Int32)).toNatClampNeg) := inb_of S224 ⟨by decide, by decide⟩
  have at224 : cl224.slots[((3 : Int32)).toNatClampNeg]? = some (.int w3) := H224.at in224 rfl
  have pre225 : Go p.tables e below S0 T222 (mkF m 96 #[vR a0, vR a1, vI j66_l2_202, vI j66_l3_203, vI (3 : Int32)] [(.long (((1 : Int64) <<< (w3 &&& 0x3f).toInt64) - (1 : Int64))), (.int (3 : Int32)), (.ref b33)]) := fun t k => pre223 t (by
    refine X222.iaload hx (j := (3 : Int32)) (v := (.int w3)) (by rw [e222]; exact Ar224.1) (State.isArrayOf_alike hZ.alike Ar224.2.1) Ar224.2.2 in224 at224 (g := (mkF m 92 #[vR a0, vR a1, vI j66_l2_202, vI j66_l3_203, vI (3 : Int32)] [(.int (3 : Int32)), (.ref a1), (.long (1 : Int64)), (.int (3 : Int32)), (.ref b33)])) rfl rfl (hb hby d3_92) _ ?_
    refine XS.lshl X222.here hx rfl (hb hby d3_93) rfl ?_
    refine XS.lconst X222.here hx rfl (hb hby d3_94) ?_
    show Steps p.tables e below (T222.setTop (mkF m 95 #[vR a0, vR a1, vI j66_l2_202, vI j66_l3_203, vI (3 : Int32)] [(.long (1 : Int64)), (.long ((1 : Int64) <<< (w3 &&& 0x3f).toInt64)), (.int (3 : Int32)), (.ref b33)])) _
    refine XS.lsub X222.here hx rfl (hb hby d3_95) rfl ?_
    exact k)
  obtain ⟨cl226, Ar226, q226, S226, M226, H226, G226⟩ := id f218_10
  have in226 : ¬ ((3 : Int32) < 0 ∨ cl226.slots.size ≤ ((3 : Int32)).toNatClampNeg) := inb_of S226 ⟨by decide, by decide⟩
  obtain ⟨T226, h226, X226, e226, W226, st226⟩ := stJ X222 hx hZ e222 Ar226 (j := (3 : Int32)) in226 (g := (mkF m 96 #[vR a0, vR a1, vI j66_l2_202, vI j66_l3_203, vI (3 : Int32)] [(.long (((1 : Int64) <<< (w3 &&& 0x3f).toInt64) - (1 : Int64))), (.int (3 : Int32)), (.ref b33)])) rfl rfl (hb hby d3_96)
  have pre226 : Go p.tables e below S0 T226 (mkF m 97 #[vR a0, vR a1, vI j66_l2_202, vI j66_l3_203, vI (3 : Int32)] []) := fun t k => pre225 t (st226 t k)
  obtain ⟨lo226, N226, X226⟩ : ∃ lo, Fr n0 lo ∧ Stand p l e ({ frames := 1, cells := 4, slots := 16, locals := 12 } : Room) s m #[(.ref a0), (.ref a1)] below meth c T226 lo 4 16 := ⟨_, Fr.snoc X226 N217 bo33, X226⟩
  have av226 : Arv Z h226 b33 kA33 .long (4 : Int32) [(.long (((1 : Int64) <<< (w0 &&& 0x3f).toInt64) - (1 : Int64))), (.long (((1 : Int64) <<< (w1 &&& 0x3f).toInt64) - (1 : Int64))), (.long (((1 : Int64) <<< (w2 &&& 0x3f).toInt64) - (1 : Int64))), (.long (((1 : Int64) <<< (w3 &&& 0x3f).toInt64) - (1 : Int64)))] (.long (0 : Int64)) := Arv.set Ar226 q226 S226 M226 H226 G226 rfl W226 3 rfl (Nat.le_of_ble_eq_true rfl)
  have f227_1 := Exa.wr W226 f218_1
  have f227_2 := Fld.other W226 f218_2 (Or.inl ne34)
  have f227_3 := Fld.other W226 f218_3 (Or.inl ne34)
  have f227_4 := Fld.other W226 f218_4 (Or.inl ne34)
  have f227_5 := Fld.other W226 f218_5 (Or.inl ne34)
  have f227_6 := Fld.other W226 f218_6 (Or.inl ne34)
  have f227_7 := Fld.other W226 f218_7 (Or.inl ne34)
  have f227_8 := f218_8.other W226 ne35
  have f227_9 := f218_9.other W226 ne36
  have f227_10 := av217.other W226 ne37
  have f227_11 := f218_11.other W226 (Ne.symm ne53)
  have zz228 : n0 ≤ h226.size := Nat.le_trans zz219 (Keep.of_wr W226).1
  have kp229 : Keep h0 h226 [a0] := kp220.wr W226 (Or.inr ol33)
  have pre230 : Go p.tables e below S0 T226 (mkF m 98 #[vR a0, vR a1, vI j66_l2_202, vI j66_l3_203, vI (3 : Int32)] [(.ref a0)]) := fun t k => pre226 t (by
    refine XS.aloadN X226.here hx rfl (hb hby d3_97) rfl rfl ?_
    exact k)
  obtain ⟨T231, X231, e231, st231⟩ := getF X226 hx hZ hown (host := "") (Or.inl (hw _ (List.mem_of_getElem? (i := 24) rfl))) Via.refl e226 f227_5 (g := (mkF m 98 #[vR a0, vR a1, vI j66_l2_202, vI j66_l3_203, vI (3 : Int32)] [(.ref a0)])) rfl rfl (hb hby d3_98)
  have pre231 : Go p.tables e below S0 T231 (mkF m 101 #[vR a0, vR a1, vI j66_l2_202, vI j66_l3_203, vI (3 : Int32)] [(.ref b48)]) := fun t k => pre230 t (st231 t k)
  have pre232 : Go p.tables e below S0 T231 (mkF m 104 #[vR a0, vR a1, vI j66_l2_202, vI j66_l3_203, vI (3 : Int32)] [(.ref a0), (.int (3 : Int32)), (.ref b48)]) := fun t k => pre231 t (by
    refine XS.iload X231.here hx rfl (hb hby d3_101) rfl ?_
    refine XS.aloadN X231.here hx rfl (hb hby d3_103) rfl rfl ?_
    exact k)
  obtain ⟨T233, X233, e233, st233⟩ := getF X231 hx hZ hown (host := "") (Or.inl (hw _ (List.mem_of_getElem? (i := 22) rfl))) Via.refl e231 f227_4 (g := (mkF m 104 #[vR a0, vR a1, vI j66_l2_202, vI j66_l3_203, vI (3 : Int32)] [(.ref a0), (.int (3 : Int32)), (.ref b48)])) rfl rfl (hb hby d3_104)
  have pre233 : Go p.tables e below S0 T233 (mkF m 107 #[vR a0, vR a1, vI j66_l2_202, vI j66_l3_203, vI (3 : Int32)] [(.ref b33), (.int (3 : Int32)), (.ref b48)]) := fun t k => pre232 t (st233 t k)
  have pre234 : Go p.tables e below S0 T233 (mkF m 109 #[vR a0, vR a1, vI j66_l2_202, vI j66_l3_203, vI (3 : Int32)] [(.int (3 : Int32)), (.ref b33), (.int (3 : Int32)), (.ref b48)]) := fun t k => pre233 t (by
    refine XS.iload X233.here hx rfl (hb hby d3_107) rfl ?_
    exact k)
  obtain ⟨cl235, Ar235, q235, S235, M235, H235, G235⟩ := id av226
  have in235 : ¬ ((3 : Int32) < 0 ∨ cl235.slots.size ≤ ((3 : Int32)).toNatClampNeg) := inb_of S235 ⟨by decide, by decide⟩
  have at235 : cl235.slots[((3 : Int32)).toNatClampNeg]? = some (.long (((1 : Int64) <<< (w3 &&& 0x3f).toInt64) - (1 : Int64))) := H235.at in235 rfl
  have pre236 : Go p.tables e below S0 T233 (mkF m 116 #[vR a0, vR a1, vI j66_l2_202, vI j66_l3_203, vI (3 : Int32)] [(.long (((((1 : Int64) <<< (w3 &&& 0x3f).toInt64) - (1 : Int64)) <<< (j66_l2_202 &&& 0x3f).toInt64) ^^^ (-1 : Int64))), (.int (3 : Int32)), (.ref b48)]) := fun t k => pre234 t (by
    refine X233.laload hx (j := (3 : Int32)) (v := (.long (((1 : Int64) <<< (w3 &&& 0x3f).toInt64) - (1 : Int64)))) (by rw [e233]; exact Ar235.1) (State.isArrayOf_alike hZ.alike Ar235.2.1) Ar235.2.2 in235 at235 (g := (mkF m 109 #[vR a0, vR a1, vI j66_l2_202, vI j66_l3_203, vI (3 : Int32)] [(.int (3 : Int32)), (.ref b33), (.int (3 : Int32)), (.ref b48)])) rfl rfl (hb hby d3_109) _ ?_
    refine XS.iloadN X233.here hx rfl (hb hby d3_110) rfl ?_
    refine XS.lshl X233.here hx rfl (hb hby d3_111) rfl ?_
    show Steps p.tables e below (T233.setTop (mkF m 112 #[vR a0, vR a1, vI j66_l2_202, vI j66_l3_203, vI (3 : Int32)] [(.long ((((1 : Int64) <<< (w3 &&& 0x3f).toInt64) - (1 : Int64)) <<< (j66_l2_202 &&& 0x3f).toInt64)), (.int (3 : Int32)), (.ref b48)])) _
    refine X233.ldc2Long hx hown (mvT hZ (hw _ (List.mem_of_getElem? (i := 26) rfl))) (g := (mkF m 112 #[vR a0, vR a1, vI j66_l2_202, vI j66_l3_203, vI (3 : Int32)] [(.long ((((1 : Int64) <<< (w3 &&& 0x3f).toInt64) - (1 : Int64)) <<< (j66_l2_202 &&& 0x3f).toInt64)), (.int (3 : Int32)), (.ref b48)])) rfl (hb hby d3_112) _ ?_
    refine XS.lxor X233.here hx rfl (hb hby d3_115) rfl ?_
    exact k)
  obtain ⟨cl237, Ar237, q237, S237, M237, H237, G237⟩ := id f227_11
  have in237 : ¬ ((3 : Int32) < 0 ∨ cl237.slots.size ≤ ((3 : Int32)).toNatClampNeg) := inb_of S237 ⟨by decide, by decide⟩
  obtain ⟨T237, h237, X237, e237, W237, st237⟩ := stJ X233 hx hZ e233 Ar237 (j := (3 : Int32)) in237 (g := (mkF m 116 #[vR a0, vR a1, vI j66_l2_202, vI j66_l3_203, vI (3 : Int32)] [(.long (((((1 : Int64) <<< (w3 &&& 0x3f).toInt64) - (1 : Int64)) <<< (j66_l2_202 &&& 0x3f).toInt64) ^^^ (-1 : Int64))), (.int (3 : Int32)), (.ref b48)])) rfl rfl (hb hby d3_116)
  have pre237 : Go p.tables e below S0 T237 (mkF m 117 #[vR a0, vR a1, vI j66_l2_202, vI j66_l3_203, vI (3 : Int32)] []) := fun t k => pre236 t (st237 t k)
  obtain ⟨lo237, N237, X237⟩ : ∃ lo, Fr n0 lo ∧ Stand p l e ({ frames := 1, cells := 4, slots := 16, locals := 12 } : Room) s m #[(.ref a0), (.ref a1)] below meth c T237 lo 4 16 := ⟨_, Fr.snoc X237 N226 bo48, X237⟩
  have av237 : Arv Z h237 b48 kA48 .long (4 : Int32) [(.long (((((1 : Int64) <<< (w0 &&& 0x3f).toInt64) - (1 : Int64)) <<< ((0 : Int32) &&& 0x3f).toInt64) ^^^ (-1 : Int64))), (.long (((((1 : Int64) <<< (w1 &&& 0x3f).toInt64) - (1 : Int64)) <<< (((0 : Int32) + w0) &&& 0x3f).toInt64) ^^^ (-1 : Int64))), (.long (((((1 : Int64) <<< (w2 &&& 0x3f).toInt64) - (1 : Int64)) <<< (j66_l2_153 &&& 0x3f).toInt64) ^^^ (-1 : Int64))), (.long (((((1 : Int64) <<< (w3 &&& 0x3f).toInt64) - (1 : Int64)) <<< (j66_l2_202 &&& 0x3f).toInt64) ^^^ (-1 : Int64)))] (.long (0 : Int64)) := Arv.set Ar237 q237 S237 M237 H237 G237 rfl W237 3 rfl (Nat.le_of_ble_eq_true rfl)
  have f238_1 := Exa.wr W237 f227_1
  have f238_2 := Fld.other W237 f227_2 (Or.inl ne49)
  have f238_3 := Fld.other W237 f227_3 (Or.inl ne49)
  have f238_4 := Fld.other W237 f227_4 (Or.inl ne49)
  have f238_5 := Fld.other W237 f227_5 (Or.inl ne49)
  have f238_6 := Fld.other W237 f227_6 (Or.inl ne49)
  have f238_7 := Fld.other W237 f227_7 (Or.inl ne49)
  have f238_8 := f227_8.other W237 ne50
  have f238_9 := f227_9.other W237 ne51
  have f238_10 := f227_10.other W237 ne52
  have f238_11 := av226.other W237 ne53
  have zz239 : n0 ≤ h237.size := Nat.le_trans zz228 (Keep.of_wr W237).1
  have kp240 : Keep h0 h237 [a0] := kp229.wr W237 (Or.inr ol48)
  have pre241 : Go p.tables e below S0 T237 (mkF m 121 #[vR a0, vR a1, vI j66_l2_202, vI j66_l3_203, vI (3 : Int32)] [(.int (3 : Int32)), (.ref a1), (.int j66_l2_202)]) := fun t k => pre237 t (by
    refine XS.iloadN X237.here hx rfl (hb hby d3_117) rfl ?_
    refine XS.aloadN X237.here hx rfl (hb hby d3_118) rfl rfl ?_
    refine XS.iload X237.here hx rfl (hb hby d3_119) rfl ?_
    show Steps p.tables e below (T237.setTop (mkF m 121 #[vR a0, vR a1, vI j66_l2_202, vI j66_l3_203, vI (3 : Int32)] [(.int (3 : Int32)), (.ref a1), (.int j66_l2_202)])) _
    exact k)
  obtain ⟨cl242, Ar242, q242, S242, M242, H242, G242⟩ := id f238_8
  have in242 : ¬ ((3 : Int32) < 0 ∨ cl242.slots.size ≤ ((3 : Int32)).toNatClampNeg) := inb_of S242 ⟨by decide, by decide⟩
  have at242 : cl242.slots[((3 : Int32)).toNatClampNeg]? = some (.int w3) := H242.at in242 rfl
  have pre243 : Go p.tables e below S0 T237 (mkF m 46 #[vR a0, vR a1, vI (j66_l2_202 + w3), vI j66_l3_203, vI (4 : Int32)] [(.ref a1), (.int (4 : Int32))]) := fun t k => pre241 t (by
    refine X237.iaload hx (j := (3 : Int32)) (v := (.int w3)) (by rw [e237]; exact Ar242.1) (State.isArrayOf_alike hZ.alike Ar242.2.1) Ar242.2.2 in242 at242 (g := (mkF m 121 #[vR a0, vR a1, vI j66_l2_202, vI j66_l3_203, vI (3 : Int32)] [(.int (3 : Int32)), (.ref a1), (.int j66_l2_202)])) rfl rfl (hb hby d3_121) _ ?_
    refine XS.iadd X237.here hx rfl (hb hby d3_122) rfl ?_
    refine XS.istoreN X237.here hx rfl (hb hby d3_123) rfl (l' := #[vR a0, vR a1, vI (j66_l2_202 + w3), vI j66_l3_203, vI (3 : Int32)]) rfl ?_
    show Steps p.tables e below (T237.setTop (mkF m 124 #[vR a0, vR a1, vI (j66_l2_202 + w3), vI j66_l3_203, vI (3 : Int32)] [])) _
    refine XS.iinc X237.here hx rfl (hb hby d3_124) rfl (l' := #[vR a0, vR a1, vI (j66_l2_202 + w3), vI j66_l3_203, vI (4 : Int32)]) rfl ?_
    refine XS.goto X237.here hx rfl (pc0 := 127) (pc' := 43) rfl (hb hby d3_127) (by decide) (by decide) ?_
    refine XS.iload X237.here hx rfl (hb hby d3_43) rfl ?_
    show Steps p.tables e below (T237.setTop (mkF m 45 #[vR a0, vR a1, vI (j66_l2_202 + w3), vI j66_l3_203, vI (4 : Int32)] [(.int (4 : Int32))])) _
    refine XS.aloadN X237.here hx rfl (hb hby d3_45) rfl rfl ?_
    exact k)
  obtain ⟨cl244, Ar244, q244, S244, M244, H244, G244⟩ := id f238_8
  have pre245 : Go p.tables e below S0 T237 (mkF m 134 #[vR a0, vR a1, vI (j66_l2_202 + w3), vI j66_l3_203, vI (4 : Int32)] [(.int (j66_l3_203 + (1 : Int32))), (.ref a0)]) := fun t k => pre243 t (by
    refine X237.arraylength hx (by rw [e237]; exact Ar244.1) (State.isArrayOf_alike hZ.alike Ar244.2.1) (g := (mkF m 46 #[vR a0, vR a1, vI (j66_l2_202 + w3), vI j66_l3_203, vI (4 : Int32)] [(.ref a1), (.int (4 : Int32))])) rfl rfl (hb hby d3_46) _ ?_
    rw [len_of S244 M244]
    refine XS.icmpYes X237.here hx rfl (pc0 := 47) (pc' := 130) rfl (hb hby d3_47) rfl (flt (by decide : ¬ ((4 : Int32) < (4 : Int32)))).2.1 (by decide) (by decide) ?_
    refine XS.aloadN X237.here hx rfl (hb hby d3_130) rfl rfl ?_
    show Steps p.tables e below (T237.setTop (mkF m 131 #[vR a0, vR a1, vI (j66_l2_202 + w3), vI j66_l3_203, vI (4 : Int32)] [(.ref a0)])) _
    refine XS.iloadN X237.here hx rfl (hb hby d3_131) rfl ?_
    refine XS.iconst X237.here hx rfl (hb hby d3_132) ?_
    refine XS.iadd X237.here hx rfl (hb hby d3_133) rfl ?_
    show Steps p.tables e below (T237.setTop (mkF m 134 #[vR a0, vR a1, vI (j66_l2_202 + w3), vI j66_l3_203, vI (4 : Int32)] [(.int (j66_l3_203 + (1 : Int32))), (.ref a0)])) _
    exact k)
  obtain ⟨T246, h246, X246, e246, W246, st246⟩ := putF X237 hx hZ hown (host := "") (Or.inl (hw _ (List.mem_of_getElem? (i := 27) rfl))) Via.refl e237 f238_6 f238_1 (Or.inr ⟨(hw _ (List.mem_of_getElem? (i := 28) rfl)), rfl, hnm⟩) (hw _ (List.mem_of_getElem? (i := 10) rfl)) (ty := .int) (by decide) rfl rfl (g := (mkF m 134 #[vR a0, vR a1, vI (j66_l2_202 + w3), vI j66_l3_203, vI (4 : Int32)] [(.int (j66_l3_203 + (1 : Int32))), (.ref a0)])) rfl rfl (hb hby d3_134)
  have pre246 : Go p.tables e below S0 T246 (mkF m 137 #[vR a0, vR a1, vI (j66_l2_202 + w3), vI j66_l3_203, vI (4 : Int32)] []) := fun t k => pre245 t (st246 t k)
  obtain ⟨lo246, N246, X246⟩ : ∃ lo, Fr n0 lo ∧ Stand p l e ({ frames := 1, cells := 4, slots := 16, locals := 12 } : Room) s m #[(.ref a0), (.ref a1)] below meth c T246 lo 4 16 := ⟨_, Fr.snoc X246 N237 g0, X246⟩
  have fw246 : Fld Z h246 a0 "com/example/garantia/garantia/engine/StateLayout" "words" "I" (.int (j66_l3_203 + (1 : Int32))) := Fld.same W246 f238_6
  have f247_1 := Exa.wr W246 f238_1
  have f247_2 := Fld.other W246 f238_2 (Or.inr (slot_ne (Or.inr (hw _ (List.mem_of_getElem? (i := 19) rfl))) (Or.inr (hw _ (List.mem_of_getElem? (i := 28) rfl))) (by decide) (t := (.array .int)) (t' := .int) (by decide) (by decide)))
  have f247_3 := Fld.other W246 f238_3 (Or.inr (slot_ne (Or.inr (hw _ (List.mem_of_getElem? (i := 21) rfl))) (Or.inr (hw _ (List.mem_of_getElem? (i := 28) rfl))) (by decide) (t := (.array .int)) (t' := .int) (by decide) (by decide)))
  have f247_4 := Fld.other W246 f238_4 (Or.inr (slot_ne (Or.inr (hw _ (List.mem_of_getElem? (i := 23) rfl))) (Or.inr (hw _ (List.mem_of_getElem? (i := 28) rfl))) (by decide) (t := (.array .long)) (t' := .int) (by decide) (by decide)))
  have f247_5 := Fld.other W246 f238_5 (Or.inr (slot_ne (Or.inr (hw _ (List.mem_of_getElem? (i := 25) rfl))) (Or.inr (hw _ (List.mem_of_getElem? (i := 28) rfl))) (by decide) (t := (.array .long)) (t' := .int) (by decide) (by decide)))
  have f247_6 := Fld.other W246 f238_7 (Or.inr (slot_ne (Or.inr (hw _ (List.mem_of_getElem? (i := 30) rfl))) (Or.inr (hw _ (List.mem_of_getElem? (i := 28) rfl))) (by decide) (t := .boolean) (t' := .int) (by decide) (by decide)))
  have f247_7 := f238_8.other W246 xe1
  have f247_8 := f238_9.other W246 (Ne.symm ne7)
  have f247_9 := f238_10.other W246 (Ne.symm ne20)
  have f247_10 := f238_11.other W246 (Ne.symm ne34)
  have f247_11 := av237.other W246 (Ne.symm ne49)
  have zz248 : n0 ≤ h246.size := Nat.le_trans zz239 (Keep.of_wr W246).1
  have kp249 : Keep h0 h246 [a0] := kp240.wr W246 (Or.inl (List.mem_of_getElem? (i := 0) rfl))
  have pre250 : Go p.tables e below S0 T246 (mkF m 139 #[vR a0, vR a1, vI (j66_l2_202 + w3), vI j66_l3_203, vI (4 : Int32)] [(.ref a0), (.ref a0)]) := fun t k => pre246 t (by
    refine XS.aloadN X246.here hx rfl (hb hby d3_137) rfl rfl ?_
    refine XS.aloadN X246.here hx rfl (hb hby d3_138) rfl rfl ?_
    exact k)
  obtain ⟨T251, X251, e251, st251⟩ := getF X246 hx hZ hown (host := "") (Or.inl (hw _ (List.mem_of_getElem? (i := 27) rfl))) Via.refl e246 fw246 (g := (mkF m 139 #[vR a0, vR a1, vI (j66_l2_202 + w3), vI j66_l3_203, vI (4 : Int32)] [(.ref a0), (.ref a0)])) rfl rfl (hb hby d3_139)
  have pre251 : Go p.tables e below S0 T251 (mkF m 142 #[vR a0, vR a1, vI (j66_l2_202 + w3), vI j66_l3_203, vI (4 : Int32)] [(.int (j66_l3_203 + (1 : Int32))), (.ref a0)]) := fun t k => pre250 t (st251 t k)
  have pre252 : Go p.tables e below S0 T251 (mkF m 143 #[vR a0, vR a1, vI (j66_l2_202 + w3), vI j66_l3_203, vI (4 : Int32)] [(.int (1 : Int32)), (.int (j66_l3_203 + (1 : Int32))), (.ref a0)]) := fun t k => pre251 t (by
    refine XS.iconst X251.here hx rfl (hb hby d3_142) ?_
    exact k)
  by_cases c143_253 : (j66_l3_203 + (1 : Int32)) = (1 : Int32)
  · skip
    have pre254 : Go p.tables e below S0 T251 (mkF m 149 #[vR a0, vR a1, vI (j66_l2_202 + w3), vI j66_l3_203, vI (4 : Int32)] [(.int (32 : Int32)), (.int (j66_l2_202 + w3)), (.ref a0)]) := fun t k => pre252 t (by
      refine XS.icmpNo X251.here hx rfl (hb hby d3_143) rfl (teq c143_253).2 ?_
      refine XS.iloadN X251.here hx rfl (hb hby d3_146) rfl ?_
      refine XS.bipush X251.here hx rfl (hb hby d3_147) ?_
      show Steps p.tables e below (T251.setTop (mkF m 149 #[vR a0, vR a1, vI (j66_l2_202 + w3), vI j66_l3_203, vI (4 : Int32)] [(.int (32 : Int32)), (.int (j66_l2_202 + w3)), (.ref a0)])) _
      exact k)
    by_cases c149_255 : (32 : Int32) < (j66_l2_202 + w3)
    · skip
      have pre256 : Go p.tables e below S0 T251 (mkF m 157 #[vR a0, vR a1, vI (j66_l2_202 + w3), vI j66_l3_203, vI (4 : Int32)] [(.int (0 : Int32)), (.ref a0)]) := fun t k => pre254 t (by
        refine XS.icmpYes X251.here hx rfl (pc0 := 149) (pc' := 156) rfl (hb hby d3_149) rfl (tlt c149_255).2.2.1 (by decide) (by decide) ?_
        refine XS.iconst X251.here hx rfl (hb hby d3_156) ?_
        exact k)
      obtain ⟨T257, h257, X257, e257, W257, st257⟩ := putFN X251 hx hZ hown (hw _ (List.mem_of_getElem? (i := 29) rfl)) Via.refl e251 f247_6 f247_1 (Or.inr ⟨(hw _ (List.mem_of_getElem? (i := 30) rfl)), rfl, hnm⟩) (hw _ (List.mem_of_getElem? (i := 10) rfl)) (ty := .boolean) (v' := (.int (0 : Int32))) (by decide) rfl rfl (g := (mkF m 157 #[vR a0, vR a1, vI (j66_l2_202 + w3), vI j66_l3_203, vI (4 : Int32)] [(.int (0 : Int32)), (.ref a0)])) rfl rfl (hb hby d3_157)
      have pre257 : Go p.tables e below S0 T257 (mkF m 160 #[vR a0, vR a1, vI (j66_l2_202 + w3), vI j66_l3_203, vI (4 : Int32)] []) := fun t k => pre256 t (st257 t k)
      obtain ⟨lo257, N257, X257⟩ : ∃ lo, Fr n0 lo ∧ Stand p l e ({ frames := 1, cells := 4, slots := 16, locals := 12 } : Room) s m #[(.ref a0), (.ref a1)] below meth c T257 lo 4 16 := ⟨_, Fr.snoc X257 N246 g0, X257⟩
      have fw257 : Fld Z h257 a0 "com/example/garantia/garantia/engine/StateLayout" "narrow" "Z" (.int (0 : Int32)) := Fld.same W257 f247_6
      have f258_1 := Exa.wr W257 f247_1
      have f258_2 := Fld.other W257 f247_2 (Or.inr (slot_ne (Or.inr (hw _ (List.mem_of_getElem? (i := 19) rfl))) (Or.inr (hw _ (List.mem_of_getElem? (i := 30) rfl))) (by decide) (t := (.array .int)) (t' := .boolean) (by decide) (by decide)))
      have f258_3 := Fld.other W257 f247_3 (Or.inr (slot_ne (Or.inr (hw _ (List.mem_of_getElem? (i := 21) rfl))) (Or.inr (hw _ (List.mem_of_getElem? (i := 30) rfl))) (by decide) (t := (.array .int)) (t' := .boolean) (by decide) (by decide)))
      have f258_4 := Fld.other W257 f247_4 (Or.inr (slot_ne (Or.inr (hw _ (List.mem_of_getElem? (i := 23) rfl))) (Or.inr (hw _ (List.mem_of_getElem? (i := 30) rfl))) (by decide) (t := (.array .long)) (t' := .boolean) (by decide) (by decide)))
      have f258_5 := Fld.other W257 f247_5 (Or.inr (slot_ne (Or.inr (hw _ (List.mem_of_getElem? (i := 25) rfl))) (Or.inr (hw _ (List.mem_of_getElem? (i := 30) rfl))) (by decide) (t := (.array .long)) (t' := .boolean) (by decide) (by decide)))
      have f258_6 := Fld.other W257 fw246 (Or.inr (slot_ne (Or.inr (hw _ (List.mem_of_getElem? (i := 28) rfl))) (Or.inr (hw _ (List.mem_of_getElem? (i := 30) rfl))) (by decide) (t := .int) (t' := .boolean) (by decide) (by decide)))
      have f258_7 := f247_7.other W257 xe1
      have f258_8 := f247_8.other W257 (Ne.symm ne7)
      have f258_9 := f247_9.other W257 (Ne.symm ne20)
      have f258_10 := f247_10.other W257 (Ne.symm ne34)
      have f258_11 := f247_11.other W257 (Ne.symm ne49)
      have zz259 : n0 ≤ h257.size := Nat.le_trans zz248 (Keep.of_wr W257).1
      have kp260 : Keep h0 h257 [a0] := kp249.wr W257 (Or.inl (List.mem_of_getElem? (i := 0) rfl))
      obtain ⟨fs, hr, hrun, hended, hW, hsame⟩ := X257.leave (v := none) (fun _ => rfl)
      exact ⟨_, _, pre257.fin hS0 (X257.returnOut hx Bd.returns (hb hby d3_160) hr), hrun, hended, _, _, rfl, (by
        show Q3 Z a0 a1 k1 w0 w1 w2 w3 h0 n0 _ T257.heap _
        rw [e257]
        exact ⟨rfl, N257, b6, b19, b33, b48, _, _, _, _, _, _, _, _, ⟨hj66_155, hj66_204⟩, ⟨ol6, ol19, ol33, ol48⟩, ⟨ne22, ne36, ne51, ne37, ne52, ne53⟩, kp260, f258_1, f258_2, f258_3, f258_4, f258_5, f258_6, f258_8, f258_9, f258_10, f258_11⟩), ⟨_, rfl⟩, hW, hsame.mono (by decide) (by decide)⟩
    · skip
      have pre261 : Go p.tables e below S0 T251 (mkF m 157 #[vR a0, vR a1, vI (j66_l2_202 + w3), vI j66_l3_203, vI (4 : Int32)] [(.int (1 : Int32)), (.ref a0)]) := fun t k => pre254 t (by
        refine XS.icmpNo X251.here hx rfl (hb hby d3_149) rfl (flt c149_255).2.2.1 ?_
        refine XS.iconst X251.here hx rfl (hb hby d3_152) ?_
        refine XS.goto X251.here hx rfl (pc0 := 153) (pc' := 157) rfl (hb hby d3_153) (by decide) (by decide) ?_
        show Steps p.tables e below (T251.setTop (mkF m 157 #[vR a0, vR a1, vI (j66_l2_202 + w3), vI j66_l3_203, vI (4 : Int32)] [(.int (1 : Int32)), (.ref a0)])) _
        exact k)
      obtain ⟨T262, h262, X262, e262, W262, st262⟩ := putFN X251 hx hZ hown (hw _ (List.mem_of_getElem? (i := 29) rfl)) Via.refl e251 f247_6 f247_1 (Or.inr ⟨(hw _ (List.mem_of_getElem? (i := 30) rfl)), rfl, hnm⟩) (hw _ (List.mem_of_getElem? (i := 10) rfl)) (ty := .boolean) (v' := (.int (1 : Int32))) (by decide) rfl rfl (g := (mkF m 157 #[vR a0, vR a1, vI (j66_l2_202 + w3), vI j66_l3_203, vI (4 : Int32)] [(.int (1 : Int32)), (.ref a0)])) rfl rfl (hb hby d3_157)
      have pre262 : Go p.tables e below S0 T262 (mkF m 160 #[vR a0, vR a1, vI (j66_l2_202 + w3), vI j66_l3_203, vI (4 : Int32)] []) := fun t k => pre261 t (st262 t k)
      obtain ⟨lo262, N262, X262⟩ : ∃ lo, Fr n0 lo ∧ Stand p l e ({ frames := 1, cells := 4, slots := 16, locals := 12 } : Room) s m #[(.ref a0), (.ref a1)] below meth c T262 lo 4 16 := ⟨_, Fr.snoc X262 N246 g0, X262⟩
      have fw262 : Fld Z h262 a0 "com/example/garantia/garantia/engine/StateLayout" "narrow" "Z" (.int (1 : Int32)) := Fld.same W262 f247_6
      have f263_1 := Exa.wr W262 f247_1
      have f263_2 := Fld.other W262 f247_2 (Or.inr (slot_ne (Or.inr (hw _ (List.mem_of_getElem? (i := 19) rfl))) (Or.inr (hw _ (List.mem_of_getElem? (i := 30) rfl))) (by decide) (t := (.array .int)) (t' := .boolean) (by decide) (by decide)))
      have f263_3 := Fld.other W262 f247_3 (Or.inr (slot_ne (Or.inr (hw _ (List.mem_of_getElem? (i := 21) rfl))) (Or.inr (hw _ (List.mem_of_getElem? (i := 30) rfl))) (by decide) (t := (.array .int)) (t' := .boolean) (by decide) (by decide)))
      have f263_4 := Fld.other W262 f247_4 (Or.inr (slot_ne (Or.inr (hw _ (List.mem_of_getElem? (i := 23) rfl))) (Or.inr (hw _ (List.mem_of_getElem? (i := 30) rfl))) (by decide) (t := (.array .long)) (t' := .boolean) (by decide) (by decide)))
      have f263_5 := Fld.other W262 f247_5 (Or.inr (slot_ne (Or.inr (hw _ (List.mem_of_getElem? (i := 25) rfl))) (Or.inr (hw _ (List.mem_of_getElem? (i := 30) rfl))) (by decide) (t := (.array .long)) (t' := .boolean) (by decide) (by decide)))
      have f263_6 := Fld.other W262 fw246 (Or.inr (slot_ne (Or.inr (hw _ (List.mem_of_getElem? (i := 28) rfl))) (Or.inr (hw _ (List.mem_of_getElem? (i := 30) rfl))) (by decide) (t := .int) (t' := .boolean) (by decide) (by decide)))
      have f263_7 := f247_7.other W262 xe1
      have f263_8 := f247_8.other W262 (Ne.symm ne7)
      have f263_9 := f247_9.other W262 (Ne.symm ne20)
      have f263_10 := f247_10.other W262 (Ne.symm ne34)
      have f263_11 := f247_11.other W262 (Ne.symm ne49)
      have zz264 : n0 ≤ h262.size := Nat.le_trans zz248 (Keep.of_wr W262).1
      have kp265 : Keep h0 h262 [a0] := kp249.wr W262 (Or.inl (List.mem_of_getElem? (i := 0) rfl))
      obtain ⟨fs, hr, hrun, hended, hW, hsame⟩ := X262.leave (v := none) (fun _ => rfl)
      exact ⟨_, _, pre262.fin hS0 (X262.returnOut hx Bd.returns (hb hby d3_160) hr), hrun, hended, _, _, rfl, (by
        show Q3 Z a0 a1 k1 w0 w1 w2 w3 h0 n0 _ T262.heap _
        rw [e262]
        exact ⟨rfl, N262, b6, b19, b33, b48, _, _, _, _, _, _, _, _, ⟨hj66_155, hj66_204⟩, ⟨ol6, ol19, ol33, ol48⟩, ⟨ne22, ne36, ne51, ne37, ne52, ne53⟩, kp265, f263_1, f263_2, f263_3, f263_4, f263_5, f263_6, f263_8, f263_9, f263_10, f263_11⟩), ⟨_, rfl⟩, hW, hsame.mono (by decide) (by decide)⟩
  · skip
    have pre266 : Go p.tables e below S0 T251 (mkF m 157 #[vR a0, vR a1, vI (j66_l2_202 + w3), vI j66_l3_203, vI (4 : Int32)] [(.int (0 : Int32)), (.ref a0)]) := fun t k => pre252 t (by
      refine XS.icmpYes X251.here hx rfl (pc0 := 143) (pc' := 156) rfl (hb hby d3_143) rfl (feq c143_253).2 (by decide) (by decide) ?_
      refine XS.iconst X251.here hx rfl (hb hby d3_156) ?_
      exact k)
    obtain ⟨T267, h267, X267, e267, W267, st267⟩ := putFN X251 hx hZ hown (hw _ (List.mem_of_getElem? (i := 29) rfl)) Via.refl e251 f247_6 f247_1 (Or.inr ⟨(hw _ (List.mem_of_getElem? (i := 30) rfl)), rfl, hnm⟩) (hw _ (List.mem_of_getElem? (i := 10) rfl)) (ty := .boolean) (v' := (.int (0 : Int32))) (by decide) rfl rfl (g := (mkF m 157 #[vR a0, vR a1, vI (j66_l2_202 + w3), vI j66_l3_203, vI (4 : Int32)] [(.int (0 : Int32)), (.ref a0)])) rfl rfl (hb hby d3_157)
    have pre267 : Go p.tables e below S0 T267 (mkF m 160 #[vR a0, vR a1, vI (j66_l2_202 + w3), vI j66_l3_203, vI (4 : Int32)] []) := fun t k => pre266 t (st267 t k)
    obtain ⟨lo267, N267, X267⟩ : ∃ lo, Fr n0 lo ∧ Stand p l e ({ frames := 1, cells := 4, slots := 16, locals := 12 } : Room) s m #[(.ref a0), (.ref a1)] below meth c T267 lo 4 16 := ⟨_, Fr.snoc X267 N246 g0, X267⟩
    have fw267 : Fld Z h267 a0 "com/example/garantia/garantia/engine/StateLayout" "narrow" "Z" (.int (0 : Int32)) := Fld.same W267 f247_6
    have f268_1 := Exa.wr W267 f247_1
    have f268_2 := Fld.other W267 f247_2 (Or.inr (slot_ne (Or.inr (hw _ (List.mem_of_getElem? (i := 19) rfl))) (Or.inr (hw _ (List.mem_of_getElem? (i := 30) rfl))) (by decide) (t := (.array .int)) (t' := .boolean) (by decide) (by decide)))
    have f268_3 := Fld.other W267 f247_3 (Or.inr (slot_ne (Or.inr (hw _ (List.mem_of_getElem? (i := 21) rfl))) (Or.inr (hw _ (List.mem_of_getElem? (i := 30) rfl))) (by decide) (t := (.array .int)) (t' := .boolean) (by decide) (by decide)))
    have f268_4 := Fld.other W267 f247_4 (Or.inr (slot_ne (Or.inr (hw _ (List.mem_of_getElem? (i := 23) rfl))) (Or.inr (hw _ (List.mem_of_getElem? (i := 30) rfl))) (by decide) (t := (.array .long)) (t' := .boolean) (by decide) (by decide)))
    have f268_5 := Fld.other W267 f247_5 (Or.inr (slot_ne (Or.inr (hw _ (List.mem_of_getElem? (i := 25) rfl))) (Or.inr (hw _ (List.mem_of_getElem? (i := 30) rfl))) (by decide) (t := (.array .long)) (t' := .boolean) (by decide) (by decide)))
    have f268_6 := Fld.other W267 fw246 (Or.inr (slot_ne (Or.inr (hw _ (List.mem_of_getElem? (i := 28) rfl))) (Or.inr (hw _ (List.mem_of_getElem? (i := 30) rfl))) (by decide) (t := .int) (t' := .boolean) (by decide) (by decide)))
    have f268_7 := f247_7.other W267 xe1
    have f268_8 := f247_8.other W267 (Ne.symm ne7)
    have f268_9 := f247_9.other W267 (Ne.symm ne20)
    have f268_10 := f247_10.other W267 (Ne.symm ne34)
    have f268_11 := f247_11.other W267 (Ne.symm ne49)
    have zz269 : n0 ≤ h267.size := Nat.le_trans zz248 (Keep.of_wr W267).1
    have kp270 : Keep h0 h267 [a0] := kp249.wr W267 (Or.inl (List.mem_of_getElem? (i := 0) rfl))
    obtain ⟨fs, hr, hrun, hended, hW, hsame⟩ := X267.leave (v := none) (fun _ => rfl)
    exact ⟨_, _, pre267.fin hS0 (X267.returnOut hx Bd.returns (hb hby d3_160) hr), hrun, hended, _, _, rfl, (by
      show Q3 Z a0 a1 k1 w0 w1 w2 w3 h0 n0 _ T267.heap _
      rw [e267]
      exact ⟨rfl, N267, b6, b19, b33, b48, _, _, _, _, _, _, _, _, ⟨hj66_155, hj66_204⟩, ⟨ol6, ol19, ol33, ol48⟩, ⟨ne22, ne36, ne51, ne37, ne52, ne53⟩, kp270, f268_1, f268_2, f268_3, f268_4, f268_5, f268_6, f268_8, f268_9, f268_10, f268_11⟩), ⟨_, rfl⟩, hW, hsame.mono (by decide) (by decide)⟩
theorem ef_6 (m : MethodId) (x0 : Addr) (x1 : Int32) : entryFrame m #[(.ref x0), (.int x1)] 2 = mkF m 0 #[.val (.ref x0), .val (.int x1)] [] := by first | (simp [entryFrame, mkF, argsToLocals, Value.category]; done) | rfl
theorem d6_0 : decode prog_46_method_5_code 0 = .ok (.aload_n 0, 1) := by decide +kernel
theorem d6_1 : decode prog_46_method_5_code 1 = .ok (.getfield 7, 3) := by decide +kernel
theorem d6_4 : decode prog_46_method_5_code 4 = .ok (.iload_n 1, 1) := by decide +kernel
theorem d6_5 : decode prog_46_method_5_code 5 = .ok (.iaload, 1) := by decide +kernel
theorem d6_6 : decode prog_46_method_5_code 6 = .ok (.ireturn, 1) := by decide +kernel
def Q6 (Z : State) (a0 : Addr) (p1 : Int32) (aw : Addr) (kw : ClassId) (c0 c1 c2 c3 : Int32) (h0 : Heap) (n0 : Nat) (v : Option Value) (h : Heap) (L : List Loc) : Prop := v = some (.int ([c0, c1, c2, c3].getD (p1).toNatClampNeg 0)) ∧ Fr n0 L ∧ h = h0
set_option maxRecDepth 65536 in
set_option maxHeartbeats 40000000 in
theorem rm6 (l : Launch) (Z : State) (A0 : Array Value) (hw : ∀ d ∈ tables_1, d.before A0 Z = true) (ws : List Jvm.Cond) (a0 : Addr) (p1 : Int32) (aw : Addr) (kw : ClassId) (c0 c1 c2 c3 : Int32) (h0 : Heap) (n0 : Nat) (Z0 : n0 ≤ h0.size) (Fw : Fld Z h0 a0 "com/example/garantia/garantia/engine/StateLayout" "word" "[I" (.ref aw)) (V1 : Arv Z h0 aw kw .int (4 : Int32) [(.int c0), (.int c1), (.int c2), (.int c3)] (.int (0 : Int32))) (hs : ¬ p1 < 0 ∧ p1 < (4 : Int32)) :
    MetFree l (⟨"com/example/garantia/garantia/engine/StateLayout", "word", "(I)I"⟩ : MethodName) (head1 (Jvm.Cond.code (⟨"com/example/garantia/garantia/engine/StateLayout", "word", "(I)I"⟩ : MethodName) prog_46_method_5_code 2 (some .int) :: ws) ({ frames := 0, cells := 0, slots := 0, locals := 0 } : Room)) (fun a U => a = #[(.ref a0), (.int p1)] ∧ Z.Warmed39 U.vm ∧ U.heap = h0) (fun _ _ _ _ _ => True) (fun _ U o U' => ∃ v L, o = .returned v ∧ Q6 Z a0 p1 aw kw c0 c1 c2 c3 h0 n0 v U'.heap L ∧ FrameEnd U o U' L ({ frames := 0, cells := 0, slots := 0, locals := 0 } : Room).cells ({ frames := 0, cells := 0, slots := 0, locals := 0 } : Room).slots) := by
  refine MetFree.of_bodySF (plainFor_of_name pn_1) hisR ?_
  intro p e s m args below meth c s₁ Bd hml0 hP hK
  obtain ⟨rfl, hZ, hh⟩ := hP
  have hx := Bd.exec
  have hby := Bd.bytes
  have hml : c.maxLocals = 2 := hml0
  have hown : s.vm.findClass "com/example/garantia/garantia/engine/StateLayout" = some m.cls := findClass_of_methodNamed Bd.named
  have hnm := (name_of_methodNamed Bd.named Bd.method).1
  have X0 : Stand p l e ({ frames := 0, cells := 0, slots := 0, locals := 0 } : Room) s m #[(.ref a0), (.int p1)] below meth c s₁ [] 0 0 := Stand.of_body Bd
  have e0 : s₁.heap = h0 := by rw [← hh, Bd.state]; rfl
  have N0 := Fr.nil n0
  obtain ⟨S0, hS0⟩ : ∃ z, z = s₁.setTop (entryFrame m #[(.ref a0), (.int p1)] 2) := ⟨_, rfl⟩
  have pre0 : Go p.tables e below S0 s₁ (mkF m 0 #[vR a0, vI p1] []) := fun t k => by rw [hS0]; exact castTop (ef_6 m a0 p1) k
  have pre1 : Go p.tables e below S0 s₁ (mkF m 1 #[vR a0, vI p1] [(.ref a0)]) := fun t k => pre0 t (by
    refine XS.aloadN X0.here hx rfl (hb hby d6_0) rfl rfl ?_
    exact k)
  obtain ⟨T2, X2, e2, st2⟩ := getF X0 hx hZ hown (host := "") (Or.inl (hw _ (List.mem_of_getElem? (i := 18) rfl))) Via.refl e0 Fw (g := (mkF m 1 #[vR a0, vI p1] [(.ref a0)])) rfl rfl (hb hby d6_1)
  have pre2 : Go p.tables e below S0 T2 (mkF m 4 #[vR a0, vI p1] [(.ref aw)]) := fun t k => pre1 t (st2 t k)
  have pre3 : Go p.tables e below S0 T2 (mkF m 5 #[vR a0, vI p1] [(.int p1), (.ref aw)]) := fun t k => pre2 t (by
    refine XS.iloadN X2.here hx rfl (hb hby d6_4) rfl ?_
    exact k)
  obtain ⟨cl4, Ar4, q4, S4, M4, H4, G4⟩ := id V1
  have in4 : ¬ (p1 < 0 ∨ cl4.slots.size ≤ (p1).toNatClampNeg) := inb_of S4 hs
  have at4 : cl4.slots[(p1).toNatClampNeg]? = some (.int ([c0, c1, c2, c3].getD (p1).toNatClampNeg 0)) := H4.at in4 (own_getI [c0, c1, c2, c3] _)
  have pre5 : Go p.tables e below S0 T2 (mkF m 6 #[vR a0, vI p1] [(.int ([c0, c1, c2, c3].getD (p1).toNatClampNeg 0))]) := fun t k => pre3 t (by
    refine X2.iaload hx (j := p1) (v := (.int ([c0, c1, c2, c3].getD (p1).toNatClampNeg 0))) (by rw [e2]; exact Ar4.1) (State.isArrayOf_alike hZ.alike Ar4.2.1) Ar4.2.2 in4 at4 (g := (mkF m 5 #[vR a0, vI p1] [(.int p1), (.ref aw)])) rfl rfl (hb hby d6_5) _ ?_
    exact k)
  obtain ⟨fs, hr, hrun, hended, hW, hsame⟩ := X2.leave (v := some (.int ([c0, c1, c2, c3].getD (p1).toNatClampNeg 0))) (fun h => by rw [Bd.returns] at h; cases h)
  exact ⟨_, _, pre5.fin hS0 (retI X2 hx Bd.returns (hb hby d6_6) hr), hrun, hended, _, _, rfl, (by
    show Q6 Z a0 p1 aw kw c0 c1 c2 c3 h0 n0 _ T2.heap _
    rw [e2]
    exact ⟨rfl, N0, rfl⟩), ⟨_, rfl⟩, hW, hsame.mono (by decide) (by decide)⟩
theorem ef_7 (m : MethodId) (x0 : Addr) (x1 : Int32) (x2 : Int32) (x3 : Int32) : entryFrame m #[(.ref x0), (.int x1), (.int x2), (.int x3)] 4 = mkF m 0 #[.val (.ref x0), .val (.int x1), .val (.int x2), .val (.int x3)] [] := by first | (simp [entryFrame, mkF, argsToLocals, Value.category]; done) | rfl
theorem d7_0 : decode prog_46_method_6_code 0 = .ok (.iload_n 2, 1) := by decide +kernel
theorem d7_1 : decode prog_46_method_6_code 1 = .ok (.iload_n 3, 1) := by decide +kernel
theorem d7_2 : decode prog_46_method_6_code 2 = .ok (.ixor, 1) := by decide +kernel
theorem d7_3 : decode prog_46_method_6_code 3 = .ok (.i2l, 1) := by decide +kernel
theorem d7_4 : decode prog_46_method_6_code 4 = .ok (.aload_n 0, 1) := by decide +kernel
theorem d7_5 : decode prog_46_method_6_code 5 = .ok (.getfield 13, 3) := by decide +kernel
theorem d7_8 : decode prog_46_method_6_code 8 = .ok (.iload_n 1, 1) := by decide +kernel
theorem d7_9 : decode prog_46_method_6_code 9 = .ok (.iaload, 1) := by decide +kernel
theorem d7_10 : decode prog_46_method_6_code 10 = .ok (.lshl, 1) := by decide +kernel
theorem d7_11 : decode prog_46_method_6_code 11 = .ok (.lreturn, 1) := by decide +kernel
def Q7 (Z : State) (a0 : Addr) (p1 p2 p3 : Int32) (as : Addr) (ks : ClassId) (u0 u1 u2 u3 : Int32) (h0 : Heap) (n0 : Nat) (v : Option Value) (h : Heap) (L : List Loc) : Prop := v = some (.long (((p2 ^^^ p3).toInt64) <<< (([u0, u1, u2, u3].getD (p1).toNatClampNeg 0) &&& 0x3f).toInt64)) ∧ Fr n0 L ∧ h = h0
set_option maxRecDepth 65536 in
set_option maxHeartbeats 40000000 in
theorem rm7 (l : Launch) (Z : State) (A0 : Array Value) (hw : ∀ d ∈ tables_1, d.before A0 Z = true) (ws : List Jvm.Cond) (a0 : Addr) (p1 : Int32) (p2 : Int32) (p3 : Int32) (as : Addr) (ks : ClassId) (u0 u1 u2 u3 : Int32) (h0 : Heap) (n0 : Nat) (Z0 : n0 ≤ h0.size) (Fs : Fld Z h0 a0 "com/example/garantia/garantia/engine/StateLayout" "shift" "[I" (.ref as)) (V2 : Arv Z h0 as ks .int (4 : Int32) [(.int u0), (.int u1), (.int u2), (.int u3)] (.int (0 : Int32))) (hs : ¬ p1 < 0 ∧ p1 < (4 : Int32)) :
    MetFree l (⟨"com/example/garantia/garantia/engine/StateLayout", "change", "(III)J"⟩ : MethodName) (head1 (Jvm.Cond.code (⟨"com/example/garantia/garantia/engine/StateLayout", "change", "(III)J"⟩ : MethodName) prog_46_method_6_code 4 (some .long) :: ws) ({ frames := 0, cells := 0, slots := 0, locals := 0 } : Room)) (fun a U => a = #[(.ref a0), (.int p1), (.int p2), (.int p3)] ∧ Z.Warmed39 U.vm ∧ U.heap = h0) (fun _ _ _ _ _ => True) (fun _ U o U' => ∃ v L, o = .returned v ∧ Q7 Z a0 p1 p2 p3 as ks u0 u1 u2 u3 h0 n0 v U'.heap L ∧ FrameEnd U o U' L ({ frames := 0, cells := 0, slots := 0, locals := 0 } : Room).cells ({ frames := 0, cells := 0, slots := 0, locals := 0 } : Room).slots) := by
  refine MetFree.of_bodySF (plainFor_of_name pn_1) hisR ?_
  intro p e s m args below meth c s₁ Bd hml0 hP hK
  obtain ⟨rfl, hZ, hh⟩ := hP
  have hx := Bd.exec
  have hby := Bd.bytes
  have hml : c.maxLocals = 4 := hml0
  have hown : s.vm.findClass "com/example/garantia/garantia/engine/StateLayout" = some m.cls := findClass_of_methodNamed Bd.named
  have hnm := (name_of_methodNamed Bd.named Bd.method).1
  have X0 : Stand p l e ({ frames := 0, cells := 0, slots := 0, locals := 0 } : Room) s m #[(.ref a0), (.int p1), (.int p2), (.int p3)] below meth c s₁ [] 0 0 := Stand.of_body Bd
  have e0 : s₁.heap = h0 := by rw [← hh, Bd.state]; rfl
  have N0 := Fr.nil n0
  obtain ⟨S0, hS0⟩ : ∃ z, z = s₁.setTop (entryFrame m #[(.ref a0), (.int p1), (.int p2), (.int p3)] 4) := ⟨_, rfl⟩
  have pre0 : Go p.tables e below S0 s₁ (mkF m 0 #[vR a0, vI p1, vI p2, vI p3] []) := fun t k => by rw [hS0]; exact castTop (ef_7 m a0 p1 p2 p3) k
  have pre1 : Go p.tables e below S0 s₁ (mkF m 5 #[vR a0, vI p1, vI p2, vI p3] [(.ref a0), (.long ((p2 ^^^ p3).toInt64))]) := fun t k => pre0 t (by
    refine XS.iloadN X0.here hx rfl (hb hby d7_0) rfl ?_
    refine XS.iloadN X0.here hx rfl (hb hby d7_1) rfl ?_
    refine XS.ixor X0.here hx rfl (hb hby d7_2) rfl ?_
    show Steps p.tables e below (s₁.setTop (mkF m 3 #[vR a0, vI p1, vI p2, vI p3] [(.int (p2 ^^^ p3))])) _
    refine XS.i2l X0.here hx rfl (hb hby d7_3) rfl ?_
    refine XS.aloadN X0.here hx rfl (hb hby d7_4) rfl rfl ?_
    exact k)
  obtain ⟨T2, X2, e2, st2⟩ := getF X0 hx hZ hown (host := "") (Or.inl (hw _ (List.mem_of_getElem? (i := 20) rfl))) Via.refl e0 Fs (g := (mkF m 5 #[vR a0, vI p1, vI p2, vI p3] [(.ref a0), (.long ((p2 ^^^ p3).toInt64))])) rfl rfl (hb hby d7_5)
  have pre2 : Go p.tables e below S0 T2 (mkF m 8 #[vR a0, vI p1, vI p2, vI p3] [(.ref as), (.long ((p2 ^^^ p3).toInt64))]) := fun t k => pre1 t (st2 t k)
  have pre3 : Go p.tables e below S0 T2 (mkF m 9 #[vR a0, vI p1, vI p2, vI p3] [(.int p1), (.ref as), (.long ((p2 ^^^ p3).toInt64))]) := fun t k => pre2 t (by
    refine XS.iloadN X2.here hx rfl (hb hby d7_8) rfl ?_
    exact k)
  obtain ⟨cl4, Ar4, q4, S4, M4, H4, G4⟩ := id V2
  have in4 : ¬ (p1 < 0 ∨ cl4.slots.size ≤ (p1).toNatClampNeg) := inb_of S4 hs
  have at4 : cl4.slots[(p1).toNatClampNeg]? = some (.int ([u0, u1, u2, u3].getD (p1).toNatClampNeg 0)) := H4.at in4 (own_getI [u0, u1, u2, u3] _)
  have pre5 : Go p.tables e below S0 T2 (mkF m 11 #[vR a0, vI p1, vI p2, vI p3] [(.long (((p2 ^^^ p3).toInt64) <<< (([u0, u1, u2, u3].getD (p1).toNatClampNeg 0) &&& 0x3f).toInt64))]) := fun t k => pre3 t (by
    refine X2.iaload hx (j := p1) (v := (.int ([u0, u1, u2, u3].getD (p1).toNatClampNeg 0))) (by rw [e2]; exact Ar4.1) (State.isArrayOf_alike hZ.alike Ar4.2.1) Ar4.2.2 in4 at4 (g := (mkF m 9 #[vR a0, vI p1, vI p2, vI p3] [(.int p1), (.ref as), (.long ((p2 ^^^ p3).toInt64))])) rfl rfl (hb hby d7_9) _ ?_
    refine XS.lshl X2.here hx rfl (hb hby d7_10) rfl ?_
    exact k)
  obtain ⟨fs, hr, hrun, hended, hW, hsame⟩ := X2.leave (v := some (.long (((p2 ^^^ p3).toInt64) <<< (([u0, u1, u2, u3].getD (p1).toNatClampNeg 0) &&& 0x3f).toInt64))) (fun h => by rw [Bd.returns] at h; cases h)
  exact ⟨_, _, pre5.fin hS0 (retJ X2 hx Bd.returns (hb hby d7_11) hr), hrun, hended, _, _, rfl, (by
    show Q7 Z a0 p1 p2 p3 as ks u0 u1 u2 u3 h0 n0 _ T2.heap _
    rw [e2]
    exact ⟨rfl, N0, rfl⟩), ⟨_, rfl⟩, hW, hsame.mono (by decide) (by decide)⟩
theorem ef_8 (m : MethodId) (x0 : Addr) (x1 : Addr) (x2 : Int32) (x3 : Int32) : entryFrame m #[(.ref x0), (.ref x1), (.int x2), (.int x3)] 5 = mkF m 0 #[.val (.ref x0), .val (.ref x1), .val (.int x2), .val (.int x3), .unset] [] := by first | (simp [entryFrame, mkF, argsToLocals, Value.category]; done) | rfl
theorem d8_0 : decode prog_46_method_7_code 0 = .ok (.aload_n 0, 1) := by decide +kernel
theorem d8_1 : decode prog_46_method_7_code 1 = .ok (.getfield 7, 3) := by decide +kernel
theorem d8_4 : decode prog_46_method_7_code 4 = .ok (.iload_n 2, 1) := by decide +kernel
theorem d8_5 : decode prog_46_method_7_code 5 = .ok (.iaload, 1) := by decide +kernel
theorem d8_6 : decode prog_46_method_7_code 6 = .ok (.istore 4, 2) := by decide +kernel
theorem d8_8 : decode prog_46_method_7_code 8 = .ok (.aload_n 1, 1) := by decide +kernel
theorem d8_9 : decode prog_46_method_7_code 9 = .ok (.iload 4, 2) := by decide +kernel
theorem d8_11 : decode prog_46_method_7_code 11 = .ok (.aload_n 1, 1) := by decide +kernel
theorem d8_12 : decode prog_46_method_7_code 12 = .ok (.iload 4, 2) := by decide +kernel
theorem d8_14 : decode prog_46_method_7_code 14 = .ok (.laload, 1) := by decide +kernel
theorem d8_15 : decode prog_46_method_7_code 15 = .ok (.aload_n 0, 1) := by decide +kernel
theorem d8_16 : decode prog_46_method_7_code 16 = .ok (.getfield 20, 3) := by decide +kernel
theorem d8_19 : decode prog_46_method_7_code 19 = .ok (.iload_n 2, 1) := by decide +kernel
theorem d8_20 : decode prog_46_method_7_code 20 = .ok (.laload, 1) := by decide +kernel
theorem d8_21 : decode prog_46_method_7_code 21 = .ok (.land, 1) := by decide +kernel
theorem d8_22 : decode prog_46_method_7_code 22 = .ok (.iload_n 3, 1) := by decide +kernel
theorem d8_23 : decode prog_46_method_7_code 23 = .ok (.i2l, 1) := by decide +kernel
theorem d8_24 : decode prog_46_method_7_code 24 = .ok (.aload_n 0, 1) := by decide +kernel
theorem d8_25 : decode prog_46_method_7_code 25 = .ok (.getfield 13, 3) := by decide +kernel
theorem d8_28 : decode prog_46_method_7_code 28 = .ok (.iload_n 2, 1) := by decide +kernel
theorem d8_29 : decode prog_46_method_7_code 29 = .ok (.iaload, 1) := by decide +kernel
theorem d8_30 : decode prog_46_method_7_code 30 = .ok (.lshl, 1) := by decide +kernel
theorem d8_31 : decode prog_46_method_7_code 31 = .ok (.lor, 1) := by decide +kernel
theorem d8_32 : decode prog_46_method_7_code 32 = .ok (.lastore, 1) := by decide +kernel
theorem d8_33 : decode prog_46_method_7_code 33 = .ok (.return_, 1) := by decide +kernel
def Q8 (Z : State) (a0 a1 : Addr) (p2 p3 : Int32) (aw as ao : Addr) (kw ks ko k1 : ClassId) (c0 c1 c2 c3 u0 u1 u2 u3 : Int32) (o0 o1 o2 o3 x0 x1 : Int64) (h0 : Heap) (n0 : Nat) (v : Option Value) (h : Heap) (L : List Loc) : Prop := v = none ∧ Fr n0 L ∧ ∃ (y0 y1 : Int64), (y0 = own_putL ([c0, c1, c2, c3].getD (p2).toNatClampNeg 0) (0 : Int32) ((([x0, x1].getD (([c0, c1, c2, c3].getD (p2).toNatClampNeg 0)).toNatClampNeg 0) &&& ([o0, o1, o2, o3].getD (p2).toNatClampNeg 0)) ||| ((p3.toInt64) <<< (([u0, u1, u2, u3].getD (p2).toNatClampNeg 0) &&& 0x3f).toInt64)) x0 ∧ y1 = own_putL ([c0, c1, c2, c3].getD (p2).toNatClampNeg 0) (1 : Int32) ((([x0, x1].getD (([c0, c1, c2, c3].getD (p2).toNatClampNeg 0)).toNatClampNeg 0) &&& ([o0, o1, o2, o3].getD (p2).toNatClampNeg 0)) ||| ((p3.toInt64) <<< (([u0, u1, u2, u3].getD (p2).toNatClampNeg 0) &&& 0x3f).toInt64)) x1) ∧ Keep h0 h [a1] ∧ (Arv Z h a1 k1 .long (2 : Int32) [(.long y0), (.long y1)] (.long (0 : Int64)))
set_option maxRecDepth 65536 in
set_option maxHeartbeats 40000000 in
theorem rm8 (l : Launch) (Z : State) (A0 : Array Value) (hw : ∀ d ∈ tables_1, d.before A0 Z = true) (ws : List Jvm.Cond) (a0 : Addr) (a1 : Addr) (p2 : Int32) (p3 : Int32) (aw as ao : Addr) (kw ks ko k1 : ClassId) (c0 c1 c2 c3 u0 u1 u2 u3 : Int32) (o0 o1 o2 o3 x0 x1 : Int64) (h0 : Heap) (n0 : Nat) (Z0 : n0 ≤ h0.size) (Fw : Fld Z h0 a0 "com/example/garantia/garantia/engine/StateLayout" "word" "[I" (.ref aw)) (Fs : Fld Z h0 a0 "com/example/garantia/garantia/engine/StateLayout" "shift" "[I" (.ref as)) (Fo : Fld Z h0 a0 "com/example/garantia/garantia/engine/StateLayout" "others" "[J" (.ref ao)) (V1 : Arv Z h0 aw kw .int (4 : Int32) [(.int c0), (.int c1), (.int c2), (.int c3)] (.int (0 : Int32))) (V2 : Arv Z h0 as ks .int (4 : Int32) [(.int u0), (.int u1), (.int u2), (.int u3)] (.int (0 : Int32))) (V3 : Arv Z h0 ao ko .long (4 : Int32) [(.long o0), (.long o1), (.long o2), (.long o3)] (.long (0 : Int64))) (V4 : Arv Z h0 a1 k1 .long (2 : Int32) [(.long x0), (.long x1)] (.long (0 : Int64))) (xe0 : a0 ≠ a1) (xe1 : aw ≠ a1) (xe2 : as ≠ a1) (xe3 : ao ≠ a1) (g0 : n0 ≤ a1) (hs : ¬ p2 < 0 ∧ p2 < (4 : Int32)) (hW : ¬ ([c0, c1, c2, c3].getD (p2).toNatClampNeg 0) < 0 ∧ ([c0, c1, c2, c3].getD (p2).toNatClampNeg 0) < (2 : Int32)) :
    MetFree l (⟨"com/example/garantia/garantia/engine/StateLayout", "set", "([JII)V"⟩ : MethodName) (head1 (Jvm.Cond.code (⟨"com/example/garantia/garantia/engine/StateLayout", "set", "([JII)V"⟩ : MethodName) prog_46_method_7_code 5 none :: ws) ({ frames := 0, cells := 0, slots := 0, locals := 0 } : Room)) (fun a U => a = #[(.ref a0), (.ref a1), (.int p2), (.int p3)] ∧ Z.Warmed39 U.vm ∧ U.heap = h0) (fun _ _ _ _ _ => True) (fun _ U o U' => ∃ v L, o = .returned v ∧ Q8 Z a0 a1 p2 p3 aw as ao kw ks ko k1 c0 c1 c2 c3 u0 u1 u2 u3 o0 o1 o2 o3 x0 x1 h0 n0 v U'.heap L ∧ FrameEnd U o U' L ({ frames := 0, cells := 0, slots := 0, locals := 0 } : Room).cells ({ frames := 0, cells := 0, slots := 0, locals := 0 } : Room).slots) := by
  refine MetFree.of_bodySF (plainFor_of_name pn_1) hisR ?_
  intro p e s m args below meth c s₁ Bd hml0 hP hK
  obtain ⟨rfl, hZ, hh⟩ := hP
  have hx := Bd.exec
  have hby := Bd.bytes
  have hml : c.maxLocals = 5 := hml0
  have hown : s.vm.findClass "com/example/garantia/garantia/engine/StateLayout" = some m.cls := findClass_of_methodNamed Bd.named
  have hnm := (name_of_methodNamed Bd.named Bd.method).1
  have X0 : Stand p l e ({ frames := 0, cells := 0, slots := 0, locals := 0 } : Room) s m #[(.ref a0), (.ref a1), (.int p2), (.int p3)] below meth c s₁ [] 0 0 := Stand.of_body Bd
  have e0 : s₁.heap = h0 := by rw [← hh, Bd.state]; rfl
  have N0 := Fr.nil n0
  have kp0 : Keep h0 h0 [a1] := Keep.refl _ _
  obtain ⟨S0, hS0⟩ : ∃ z, z = s₁.setTop (entryFrame m #[(.ref a0), (.ref a1), (.int p2), (.int p3)] 5) := ⟨_, rfl⟩
  have pre0 : Go p.tables e below S0 s₁ (mkF m 0 #[vR a0, vR a1, vI p2, vI p3, .unset] []) := fun t k => by rw [hS0]; exact castTop (ef_8 m a0 a1 p2 p3) k
  have pre1 : Go p.tables e below S0 s₁ (mkF m 1 #[vR a0, vR a1, vI p2, vI p3, .unset] [(.ref a0)]) := fun t k => pre0 t (by
    refine XS.aloadN X0.here hx rfl (hb hby d8_0) rfl rfl ?_
    exact k)
  obtain ⟨T2, X2, e2, st2⟩ := getF X0 hx hZ hown (host := "") (Or.inl (hw _ (List.mem_of_getElem? (i := 18) rfl))) Via.refl e0 Fw (g := (mkF m 1 #[vR a0, vR a1, vI p2, vI p3, .unset] [(.ref a0)])) rfl rfl (hb hby d8_1)
  have pre2 : Go p.tables e below S0 T2 (mkF m 4 #[vR a0, vR a1, vI p2, vI p3, .unset] [(.ref aw)]) := fun t k => pre1 t (st2 t k)
  have pre3 : Go p.tables e below S0 T2 (mkF m 5 #[vR a0, vR a1, vI p2, vI p3, .unset] [(.int p2), (.ref aw)]) := fun t k => pre2 t (by
    refine XS.iloadN X2.here hx rfl (hb hby d8_4) rfl ?_
    exact k)
  obtain ⟨cl4, Ar4, q4, S4, M4, H4, G4⟩ := id V1
  have in4 : ¬ (p2 < 0 ∨ cl4.slots.size ≤ (p2).toNatClampNeg) := inb_of S4 hs
  have at4 : cl4.slots[(p2).toNatClampNeg]? = some (.int ([c0, c1, c2, c3].getD (p2).toNatClampNeg 0)) := H4.at in4 (own_getI [c0, c1, c2, c3] _)
  have pre5 : Go p.tables e below S0 T2 (mkF m 14 #[vR a0, vR a1, vI p2, vI p3, vI ([c0, c1, c2, c3].getD (p2).toNatClampNeg 0)] [(.int ([c0, c1, c2, c3].getD (p2).toNatClampNeg 0)), (.ref a1), (.int ([c0, c1, c2, c3].getD (p2).toNatClampNeg 0)), (.ref a1)]) := fun t k => pre3 t (by
    refine X2.iaload hx (j := p2) (v := (.int ([c0, c1, c2, c3].getD (p2).toNatClampNeg 0))) (by rw [e2]; exact Ar4.1) (State.isArrayOf_alike hZ.alike Ar4.2.1) Ar4.2.2 in4 at4 (g := (mkF m 5 #[vR a0, vR a1, vI p2, vI p3, .unset] [(.int p2), (.ref aw)])) rfl rfl (hb hby d8_5) _ ?_
    refine XS.istore X2.here hx rfl (hb hby d8_6) rfl (l' := #[vR a0, vR a1, vI p2, vI p3, vI ([c0, c1, c2, c3].getD (p2).toNatClampNeg 0)]) rfl ?_
    refine XS.aloadN X2.here hx rfl (hb hby d8_8) rfl rfl ?_
    show Steps p.tables e below (T2.setTop (mkF m 9 #[vR a0, vR a1, vI p2, vI p3, vI ([c0, c1, c2, c3].getD (p2).toNatClampNeg 0)] [(.ref a1)])) _
    refine XS.iload X2.here hx rfl (hb hby d8_9) rfl ?_
    refine XS.aloadN X2.here hx rfl (hb hby d8_11) rfl rfl ?_
    refine XS.iload X2.here hx rfl (hb hby d8_12) rfl ?_
    show Steps p.tables e below (T2.setTop (mkF m 14 #[vR a0, vR a1, vI p2, vI p3, vI ([c0, c1, c2, c3].getD (p2).toNatClampNeg 0)] [(.int ([c0, c1, c2, c3].getD (p2).toNatClampNeg 0)), (.ref a1), (.int ([c0, c1, c2, c3].getD (p2).toNatClampNeg 0)), (.ref a1)])) _
    exact k)
  obtain ⟨cl6, Ar6, q6, S6, M6, H6, G6⟩ := id V4
  have in6 : ¬ (([c0, c1, c2, c3].getD (p2).toNatClampNeg 0) < 0 ∨ cl6.slots.size ≤ (([c0, c1, c2, c3].getD (p2).toNatClampNeg 0)).toNatClampNeg) := inb_of S6 hW
  have at6 : cl6.slots[(([c0, c1, c2, c3].getD (p2).toNatClampNeg 0)).toNatClampNeg]? = some (.long ([x0, x1].getD (([c0, c1, c2, c3].getD (p2).toNatClampNeg 0)).toNatClampNeg 0)) := H6.at in6 (own_getJ [x0, x1] _)
  have pre7 : Go p.tables e below S0 T2 (mkF m 16 #[vR a0, vR a1, vI p2, vI p3, vI ([c0, c1, c2, c3].getD (p2).toNatClampNeg 0)] [(.ref a0), (.long ([x0, x1].getD (([c0, c1, c2, c3].getD (p2).toNatClampNeg 0)).toNatClampNeg 0)), (.int ([c0, c1, c2, c3].getD (p2).toNatClampNeg 0)), (.ref a1)]) := fun t k => pre5 t (by
    refine X2.laload hx (j := ([c0, c1, c2, c3].getD (p2).toNatClampNeg 0)) (v := (.long ([x0, x1].getD (([c0, c1, c2, c3].getD (p2).toNatClampNeg 0)).toNatClampNeg 0))) (by rw [e2]; exact Ar6.1) (State.isArrayOf_alike hZ.alike Ar6.2.1) Ar6.2.2 in6 at6 (g := (mkF m 14 #[vR a0, vR a1, vI p2, vI p3, vI ([c0, c1, c2, c3].getD (p2).toNatClampNeg 0)] [(.int ([c0, c1, c2, c3].getD (p2).toNatClampNeg 0)), (.ref a1), (.int ([c0, c1, c2, c3].getD (p2).toNatClampNeg 0)), (.ref a1)])) rfl rfl (hb hby d8_14) _ ?_
    refine XS.aloadN X2.here hx rfl (hb hby d8_15) rfl rfl ?_
    exact k)
  obtain ⟨T8, X8, e8, st8⟩ := getF X2 hx hZ hown (host := "") (Or.inl (hw _ (List.mem_of_getElem? (i := 24) rfl))) Via.refl e2 Fo (g := (mkF m 16 #[vR a0, vR a1, vI p2, vI p3, vI ([c0, c1, c2, c3].getD (p2).toNatClampNeg 0)] [(.ref a0), (.long ([x0, x1].getD (([c0, c1, c2, c3].getD (p2).toNatClampNeg 0)).toNatClampNeg 0)), (.int ([c0, c1, c2, c3].getD (p2).toNatClampNeg 0)), (.ref a1)])) rfl rfl (hb hby d8_16)
  have pre8 : Go p.tables e below S0 T8 (mkF m 19 #[vR a0, vR a1, vI p2, vI p3, vI ([c0, c1, c2, c3].getD (p2).toNatClampNeg 0)] [(.ref ao), (.long ([x0, x1].getD (([c0, c1, c2, c3].getD (p2).toNatClampNeg 0)).toNatClampNeg 0)), (.int ([c0, c1, c2, c3].getD (p2).toNatClampNeg 0)), (.ref a1)]) := fun t k => pre7 t (st8 t k)
  have pre9 : Go p.tables e below S0 T8 (mkF m 20 #[vR a0, vR a1, vI p2, vI p3, vI ([c0, c1, c2, c3].getD (p2).toNatClampNeg 0)] [(.int p2), (.ref ao), (.long ([x0, x1].getD (([c0, c1, c2, c3].getD (p2).toNatClampNeg 0)).toNatClampNeg 0)), (.int ([c0, c1, c2, c3].getD (p2).toNatClampNeg 0)), (.ref a1)]) := fun t k => pre8 t (by
    refine XS.iloadN X8.here hx rfl (hb hby d8_19) rfl ?_
    exact k)
  obtain ⟨cl10, Ar10, q10, S10, M10, H10, G10⟩ := id V3
  have in10 : ¬ (p2 < 0 ∨ cl10.slots.size ≤ (p2).toNatClampNeg) := inb_of S10 hs
  have at10 : cl10.slots[(p2).toNatClampNeg]? = some (.long ([o0, o1, o2, o3].getD (p2).toNatClampNeg 0)) := H10.at in10 (own_getJ [o0, o1, o2, o3] _)
  have pre11 : Go p.tables e below S0 T8 (mkF m 25 #[vR a0, vR a1, vI p2, vI p3, vI ([c0, c1, c2, c3].getD (p2).toNatClampNeg 0)] [(.ref a0), (.long (p3.toInt64)), (.long (([x0, x1].getD (([c0, c1, c2, c3].getD (p2).toNatClampNeg 0)).toNatClampNeg 0) &&& ([o0, o1, o2, o3].getD (p2).toNatClampNeg 0))), (.int ([c0, c1, c2, c3].getD (p2).toNatClampNeg 0)), (.ref a1)]) := fun t k => pre9 t (by
    refine X8.laload hx (j := p2) (v := (.long ([o0, o1, o2, o3].getD (p2).toNatClampNeg 0))) (by rw [e8]; exact Ar10.1) (State.isArrayOf_alike hZ.alike Ar10.2.1) Ar10.2.2 in10 at10 (g := (mkF m 20 #[vR a0, vR a1, vI p2, vI p3, vI ([c0, c1, c2, c3].getD (p2).toNatClampNeg 0)] [(.int p2), (.ref ao), (.long ([x0, x1].getD (([c0, c1, c2, c3].getD (p2).toNatClampNeg 0)).toNatClampNeg 0)), (.int ([c0, c1, c2, c3].getD (p2).toNatClampNeg 0)), (.ref a1)])) rfl rfl (hb hby d8_20) _ ?_
    refine XS.land X8.here hx rfl (hb hby d8_21) rfl ?_
    refine XS.iloadN X8.here hx rfl (hb hby d8_22) rfl ?_
    show Steps p.tables e below (T8.setTop (mkF m 23 #[vR a0, vR a1, vI p2, vI p3, vI ([c0, c1, c2, c3].getD (p2).toNatClampNeg 0)] [(.int p3), (.long (([x0, x1].getD (([c0, c1, c2, c3].getD (p2).toNatClampNeg 0)).toNatClampNeg 0) &&& ([o0, o1, o2, o3].getD (p2).toNatClampNeg 0))), (.int ([c0, c1, c2, c3].getD (p2).toNatClampNeg 0)), (.ref a1)])) _
    refine XS.i2l X8.here hx rfl (hb hby d8_23) rfl ?_
    refine XS.aloadN X8.here hx rfl (hb hby d8_24) rfl rfl ?_
    exact k)
  obtain ⟨T12, X12, e12, st12⟩ := getF X8 hx hZ hown (host := "") (Or.inl (hw _ (List.mem_of_getElem? (i := 20) rfl))) Via.refl e8 Fs (g := (mkF m 25 #[vR a0, vR a1, vI p2, vI p3, vI ([c0, c1, c2, c3].getD (p2).toNatClampNeg 0)] [(.ref a0), (.long (p3.toInt64)), (.long (([x0, x1].getD (([c0, c1, c2, c3].getD (p2).toNatClampNeg 0)).toNatClampNeg 0) &&& ([o0, o1, o2, o3].getD (p2).toNatClampNeg 0))), (.int ([c0, c1, c2, c3].getD (p2).toNatClampNeg 0)), (.ref a1)])) rfl rfl (hb hby d8_25)
  have pre12 : Go p.tables e below S0 T12 (mkF m 28 #[vR a0, vR a1, vI p2, vI p3, vI ([c0, c1, c2, c3].getD (p2).toNatClampNeg 0)] [(.ref as), (.long (p3.toInt64)), (.long (([x0, x1].getD (([c0, c1, c2, c3].getD (p2).toNatClampNeg 0)).toNatClampNeg 0) &&& ([o0, o1, o2, o3].getD (p2).toNatClampNeg 0))), (.int ([c0, c1, c2, c3].getD (p2).toNatClampNeg 0)), (.ref a1)]) := fun t k => pre11 t (st12 t k)
  have pre13 : Go p.tables e below S0 T12 (mkF m 29 #[vR a0, vR a1, vI p2, vI p3, vI ([c0, c1, c2, c3].getD (p2).toNatClampNeg 0)] [(.int p2), (.ref as), (.long (p3.toInt64)), (.long (([x0, x1].getD (([c0, c1, c2, c3].getD (p2).toNatClampNeg 0)).toNatClampNeg 0) &&& ([o0, o1, o2, o3].getD (p2).toNatClampNeg 0))), (.int ([c0, c1, c2, c3].getD (p2).toNatClampNeg 0)), (.ref a1)]) := fun t k => pre12 t (by
    refine XS.iloadN X12.here hx rfl (hb hby d8_28) rfl ?_
    exact k)
  obtain ⟨cl14, Ar14, q14, S14, M14, H14, G14⟩ := id V2
  have in14 : ¬ (p2 < 0 ∨ cl14.slots.size ≤ (p2).toNatClampNeg) := inb_of S14 hs
  have at14 : cl14.slots[(p2).toNatClampNeg]? = some (.int ([u0, u1, u2, u3].getD (p2).toNatClampNeg 0)) := H14.at in14 (own_getI [u0, u1, u2, u3] _)
  have pre15 : Go p.tables e below S0 T12 (mkF m 32 #[vR a0, vR a1, vI p2, vI p3, vI ([c0, c1, c2, c3].getD (p2).toNatClampNeg 0)] [(.long ((([x0, x1].getD (([c0, c1, c2, c3].getD (p2).toNatClampNeg 0)).toNatClampNeg 0) &&& ([o0, o1, o2, o3].getD (p2).toNatClampNeg 0)) ||| ((p3.toInt64) <<< (([u0, u1, u2, u3].getD (p2).toNatClampNeg 0) &&& 0x3f).toInt64))), (.int ([c0, c1, c2, c3].getD (p2).toNatClampNeg 0)), (.ref a1)]) := fun t k => pre13 t (by
    refine X12.iaload hx (j := p2) (v := (.int ([u0, u1, u2, u3].getD (p2).toNatClampNeg 0))) (by rw [e12]; exact Ar14.1) (State.isArrayOf_alike hZ.alike Ar14.2.1) Ar14.2.2 in14 at14 (g := (mkF m 29 #[vR a0, vR a1, vI p2, vI p3, vI ([c0, c1, c2, c3].getD (p2).toNatClampNeg 0)] [(.int p2), (.ref as), (.long (p3.toInt64)), (.long (([x0, x1].getD (([c0, c1, c2, c3].getD (p2).toNatClampNeg 0)).toNatClampNeg 0) &&& ([o0, o1, o2, o3].getD (p2).toNatClampNeg 0))), (.int ([c0, c1, c2, c3].getD (p2).toNatClampNeg 0)), (.ref a1)])) rfl rfl (hb hby d8_29) _ ?_
    refine XS.lshl X12.here hx rfl (hb hby d8_30) rfl ?_
    refine XS.lor X12.here hx rfl (hb hby d8_31) rfl ?_
    show Steps p.tables e below (T12.setTop (mkF m 32 #[vR a0, vR a1, vI p2, vI p3, vI ([c0, c1, c2, c3].getD (p2).toNatClampNeg 0)] [(.long ((([x0, x1].getD (([c0, c1, c2, c3].getD (p2).toNatClampNeg 0)).toNatClampNeg 0) &&& ([o0, o1, o2, o3].getD (p2).toNatClampNeg 0)) ||| ((p3.toInt64) <<< (([u0, u1, u2, u3].getD (p2).toNatClampNeg 0) &&& 0x3f).toInt64))), (.int ([c0, c1, c2, c3].getD (p2).toNatClampNeg 0)), (.ref a1)])) _
    exact k)
  obtain ⟨cl16, Ar16, q16, S16, M16, H16, G16⟩ := id V4
  have in16 : ¬ (([c0, c1, c2, c3].getD (p2).toNatClampNeg 0) < 0 ∨ cl16.slots.size ≤ (([c0, c1, c2, c3].getD (p2).toNatClampNeg 0)).toNatClampNeg) := inb_of S16 hW
  obtain ⟨T16, h16, X16, e16, W16, st16⟩ := stJ X12 hx hZ e12 Ar16 (j := ([c0, c1, c2, c3].getD (p2).toNatClampNeg 0)) in16 (g := (mkF m 32 #[vR a0, vR a1, vI p2, vI p3, vI ([c0, c1, c2, c3].getD (p2).toNatClampNeg 0)] [(.long ((([x0, x1].getD (([c0, c1, c2, c3].getD (p2).toNatClampNeg 0)).toNatClampNeg 0) &&& ([o0, o1, o2, o3].getD (p2).toNatClampNeg 0)) ||| ((p3.toInt64) <<< (([u0, u1, u2, u3].getD (p2).toNatClampNeg 0) &&& 0x3f).toInt64))), (.int ([c0, c1, c2, c3].getD (p2).toNatClampNeg 0)), (.ref a1)])) rfl rfl (hb hby d8_32)
  have pre16 : Go p.tables e below S0 T16 (mkF m 33 #[vR a0, vR a1, vI p2, vI p3, vI ([c0, c1, c2, c3].getD (p2).toNatClampNeg 0)] []) := fun t k => pre15 t (st16 t k)
  obtain ⟨lo16, N16, X16⟩ : ∃ lo, Fr n0 lo ∧ Stand p l e ({ frames := 0, cells := 0, slots := 0, locals := 0 } : Room) s m #[(.ref a0), (.ref a1), (.int p2), (.int p3)] below meth c T16 lo 0 0 := ⟨_, Fr.snoc X16 N0 g0, X16⟩
  have av16 : Arv Z h16 a1 k1 .long (2 : Int32) [(.long (own_putL ([c0, c1, c2, c3].getD (p2).toNatClampNeg 0) (0 : Int32) ((([x0, x1].getD (([c0, c1, c2, c3].getD (p2).toNatClampNeg 0)).toNatClampNeg 0) &&& ([o0, o1, o2, o3].getD (p2).toNatClampNeg 0)) ||| ((p3.toInt64) <<< (([u0, u1, u2, u3].getD (p2).toNatClampNeg 0) &&& 0x3f).toInt64)) x0)), (.long (own_putL ([c0, c1, c2, c3].getD (p2).toNatClampNeg 0) (1 : Int32) ((([x0, x1].getD (([c0, c1, c2, c3].getD (p2).toNatClampNeg 0)).toNatClampNeg 0) &&& ([o0, o1, o2, o3].getD (p2).toNatClampNeg 0)) ||| ((p3.toInt64) <<< (([u0, u1, u2, u3].getD (p2).toNatClampNeg 0) &&& 0x3f).toInt64)) x1))] (.long (0 : Int64)) := by
    have q := Arv.set Ar16 q16 S16 M16 H16 G16 rfl W16 _ rfl (own_setJ2 (w := 0) (x0 := 0) (x1 := 0) hW).1
    rw [(own_setJ2 hW).2] at q
    exact q
  have f17_1 := Fld.other W16 Fw (Or.inl xe0)
  have f17_2 := Fld.other W16 Fs (Or.inl xe0)
  have f17_3 := Fld.other W16 Fo (Or.inl xe0)
  have f17_4 := V1.other W16 xe1
  have f17_5 := V2.other W16 xe2
  have f17_6 := V3.other W16 xe3
  have zz18 : n0 ≤ h16.size := Nat.le_trans Z0 (Keep.of_wr W16).1
  have kp19 : Keep h0 h16 [a1] := kp0.wr W16 (Or.inl (List.mem_of_getElem? (i := 0) rfl))
  obtain ⟨fs, hr, hrun, hended, hW, hsame⟩ := X16.leave (v := none) (fun _ => rfl)
  exact ⟨_, _, pre16.fin hS0 (X16.returnOut hx Bd.returns (hb hby d8_33) hr), hrun, hended, _, _, rfl, (by
    show Q8 Z a0 a1 p2 p3 aw as ao kw ks ko k1 c0 c1 c2 c3 u0 u1 u2 u3 o0 o1 o2 o3 x0 x1 h0 n0 _ T16.heap _
    rw [e16]
    exact ⟨rfl, N16, _, _, ⟨rfl, rfl⟩, kp19, av16⟩), ⟨_, rfl⟩, hW, hsame.mono (by decide) (by decide)⟩
theorem ef_9_4 (m : MethodId) (x0 : Addr) (x1 : Addr) (x2 : Int32) (x3 : Addr) : entryFrame m #[(.ref x0), (.ref x1), (.int x2), (.ref x3)] 5 = mkF m 0 #[.val (.ref x0), .val (.ref x1), .val (.int x2), .val (.ref x3), .unset] [] := by first | (simp [entryFrame, mkF, argsToLocals, Value.category]; done) | rfl
theorem d9_0 : decode prog_46_method_8_code 0 = .ok (.iconst 0, 1) := by decide +kernel
theorem d9_1 : decode prog_46_method_8_code 1 = .ok (.istore 4, 2) := by decide +kernel
theorem d9_3 : decode prog_46_method_8_code 3 = .ok (.iload 4, 2) := by decide +kernel
theorem d9_5 : decode prog_46_method_8_code 5 = .ok (.aload_n 3, 1) := by decide +kernel
theorem d9_6 : decode prog_46_method_8_code 6 = .ok (.arraylength, 1) := by decide +kernel
theorem d9_7 : decode prog_46_method_8_code 7 = .ok (.if_icmp .ge 41, 3) := by decide +kernel
theorem d9_10 : decode prog_46_method_8_code 10 = .ok (.aload_n 3, 1) := by decide +kernel
theorem d9_11 : decode prog_46_method_8_code 11 = .ok (.iload 4, 2) := by decide +kernel
theorem d9_13 : decode prog_46_method_8_code 13 = .ok (.aload_n 1, 1) := by decide +kernel
theorem d9_14 : decode prog_46_method_8_code 14 = .ok (.iload_n 2, 1) := by decide +kernel
theorem d9_15 : decode prog_46_method_8_code 15 = .ok (.aload_n 0, 1) := by decide +kernel
theorem d9_16 : decode prog_46_method_8_code 16 = .ok (.getfield 7, 3) := by decide +kernel
theorem d9_19 : decode prog_46_method_8_code 19 = .ok (.iload 4, 2) := by decide +kernel
theorem d9_21 : decode prog_46_method_8_code 21 = .ok (.iaload, 1) := by decide +kernel
theorem d9_22 : decode prog_46_method_8_code 22 = .ok (.iadd, 1) := by decide +kernel
theorem d9_23 : decode prog_46_method_8_code 23 = .ok (.laload, 1) := by decide +kernel
theorem d9_24 : decode prog_46_method_8_code 24 = .ok (.aload_n 0, 1) := by decide +kernel
theorem d9_25 : decode prog_46_method_8_code 25 = .ok (.getfield 13, 3) := by decide +kernel
theorem d9_28 : decode prog_46_method_8_code 28 = .ok (.iload 4, 2) := by decide +kernel
theorem d9_30 : decode prog_46_method_8_code 30 = .ok (.iaload, 1) := by decide +kernel
theorem d9_31 : decode prog_46_method_8_code 31 = .ok (.lushr, 1) := by decide +kernel
theorem d9_32 : decode prog_46_method_8_code 32 = .ok (.aload_n 0, 1) := by decide +kernel
theorem d9_33 : decode prog_46_method_8_code 33 = .ok (.getfield 16, 3) := by decide +kernel
theorem d9_36 : decode prog_46_method_8_code 36 = .ok (.iload 4, 2) := by decide +kernel
theorem d9_38 : decode prog_46_method_8_code 38 = .ok (.laload, 1) := by decide +kernel
theorem d9_39 : decode prog_46_method_8_code 39 = .ok (.land, 1) := by decide +kernel
theorem d9_40 : decode prog_46_method_8_code 40 = .ok (.l2i, 1) := by decide +kernel
theorem d9_41 : decode prog_46_method_8_code 41 = .ok (.iastore, 1) := by decide +kernel
theorem d9_42 : decode prog_46_method_8_code 42 = .ok (.iinc 4 1, 3) := by decide +kernel
theorem d9_45 : decode prog_46_method_8_code 45 = .ok (.goto (-42), 3) := by decide +kernel
theorem d9_48 : decode prog_46_method_8_code 48 = .ok (.return_, 1) := by decide +kernel
def Q9_4 (Z : State) (a0 a1 : Addr) (p2 : Int32) (a3 : Addr) (aw as am : Addr) (kw ks km k1 k3 : ClassId) (c0 c1 c2 c3 u0 u1 u2 u3 : Int32) (m0 m1 m2 m3 x0 x1 : Int64) (y0 y1 y2 y3 : Int32) (h0 : Heap) (n0 : Nat) (v : Option Value) (h : Heap) (L : List Loc) : Prop := v = none ∧ Fr n0 L ∧ ∃ (r0 r1 r2 r3 : Int32), (r0 = ((((([x0, x1].getD (p2 + c0).toNatClampNeg 0).toUInt64 >>> (u0 &&& 0x3f).toInt64.toUInt64).toInt64) &&& m0).toInt32) ∧ r1 = ((((([x0, x1].getD (p2 + c1).toNatClampNeg 0).toUInt64 >>> (u1 &&& 0x3f).toInt64.toUInt64).toInt64) &&& m1).toInt32) ∧ r2 = ((((([x0, x1].getD (p2 + c2).toNatClampNeg 0).toUInt64 >>> (u2 &&& 0x3f).toInt64.toUInt64).toInt64) &&& m2).toInt32) ∧ r3 = ((((([x0, x1].getD (p2 + c3).toNatClampNeg 0).toUInt64 >>> (u3 &&& 0x3f).toInt64.toUInt64).toInt64) &&& m3).toInt32)) ∧ Keep h0 h [a3] ∧ (Arv Z h a3 k3 .int (4 : Int32) [(.int r0), (.int r1), (.int r2), (.int r3)] (.int (0 : Int32)))
set_option maxRecDepth 65536 in
set_option maxHeartbeats 40000000 in
theorem rm9_4 (l : Launch) (Z : State) (A0 : Array Value) (hw : ∀ d ∈ tables_1, d.before A0 Z = true) (ws : List Jvm.Cond) (a0 : Addr) (a1 : Addr) (p2 : Int32) (a3 : Addr) (aw as am : Addr) (kw ks km k1 k3 : ClassId) (c0 c1 c2 c3 u0 u1 u2 u3 : Int32) (m0 m1 m2 m3 x0 x1 : Int64) (y0 y1 y2 y3 : Int32) (h0 : Heap) (n0 : Nat) (Z0 : n0 ≤ h0.size) (Fw : Fld Z h0 a0 "com/example/garantia/garantia/engine/StateLayout" "word" "[I" (.ref aw)) (Fs : Fld Z h0 a0 "com/example/garantia/garantia/engine/StateLayout" "shift" "[I" (.ref as)) (Fm : Fld Z h0 a0 "com/example/garantia/garantia/engine/StateLayout" "mask" "[J" (.ref am)) (V1 : Arv Z h0 aw kw .int (4 : Int32) [(.int c0), (.int c1), (.int c2), (.int c3)] (.int (0 : Int32))) (V2 : Arv Z h0 as ks .int (4 : Int32) [(.int u0), (.int u1), (.int u2), (.int u3)] (.int (0 : Int32))) (V3 : Arv Z h0 am km .long (4 : Int32) [(.long m0), (.long m1), (.long m2), (.long m3)] (.long (0 : Int64))) (V4 : Arv Z h0 a1 k1 .long (2 : Int32) [(.long x0), (.long x1)] (.long (0 : Int64))) (V5 : Arv Z h0 a3 k3 .int (4 : Int32) [(.int y0), (.int y1), (.int y2), (.int y3)] (.int (0 : Int32))) (xe0 : a0 ≠ a3) (xe1 : aw ≠ a3) (xe2 : as ≠ a3) (xe3 : am ≠ a3) (xe4 : a1 ≠ a3) (g0 : n0 ≤ a3) (hin0 : ¬ (p2 + c0) < 0 ∧ (p2 + c0) < (2 : Int32)) (hin1 : ¬ (p2 + c1) < 0 ∧ (p2 + c1) < (2 : Int32)) (hin2 : ¬ (p2 + c2) < 0 ∧ (p2 + c2) < (2 : Int32)) (hin3 : ¬ (p2 + c3) < 0 ∧ (p2 + c3) < (2 : Int32)) :
    MetFree l (⟨"com/example/garantia/garantia/engine/StateLayout", "unpack", "([JI[I)V"⟩ : MethodName) (head1 (Jvm.Cond.code (⟨"com/example/garantia/garantia/engine/StateLayout", "unpack", "([JI[I)V"⟩ : MethodName) prog_46_method_8_code 5 none :: ws) ({ frames := 0, cells := 0, slots := 0, locals := 0 } : Room)) (fun a U => a = #[(.ref a0), (.ref a1), (.int p2), (.ref a3)] ∧ Z.Warmed39 U.vm ∧ U.heap = h0) (fun _ _ _ _ _ => True) (fun _ U o U' => ∃ v L, o = .returned v ∧ Q9_4 Z a0 a1 p2 a3 aw as am kw ks km k1 k3 c0 c1 c2 c3 u0 u1 u2 u3 m0 m1 m2 m3 x0 x1 y0 y1 y2 y3 h0 n0 v U'.heap L ∧ FrameEnd U o U' L ({ frames := 0, cells := 0, slots := 0, locals := 0 } : Room).cells ({ frames := 0, cells := 0, slots := 0, locals := 0 } : Room).slots) := by
  refine MetFree.of_bodySF (plainFor_of_name pn_1) hisR ?_
  intro p e s m args below meth c s₁ Bd hml0 hP hK
  obtain ⟨rfl, hZ, hh⟩ := hP
  have hx := Bd.exec
  have hby := Bd.bytes
  have hml : c.maxLocals = 5 := hml0
  have hown : s.vm.findClass "com/example/garantia/garantia/engine/StateLayout" = some m.cls := findClass_of_methodNamed Bd.named
  have hnm := (name_of_methodNamed Bd.named Bd.method).1
  have X0 : Stand p l e ({ frames := 0, cells := 0, slots := 0, locals := 0 } : Room) s m #[(.ref a0), (.ref a1), (.int p2), (.ref a3)] below meth c s₁ [] 0 0 := Stand.of_body Bd
  have e0 : s₁.heap = h0 := by rw [← hh, Bd.state]; rfl
  have N0 := Fr.nil n0
  have kp0 : Keep h0 h0 [a3] := Keep.refl _ _
  obtain ⟨S0, hS0⟩ : ∃ z, z = s₁.setTop (entryFrame m #[(.ref a0), (.ref a1), (.int p2), (.ref a3)] 5) := ⟨_, rfl⟩
  have pre0 : Go p.tables e below S0 s₁ (mkF m 0 #[vR a0, vR a1, vI p2, vR a3, .unset] []) := fun t k => by rw [hS0]; exact castTop (ef_9_4 m a0 a1 p2 a3) k
  have pre1 : Go p.tables e below S0 s₁ (mkF m 6 #[vR a0, vR a1, vI p2, vR a3, vI (0 : Int32)] [(.ref a3), (.int (0 : Int32))]) := fun t k => pre0 t (by
    refine XS.iconst X0.here hx rfl (hb hby d9_0) ?_
    refine XS.istore X0.here hx rfl (hb hby d9_1) rfl (l' := #[vR a0, vR a1, vI p2, vR a3, vI (0 : Int32)]) rfl ?_
    refine XS.iload X0.here hx rfl (hb hby d9_3) rfl ?_
    show Steps p.tables e below (s₁.setTop (mkF m 5 #[vR a0, vR a1, vI p2, vR a3, vI (0 : Int32)] [(.int (0 : Int32))])) _
    refine XS.aloadN X0.here hx rfl (hb hby d9_5) rfl rfl ?_
    exact k)
  obtain ⟨cl2, Ar2, q2, S2, M2, H2, G2⟩ := id V5
  have pre3 : Go p.tables e below S0 s₁ (mkF m 16 #[vR a0, vR a1, vI p2, vR a3, vI (0 : Int32)] [(.ref a0), (.int p2), (.ref a1), (.int (0 : Int32)), (.ref a3)]) := fun t k => pre1 t (by
    refine X0.arraylength hx (by rw [e0]; exact Ar2.1) (State.isArrayOf_alike hZ.alike Ar2.2.1) (g := (mkF m 6 #[vR a0, vR a1, vI p2, vR a3, vI (0 : Int32)] [(.ref a3), (.int (0 : Int32))])) rfl rfl (hb hby d9_6) _ ?_
    rw [len_of S2 M2]
    refine XS.icmpNo X0.here hx rfl (hb hby d9_7) rfl (tlt (by decide : (0 : Int32) < (4 : Int32))).2.1 ?_
    refine XS.aloadN X0.here hx rfl (hb hby d9_10) rfl rfl ?_
    show Steps p.tables e below (s₁.setTop (mkF m 11 #[vR a0, vR a1, vI p2, vR a3, vI (0 : Int32)] [(.ref a3)])) _
    refine XS.iload X0.here hx rfl (hb hby d9_11) rfl ?_
    refine XS.aloadN X0.here hx rfl (hb hby d9_13) rfl rfl ?_
    refine XS.iloadN X0.here hx rfl (hb hby d9_14) rfl ?_
    show Steps p.tables e below (s₁.setTop (mkF m 15 #[vR a0, vR a1, vI p2, vR a3, vI (0 : Int32)] [(.int p2), (.ref a1), (.int (0 : Int32)), (.ref a3)])) _
    refine XS.aloadN X0.here hx rfl (hb hby d9_15) rfl rfl ?_
    exact k)
  obtain ⟨T4, X4, e4, st4⟩ := getF X0 hx hZ hown (host := "") (Or.inl (hw _ (List.mem_of_getElem? (i := 18) rfl))) Via.refl e0 Fw (g := (mkF m 16 #[vR a0, vR a1, vI p2, vR a3, vI (0 : Int32)] [(.ref a0), (.int p2), (.ref a1), (.int (0 : Int32)), (.ref a3)])) rfl rfl (hb hby d9_16)
  have pre4 : Go p.tables e below S0 T4 (mkF m 19 #[vR a0, vR a1, vI p2, vR a3, vI (0 : Int32)] [(.ref aw), (.int p2), (.ref a1), (.int (0 : Int32)), (.ref a3)]) := fun t k => pre3 t (st4 t k)
  have pre5 : Go p.tables e below S0 T4 (mkF m 21 #[vR a0, vR a1, vI p2, vR a3, vI (0 : Int32)] [(.int (0 : Int32)), (.ref aw), (.int p2), (.ref a1), (.int (0 : Int32)), (.ref a3)]) := fun t k => pre4 t (by
    refine XS.iload X4.here hx rfl (hb hby d9_19) rfl ?_
    exact k)
  obtain ⟨cl6, Ar6, q6, S6, M6, H6, G6⟩ := id V1
  have in6 : ¬ ((0 : Int32) < 0 ∨ cl6.slots.size ≤ ((0 : Int32)).toNatClampNeg) := inb_of S6 ⟨by decide, by decide⟩
  have at6 : cl6.slots[((0 : Int32)).toNatClampNeg]? = some (.int c0) := H6.at in6 rfl
  have pre7 : Go p.tables e below S0 T4 (mkF m 23 #[vR a0, vR a1, vI p2, vR a3, vI (0 : Int32)] [(.int (p2 + c0)), (.ref a1), (.int (0 : Int32)), (.ref a3)]) := fun t k => pre5 t (by
    refine X4.iaload hx (j := (0 : Int32)) (v := (.int c0)) (by rw [e4]; exact Ar6.1) (State.isArrayOf_alike hZ.alike Ar6.2.1) Ar6.2.2 in6 at6 (g := (mkF m 21 #[vR a0, vR a1, vI p2, vR a3, vI (0 : Int32)] [(.int (0 : Int32)), (.ref aw), (.int p2), (.ref a1), (.int (0 : Int32)), (.ref a3)])) rfl rfl (hb hby d9_21) _ ?_
    refine XS.iadd X4.here hx rfl (hb hby d9_22) rfl ?_
    exact k)
  obtain ⟨cl8, Ar8, q8, S8, M8, H8, G8⟩ := id V4
  have in8 : ¬ ((p2 + c0) < 0 ∨ cl8.slots.size ≤ ((p2 + c0)).toNatClampNeg) := inb_of S8 hin0
  have at8 : cl8.slots[((p2 + c0)).toNatClampNeg]? = some (.long ([x0, x1].getD ((p2 + c0)).toNatClampNeg 0)) := H8.at in8 (own_getJ [x0, x1] _)
  have pre9 : Go p.tables e below S0 T4 (mkF m 25 #[vR a0, vR a1, vI p2, vR a3, vI (0 : Int32)] [(.ref a0), (.long ([x0, x1].getD ((p2 + c0)).toNatClampNeg 0)), (.int (0 : Int32)), (.ref a3)]) := fun t k => pre7 t (by
    refine X4.laload hx (j := (p2 + c0)) (v := (.long ([x0, x1].getD ((p2 + c0)).toNatClampNeg 0))) (by rw [e4]; exact Ar8.1) (State.isArrayOf_alike hZ.alike Ar8.2.1) Ar8.2.2 in8 at8 (g := (mkF m 23 #[vR a0, vR a1, vI p2, vR a3, vI (0 : Int32)] [(.int (p2 + c0)), (.ref a1), (.int (0 : Int32)), (.ref a3)])) rfl rfl (hb hby d9_23) _ ?_
    refine XS.aloadN X4.here hx rfl (hb hby d9_24) rfl rfl ?_
    exact k)
  obtain ⟨T10, X10, e10, st10⟩ := getF X4 hx hZ hown (host := "") (Or.inl (hw _ (List.mem_of_getElem? (i := 20) rfl))) Via.refl e4 Fs (g := (mkF m 25 #[vR a0, vR a1, vI p2, vR a3, vI (0 : Int32)] [(.ref a0), (.long ([x0, x1].getD ((p2 + c0)).toNatClampNeg 0)), (.int (0 : Int32)), (.ref a3)])) rfl rfl (hb hby d9_25)
  have pre10 : Go p.tables e below S0 T10 (mkF m 28 #[vR a0, vR a1, vI p2, vR a3, vI (0 : Int32)] [(.ref as), (.long ([x0, x1].getD ((p2 + c0)).toNatClampNeg 0)), (.int (0 : Int32)), (.ref a3)]) := fun t k => pre9 t (st10 t k)
  have pre11 : Go p.tables e below S0 T10 (mkF m 30 #[vR a0, vR a1, vI p2, vR a3, vI (0 : Int32)] [(.int (0 : Int32)), (.ref as), (.long ([x0, x1].getD ((p2 + c0)).toNatClampNeg 0)), (.int (0 : Int32)), (.ref a3)]) := fun t k => pre10 t (by
    refine XS.iload X10.here hx rfl (hb hby d9_28) rfl ?_
    exact k)
  obtain ⟨cl12, Ar12, q12, S12, M12, H12, G12⟩ := id V2
  have in12 : ¬ ((0 : Int32) < 0 ∨ cl12.slots.size ≤ ((0 : Int32)).toNatClampNeg) := inb_of S12 ⟨by decide, by decide⟩
  have at12 : cl12.slots[((0 : Int32)).toNatClampNeg]? = some (.int u0) := H12.at in12 rfl
  have pre13 : Go p.tables e below S0 T10 (mkF m 33 #[vR a0, vR a1, vI p2, vR a3, vI (0 : Int32)] [(.ref a0), (.long ((([x0, x1].getD ((p2 + c0)).toNatClampNeg 0).toUInt64 >>> (u0 &&& 0x3f).toInt64.toUInt64).toInt64)), (.int (0 : Int32)), (.ref a3)]) := fun t k => pre11 t (by
    refine X10.iaload hx (j := (0 : Int32)) (v := (.int u0)) (by rw [e10]; exact Ar12.1) (State.isArrayOf_alike hZ.alike Ar12.2.1) Ar12.2.2 in12 at12 (g := (mkF m 30 #[vR a0, vR a1, vI p2, vR a3, vI (0 : Int32)] [(.int (0 : Int32)), (.ref as), (.long ([x0, x1].getD ((p2 + c0)).toNatClampNeg 0)), (.int (0 : Int32)), (.ref a3)])) rfl rfl (hb hby d9_30) _ ?_
    refine XS.lushr X10.here hx rfl (hb hby d9_31) rfl ?_
    refine XS.aloadN X10.here hx rfl (hb hby d9_32) rfl rfl ?_
    show Steps p.tables e below (T10.setTop (mkF m 33 #[vR a0, vR a1, vI p2, vR a3, vI (0 : Int32)] [(.ref a0), (.long ((([x0, x1].getD ((p2 + c0)).toNatClampNeg 0).toUInt64 >>> (u0 &&& 0x3f).toInt64.toUInt64).toInt64)), (.int (0 : Int32)), (.ref a3)])) _
    exact k)
  obtain ⟨T14, X14, e14, st14⟩ := getF X10 hx hZ hown (host := "") (Or.inl (hw _ (List.mem_of_getElem? (i := 22) rfl))) Via.refl e10 Fm (g := (mkF m 33 #[vR a0, vR a1, vI p2, vR a3, vI (0 : Int32)] [(.ref a0), (.long ((([x0, x1].getD ((p2 + c0)).toNatClampNeg 0).toUInt64 >>> (u0 &&& 0x3f).toInt64.toUInt64).toInt64)), (.int (0 : Int32)), (.ref a3)])) rfl rfl (hb hby d9_33)
  have pre14 : Go p.tables e below S0 T14 (mkF m 36 #[vR a0, vR a1, vI p2, vR a3, vI (0 : Int32)] [(.ref am), (.long ((([x0, x1].getD ((p2 + c0)).toNatClampNeg 0).toUInt64 >>> (u0 &&& 0x3f).toInt64.toUInt64).toInt64)), (.int (0 : Int32)), (.ref a3)]) := fun t k => pre13 t (st14 t k)
  have pre15 : Go p.tables e below S0 T14 (mkF m 38 #[vR a0, vR a1, vI p2, vR a3, vI (0 : Int32)] [(.int (0 : Int32)), (.ref am), (.long ((([x0, x1].getD ((p2 + c0)).toNatClampNeg 0).toUInt64 >>> (u0 &&& 0x3f).toInt64.toUInt64).toInt64)), (.int (0 : Int32)), (.ref a3)]) := fun t k => pre14 t (by
    refine XS.iload X14.here hx rfl (hb hby d9_36) rfl ?_
    exact k)
  obtain ⟨cl16, Ar16, q16, S16, M16, H16, G16⟩ := id V3
  have in16 : ¬ ((0 : Int32) < 0 ∨ cl16.slots.size ≤ ((0 : Int32)).toNatClampNeg) := inb_of S16 ⟨by decide, by decide⟩
  have at16 : cl16.slots[((0 : Int32)).toNatClampNeg]? = some (.long m0) := H16.at in16 rfl
  have pre17 : Go p.tables e below S0 T14 (mkF m 41 #[vR a0, vR a1, vI p2, vR a3, vI (0 : Int32)] [(.int ((((([x0, x1].getD ((p2 + c0)).toNatClampNeg 0).toUInt64 >>> (u0 &&& 0x3f).toInt64.toUInt64).toInt64) &&& m0).toInt32)), (.int (0 : Int32)), (.ref a3)]) := fun t k => pre15 t (by
    refine X14.laload hx (j := (0 : Int32)) (v := (.long m0)) (by rw [e14]; exact Ar16.1) (State.isArrayOf_alike hZ.alike Ar16.2.1) Ar16.2.2 in16 at16 (g := (mkF m 38 #[vR a0, vR a1, vI p2, vR a3, vI (0 : Int32)] [(.int (0 : Int32)), (.ref am), (.long ((([x0, x1].getD ((p2 + c0)).toNatClampNeg 0).toUInt64 >>> (u0 &&& 0x3f).toInt64.toUInt64).toInt64)), (.int (0 : Int32)), (.ref a3)])) rfl rfl (hb hby d9_38) _ ?_
    refine XS.land X14.here hx rfl (hb hby d9_39) rfl ?_
    refine XS.l2i X14.here hx rfl (hb hby d9_40) rfl ?_
    show Steps p.tables e below (T14.setTop (mkF m 41 #[vR a0, vR a1, vI p2, vR a3, vI (0 : Int32)] [(.int ((((([x0, x1].getD ((p2 + c0)).toNatClampNeg 0).toUInt64 >>> (u0 &&& 0x3f).toInt64.toUInt64).toInt64) &&& m0).toInt32)), (.int (0 : Int32)), (.ref a3)])) _
    exact k)
  obtain ⟨cl18, Ar18, q18, S18, M18, H18, G18⟩ := id V5
  have in18 : ¬ ((0 : Int32) < 0 ∨ cl18.slots.size ≤ ((0 : Int32)).toNatClampNeg) := inb_of S18 ⟨by decide, by decide⟩
  obtain ⟨T18, h18, X18, e18, W18, st18⟩ := stI X14 hx hZ e14 Ar18 (j := (0 : Int32)) in18 (g := (mkF m 41 #[vR a0, vR a1, vI p2, vR a3, vI (0 : Int32)] [(.int ((((([x0, x1].getD ((p2 + c0)).toNatClampNeg 0).toUInt64 >>> (u0 &&& 0x3f).toInt64.toUInt64).toInt64) &&& m0).toInt32)), (.int (0 : Int32)), (.ref a3)])) rfl rfl (hb hby d9_41)
  have pre18 : Go p.tables e below S0 T18 (mkF m 42 #[vR a0, vR a1, vI p2, vR a3, vI (0 : Int32)] []) := fun t k => pre17 t (st18 t k)
  obtain ⟨lo18, N18, X18⟩ : ∃ lo, Fr n0 lo ∧ Stand p l e ({ frames := 0, cells := 0, slots := 0, locals := 0 } : Room) s m #[(.ref a0), (.ref a1), (.int p2), (.ref a3)] below meth c T18 lo 0 0 := ⟨_, Fr.snoc X18 N0 g0, X18⟩
  have av18 : Arv Z h18 a3 k3 .int (4 : Int32) [(.int ((((([x0, x1].getD ((p2 + c0)).toNatClampNeg 0).toUInt64 >>> (u0 &&& 0x3f).toInt64.toUInt64).toInt64) &&& m0).toInt32)), (.int y1), (.int y2), (.int y3)] (.int (0 : Int32)) := Arv.set Ar18 q18 S18 M18 H18 G18 rfl W18 0 rfl (Nat.le_of_ble_eq_true rfl)
  have f19_1 := Fld.other W18 Fw (Or.inl xe0)
  have f19_2 := Fld.other W18 Fs (Or.inl xe0)
  have f19_3 := Fld.other W18 Fm (Or.inl xe0)
  have f19_4 := V1.other W18 xe1
  have f19_5 := V2.other W18 xe2
  have f19_6 := V3.other W18 xe3
  have f19_7 := V4.other W18 xe4
  have zz20 : n0 ≤ h18.size := Nat.le_trans Z0 (Keep.of_wr W18).1
  have kp21 : Keep h0 h18 [a3] := kp0.wr W18 (Or.inl (List.mem_of_getElem? (i := 0) rfl))
  have pre22 : Go p.tables e below S0 T18 (mkF m 6 #[vR a0, vR a1, vI p2, vR a3, vI (1 : Int32)] [(.ref a3), (.int (1 : Int32))]) := fun t k => pre18 t (by
    refine XS.iinc X18.here hx rfl (hb hby d9_42) rfl (l' := #[vR a0, vR a1, vI p2, vR a3, vI (1 : Int32)]) rfl ?_
    refine XS.goto X18.here hx rfl (pc0 := 45) (pc' := 3) rfl (hb hby d9_45) (by decide) (by decide) ?_
    refine XS.iload X18.here hx rfl (hb hby d9_3) rfl ?_
    show Steps p.tables e below (T18.setTop (mkF m 5 #[vR a0, vR a1, vI p2, vR a3, vI (1 : Int32)] [(.int (1 : Int32))])) _
    refine XS.aloadN X18.here hx rfl (hb hby d9_5) rfl rfl ?_
    exact k)
  obtain ⟨cl23, Ar23, q23, S23, M23, H23, G23⟩ := id av18
  have pre24 : Go p.tables e below S0 T18 (mkF m 16 #[vR a0, vR a1, vI p2, vR a3, vI (1 : Int32)] [(.ref a0), (.int p2), (.ref a1), (.int (1 : Int32)), (.ref a3)]) := fun t k => pre22 t (by
    refine X18.arraylength hx (by rw [e18]; exact Ar23.1) (State.isArrayOf_alike hZ.alike Ar23.2.1) (g := (mkF m 6 #[vR a0, vR a1, vI p2, vR a3, vI (1 : Int32)] [(.ref a3), (.int (1 : Int32))])) rfl rfl (hb hby d9_6) _ ?_
    rw [len_of S23 M23]
    refine XS.icmpNo X18.here hx rfl (hb hby d9_7) rfl (tlt (by decide : (1 : Int32) < (4 : Int32))).2.1 ?_
    refine XS.aloadN X18.here hx rfl (hb hby d9_10) rfl rfl ?_
    show Steps p.tables e below (T18.setTop (mkF m 11 #[vR a0, vR a1, vI p2, vR a3, vI (1 : Int32)] [(.ref a3)])) _
    refine XS.iload X18.here hx rfl (hb hby d9_11) rfl ?_
    refine XS.aloadN X18.here hx rfl (hb hby d9_13) rfl rfl ?_
    refine XS.iloadN X18.here hx rfl (hb hby d9_14) rfl ?_
    show Steps p.tables e below (T18.setTop (mkF m 15 #[vR a0, vR a1, vI p2, vR a3, vI (1 : Int32)] [(.int p2), (.ref a1), (.int (1 : Int32)), (.ref a3)])) _
    refine XS.aloadN X18.here hx rfl (hb hby d9_15) rfl rfl ?_
    exact k)
  obtain ⟨T25, X25, e25, st25⟩ := getF X18 hx hZ hown (host := "") (Or.inl (hw _ (List.mem_of_getElem? (i := 18) rfl))) Via.refl e18 f19_1 (g := (mkF m 16 #[vR a0, vR a1, vI p2, vR a3, vI (1 : Int32)] [(.ref a0), (.int p2), (.ref a1), (.int (1 : Int32)), (.ref a3)])) rfl rfl (hb hby d9_16)
  have pre25 : Go p.tables e below S0 T25 (mkF m 19 #[vR a0, vR a1, vI p2, vR a3, vI (1 : Int32)] [(.ref aw), (.int p2), (.ref a1), (.int (1 : Int32)), (.ref a3)]) := fun t k => pre24 t (st25 t k)
  have pre26 : Go p.tables e below S0 T25 (mkF m 21 #[vR a0, vR a1, vI p2, vR a3, vI (1 : Int32)] [(.int (1 : Int32)), (.ref aw), (.int p2), (.ref a1), (.int (1 : Int32)), (.ref a3)]) := fun t k => pre25 t (by
    refine XS.iload X25.here hx rfl (hb hby d9_19) rfl ?_
    exact k)
  obtain ⟨cl27, Ar27, q27, S27, M27, H27, G27⟩ := id f19_4
  have in27 : ¬ ((1 : Int32) < 0 ∨ cl27.slots.size ≤ ((1 : Int32)).toNatClampNeg) := inb_of S27 ⟨by decide, by decide⟩
  have at27 : cl27.slots[((1 : Int32)).toNatClampNeg]? = some (.int c1) := H27.at in27 rfl
  have pre28 : Go p.tables e below S0 T25 (mkF m 23 #[vR a0, vR a1, vI p2, vR a3, vI (1 : Int32)] [(.int (p2 + c1)), (.ref a1), (.int (1 : Int32)), (.ref a3)]) := fun t k => pre26 t (by
    refine X25.iaload hx (j := (1 : Int32)) (v := (.int c1)) (by rw [e25]; exact Ar27.1) (State.isArrayOf_alike hZ.alike Ar27.2.1) Ar27.2.2 in27 at27 (g := (mkF m 21 #[vR a0, vR a1, vI p2, vR a3, vI (1 : Int32)] [(.int (1 : Int32)), (.ref aw), (.int p2), (.ref a1), (.int (1 : Int32)), (.ref a3)])) rfl rfl (hb hby d9_21) _ ?_
    refine XS.iadd X25.here hx rfl (hb hby d9_22) rfl ?_
    exact k)
  obtain ⟨cl29, Ar29, q29, S29, M29, H29, G29⟩ := id f19_7
  have in29 : ¬ ((p2 + c1) < 0 ∨ cl29.slots.size ≤ ((p2 + c1)).toNatClampNeg) := inb_of S29 hin1
  have at29 : cl29.slots[((p2 + c1)).toNatClampNeg]? = some (.long ([x0, x1].getD ((p2 + c1)).toNatClampNeg 0)) := H29.at in29 (own_getJ [x0, x1] _)
  have pre30 : Go p.tables e below S0 T25 (mkF m 25 #[vR a0, vR a1, vI p2, vR a3, vI (1 : Int32)] [(.ref a0), (.long ([x0, x1].getD ((p2 + c1)).toNatClampNeg 0)), (.int (1 : Int32)), (.ref a3)]) := fun t k => pre28 t (by
    refine X25.laload hx (j := (p2 + c1)) (v := (.long ([x0, x1].getD ((p2 + c1)).toNatClampNeg 0))) (by rw [e25]; exact Ar29.1) (State.isArrayOf_alike hZ.alike Ar29.2.1) Ar29.2.2 in29 at29 (g := (mkF m 23 #[vR a0, vR a1, vI p2, vR a3, vI (1 : Int32)] [(.int (p2 + c1)), (.ref a1), (.int (1 : Int32)), (.ref a3)])) rfl rfl (hb hby d9_23) _ ?_
    refine XS.aloadN X25.here hx rfl (hb hby d9_24) rfl rfl ?_
    exact k)
  obtain ⟨T31, X31, e31, st31⟩ := getF X25 hx hZ hown (host := "") (Or.inl (hw _ (List.mem_of_getElem? (i := 20) rfl))) Via.refl e25 f19_2 (g := (mkF m 25 #[vR a0, vR a1, vI p2, vR a3, vI (1 : Int32)] [(.ref a0), (.long ([x0, x1].getD ((p2 + c1)).toNatClampNeg 0)), (.int (1 : Int32)), (.ref a3)])) rfl rfl (hb hby d9_25)
  have pre31 : Go p.tables e below S0 T31 (mkF m 28 #[vR a0, vR a1, vI p2, vR a3, vI (1 : Int32)] [(.ref as), (.long ([x0, x1].getD ((p2 + c1)).toNatClampNeg 0)), (.int (1 : Int32)), (.ref a3)]) := fun t k => pre30 t (st31 t k)
  have pre32 : Go p.tables e below S0 T31 (mkF m 30 #[vR a0, vR a1, vI p2, vR a3, vI (1 : Int32)] [(.int (1 : Int32)), (.ref as), (.long ([x0, x1].getD ((p2 + c1)).toNatClampNeg 0)), (.int (1 : Int32)), (.ref a3)]) := fun t k => pre31 t (by
    refine XS.iload X31.here hx rfl (hb hby d9_28) rfl ?_
    exact k)
  obtain ⟨cl33, Ar33, q33, S33, M33, H33, G33⟩ := id f19_5
  have in33 : ¬ ((1 : Int32) < 0 ∨ cl33.slots.size ≤ ((1 : Int32)).toNatClampNeg) := inb_of S33 ⟨by decide, by decide⟩
  have at33 : cl33.slots[((1 : Int32)).toNatClampNeg]? = some (.int u1) := H33.at in33 rfl
  have pre34 : Go p.tables e below S0 T31 (mkF m 33 #[vR a0, vR a1, vI p2, vR a3, vI (1 : Int32)] [(.ref a0), (.long ((([x0, x1].getD ((p2 + c1)).toNatClampNeg 0).toUInt64 >>> (u1 &&& 0x3f).toInt64.toUInt64).toInt64)), (.int (1 : Int32)), (.ref a3)]) := fun t k => pre32 t (by
    refine X31.iaload hx (j := (1 : Int32)) (v := (.int u1)) (by rw [e31]; exact Ar33.1) (State.isArrayOf_alike hZ.alike Ar33.2.1) Ar33.2.2 in33 at33 (g := (mkF m 30 #[vR a0, vR a1, vI p2, vR a3, vI (1 : Int32)] [(.int (1 : Int32)), (.ref as), (.long ([x0, x1].getD ((p2 + c1)).toNatClampNeg 0)), (.int (1 : Int32)), (.ref a3)])) rfl rfl (hb hby d9_30) _ ?_
    refine XS.lushr X31.here hx rfl (hb hby d9_31) rfl ?_
    refine XS.aloadN X31.here hx rfl (hb hby d9_32) rfl rfl ?_
    show Steps p.tables e below (T31.setTop (mkF m 33 #[vR a0, vR a1, vI p2, vR a3, vI (1 : Int32)] [(.ref a0), (.long ((([x0, x1].getD ((p2 + c1)).toNatClampNeg 0).toUInt64 >>> (u1 &&& 0x3f).toInt64.toUInt64).toInt64)), (.int (1 : Int32)), (.ref a3)])) _
    exact k)
  obtain ⟨T35, X35, e35, st35⟩ := getF X31 hx hZ hown (host := "") (Or.inl (hw _ (List.mem_of_getElem? (i := 22) rfl))) Via.refl e31 f19_3 (g := (mkF m 33 #[vR a0, vR a1, vI p2, vR a3, vI (1 : Int32)] [(.ref a0), (.long ((([x0, x1].getD ((p2 + c1)).toNatClampNeg 0).toUInt64 >>> (u1 &&& 0x3f).toInt64.toUInt64).toInt64)), (.int (1 : Int32)), (.ref a3)])) rfl rfl (hb hby d9_33)
  have pre35 : Go p.tables e below S0 T35 (mkF m 36 #[vR a0, vR a1, vI p2, vR a3, vI (1 : Int32)] [(.ref am), (.long ((([x0, x1].getD ((p2 + c1)).toNatClampNeg 0).toUInt64 >>> (u1 &&& 0x3f).toInt64.toUInt64).toInt64)), (.int (1 : Int32)), (.ref a3)]) := fun t k => pre34 t (st35 t k)
  have pre36 : Go p.tables e below S0 T35 (mkF m 38 #[vR a0, vR a1, vI p2, vR a3, vI (1 : Int32)] [(.int (1 : Int32)), (.ref am), (.long ((([x0, x1].getD ((p2 + c1)).toNatClampNeg 0).toUInt64 >>> (u1 &&& 0x3f).toInt64.toUInt64).toInt64)), (.int (1 : Int32)), (.ref a3)]) := fun t k => pre35 t (by
    refine XS.iload X35.here hx rfl (hb hby d9_36) rfl ?_
    exact k)
  obtain ⟨cl37, Ar37, q37, S37, M37, H37, G37⟩ := id f19_6
  have in37 : ¬ ((1 : Int32) < 0 ∨ cl37.slots.size ≤ ((1 : Int32)).toNatClampNeg) := inb_of S37 ⟨by decide, by decide⟩
  have at37 : cl37.slots[((1 : Int32)).toNatClampNeg]? = some (.long m1) := H37.at in37 rfl
  have pre38 : Go p.tables e below S0 T35 (mkF m 41 #[vR a0, vR a1, vI p2, vR a3, vI (1 : Int32)] [(.int ((((([x0, x1].getD ((p2 + c1)).toNatClampNeg 0).toUInt64 >>> (u1 &&& 0x3f).toInt64.toUInt64).toInt64) &&& m1).toInt32)), (.int (1 : Int32)), (.ref a3)]) := fun t k => pre36 t (by
    refine X35.laload hx (j := (1 : Int32)) (v := (.long m1)) (by rw [e35]; exact Ar37.1) (State.isArrayOf_alike hZ.alike Ar37.2.1) Ar37.2.2 in37 at37 (g := (mkF m 38 #[vR a0, vR a1, vI p2, vR a3, vI (1 : Int32)] [(.int (1 : Int32)), (.ref am), (.long ((([x0, x1].getD ((p2 + c1)).toNatClampNeg 0).toUInt64 >>> (u1 &&& 0x3f).toInt64.toUInt64).toInt64)), (.int (1 : Int32)), (.ref a3)])) rfl rfl (hb hby d9_38) _ ?_
    refine XS.land X35.here hx rfl (hb hby d9_39) rfl ?_
    refine XS.l2i X35.here hx rfl (hb hby d9_40) rfl ?_
    show Steps p.tables e below (T35.setTop (mkF m 41 #[vR a0, vR a1, vI p2, vR a3, vI (1 : Int32)] [(.int ((((([x0, x1].getD ((p2 + c1)).toNatClampNeg 0).toUInt64 >>> (u1 &&& 0x3f).toInt64.toUInt64).toInt64) &&& m1).toInt32)), (.int (1 : Int32)), (.ref a3)])) _
    exact k)
  obtain ⟨cl39, Ar39, q39, S39, M39, H39, G39⟩ := id av18
  have in39 : ¬ ((1 : Int32) < 0 ∨ cl39.slots.size ≤ ((1 : Int32)).toNatClampNeg) := inb_of S39 ⟨by decide, by decide⟩
  obtain ⟨T39, h39, X39, e39, W39, st39⟩ := stI X35 hx hZ e35 Ar39 (j := (1 : Int32)) in39 (g := (mkF m 41 #[vR a0, vR a1, vI p2, vR a3, vI (1 : Int32)] [(.int ((((([x0, x1].getD ((p2 + c1)).toNatClampNeg 0).toUInt64 >>> (u1 &&& 0x3f).toInt64.toUInt64).toInt64) &&& m1).toInt32)), (.int (1 : Int32)), (.ref a3)])) rfl rfl (hb hby d9_41)
  have pre39 : Go p.tables e below S0 T39 (mkF m 42 #[vR a0, vR a1, vI p2, vR a3, vI (1 : Int32)] []) := fun t k => pre38 t (st39 t k)
  obtain ⟨lo39, N39, X39⟩ : ∃ lo, Fr n0 lo ∧ Stand p l e ({ frames := 0, cells := 0, slots := 0, locals := 0 } : Room) s m #[(.ref a0), (.ref a1), (.int p2), (.ref a3)] below meth c T39 lo 0 0 := ⟨_, Fr.snoc X39 N18 g0, X39⟩
  have av39 : Arv Z h39 a3 k3 .int (4 : Int32) [(.int ((((([x0, x1].getD ((p2 + c0)).toNatClampNeg 0).toUInt64 >>> (u0 &&& 0x3f).toInt64.toUInt64).toInt64) &&& m0).toInt32)), (.int ((((([x0, x1].getD ((p2 + c1)).toNatClampNeg 0).toUInt64 >>> (u1 &&& 0x3f).toInt64.toUInt64).toInt64) &&& m1).toInt32)), (.int y2), (.int y3)] (.int (0 : Int32)) := Arv.set Ar39 q39 S39 M39 H39 G39 rfl W39 1 rfl (Nat.le_of_ble_eq_true rfl)
  have f40_1 := Fld.other W39 f19_1 (Or.inl xe0)
  have f40_2 := Fld.other W39 f19_2 (Or.inl xe0)
  have f40_3 := Fld.other W39 f19_3 (Or.inl xe0)
  have f40_4 := f19_4.other W39 xe1
  have f40_5 := f19_5.other W39 xe2
  have f40_6 := f19_6.other W39 xe3
  have f40_7 := f19_7.other W39 xe4
  have zz41 : n0 ≤ h39.size := Nat.le_trans zz20 (Keep.of_wr W39).1
  have kp42 : Keep h0 h39 [a3] := kp21.wr W39 (Or.inl (List.mem_of_getElem? (i := 0) rfl))
  have pre43 : Go p.tables e below S0 T39 (mkF m 6 #[vR a0, vR a1, vI p2, vR a3, vI (2 : Int32)] [(.ref a3), (.int (2 : Int32))]) := fun t k => pre39 t (by
    refine XS.iinc X39.here hx rfl (hb hby d9_42) rfl (l' := #[vR a0, vR a1, vI p2, vR a3, vI (2 : Int32)]) rfl ?_
    refine XS.goto X39.here hx rfl (pc0 := 45) (pc' := 3) rfl (hb hby d9_45) (by decide) (by decide) ?_
    refine XS.iload X39.here hx rfl (hb hby d9_3) rfl ?_
    show Steps p.tables e below (T39.setTop (mkF m 5 #[vR a0, vR a1, vI p2, vR a3, vI (2 : Int32)] [(.int (2 : Int32))])) _
    refine XS.aloadN X39.here hx rfl (hb hby d9_5) rfl rfl ?_
    exact k)
  obtain ⟨cl44, Ar44, q44, S44, M44, H44, G44⟩ := id av39
  have pre45 : Go p.tables e below S0 T39 (mkF m 16 #[vR a0, vR a1, vI p2, vR a3, vI (2 : Int32)] [(.ref a0), (.int p2), (.ref a1), (.int (2 : Int32)), (.ref a3)]) := fun t k => pre43 t (by
    refine X39.arraylength hx (by rw [e39]; exact Ar44.1) (State.isArrayOf_alike hZ.alike Ar44.2.1) (g := (mkF m 6 #[vR a0, vR a1, vI p2, vR a3, vI (2 : Int32)] [(.ref a3), (.int (2 : Int32))])) rfl rfl (hb hby d9_6) _ ?_
    rw [len_of S44 M44]
    refine XS.icmpNo X39.here hx rfl (hb hby d9_7) rfl (tlt (by decide : (2 : Int32) < (4 : Int32))).2.1 ?_
    refine XS.aloadN X39.here hx rfl (hb hby d9_10) rfl rfl ?_
    show Steps p.tables e below (T39.setTop (mkF m 11 #[vR a0, vR a1, vI p2, vR a3, vI (2 : Int32)] [(.ref a3)])) _
    refine XS.iload X39.here hx rfl (hb hby d9_11) rfl ?_
    refine XS.aloadN X39.here hx rfl (hb hby d9_13) rfl rfl ?_
    refine XS.iloadN X39.here hx rfl (hb hby d9_14) rfl ?_
    show Steps p.tables e below (T39.setTop (mkF m 15 #[vR a0, vR a1, vI p2, vR a3, vI (2 : Int32)] [(.int p2), (.ref a1), (.int (2 : Int32)), (.ref a3)])) _
    refine XS.aloadN X39.here hx rfl (hb hby d9_15) rfl rfl ?_
    exact k)
  obtain ⟨T46, X46, e46, st46⟩ := getF X39 hx hZ hown (host := "") (Or.inl (hw _ (List.mem_of_getElem? (i := 18) rfl))) Via.refl e39 f40_1 (g := (mkF m 16 #[vR a0, vR a1, vI p2, vR a3, vI (2 : Int32)] [(.ref a0), (.int p2), (.ref a1), (.int (2 : Int32)), (.ref a3)])) rfl rfl (hb hby d9_16)
  have pre46 : Go p.tables e below S0 T46 (mkF m 19 #[vR a0, vR a1, vI p2, vR a3, vI (2 : Int32)] [(.ref aw), (.int p2), (.ref a1), (.int (2 : Int32)), (.ref a3)]) := fun t k => pre45 t (st46 t k)
  have pre47 : Go p.tables e below S0 T46 (mkF m 21 #[vR a0, vR a1, vI p2, vR a3, vI (2 : Int32)] [(.int (2 : Int32)), (.ref aw), (.int p2), (.ref a1), (.int (2 : Int32)), (.ref a3)]) := fun t k => pre46 t (by
    refine XS.iload X46.here hx rfl (hb hby d9_19) rfl ?_
    exact k)
  obtain ⟨cl48, Ar48, q48, S48, M48, H48, G48⟩ := id f40_4
  have in48 : ¬ ((2 : Int32) < 0 ∨ cl48.slots.size ≤ ((2 : Int32)).toNatClampNeg) := inb_of S48 ⟨by decide, by decide⟩
  have at48 : cl48.slots[((2 : Int32)).toNatClampNeg]? = some (.int c2) := H48.at in48 rfl
  have pre49 : Go p.tables e below S0 T46 (mkF m 23 #[vR a0, vR a1, vI p2, vR a3, vI (2 : Int32)] [(.int (p2 + c2)), (.ref a1), (.int (2 : Int32)), (.ref a3)]) := fun t k => pre47 t (by
    refine X46.iaload hx (j := (2 : Int32)) (v := (.int c2)) (by rw [e46]; exact Ar48.1) (State.isArrayOf_alike hZ.alike Ar48.2.1) Ar48.2.2 in48 at48 (g := (mkF m 21 #[vR a0, vR a1, vI p2, vR a3, vI (2 : Int32)] [(.int (2 : Int32)), (.ref aw), (.int p2), (.ref a1), (.int (2 : Int32)), (.ref a3)])) rfl rfl (hb hby d9_21) _ ?_
    refine XS.iadd X46.here hx rfl (hb hby d9_22) rfl ?_
    exact k)
  obtain ⟨cl50, Ar50, q50, S50, M50, H50, G50⟩ := id f40_7
  have in50 : ¬ ((p2 + c2) < 0 ∨ cl50.slots.size ≤ ((p2 + c2)).toNatClampNeg) := inb_of S50 hin2
  have at50 : cl50.slots[((p2 + c2)).toNatClampNeg]? = some (.long ([x0, x1].getD ((p2 + c2)).toNatClampNeg 0)) := H50.at in50 (own_getJ [x0, x1] _)
  have pre51 : Go p.tables e below S0 T46 (mkF m 25 #[vR a0, vR a1, vI p2, vR a3, vI (2 : Int32)] [(.ref a0), (.long ([x0, x1].getD ((p2 + c2)).toNatClampNeg 0)), (.int (2 : Int32)), (.ref a3)]) := fun t k => pre49 t (by
    refine X46.laload hx (j := (p2 + c2)) (v := (.long ([x0, x1].getD ((p2 + c2)).toNatClampNeg 0))) (by rw [e46]; exact Ar50.1) (State.isArrayOf_alike hZ.alike Ar50.2.1) Ar50.2.2 in50 at50 (g := (mkF m 23 #[vR a0, vR a1, vI p2, vR a3, vI (2 : Int32)] [(.int (p2 + c2)), (.ref a1), (.int (2 : Int32)), (.ref a3)])) rfl rfl (hb hby d9_23) _ ?_
    refine XS.aloadN X46.here hx rfl (hb hby d9_24) rfl rfl ?_
    exact k)
  obtain ⟨T52, X52, e52, st52⟩ := getF X46 hx hZ hown (host := "") (Or.inl (hw _ (List.mem_of_getElem? (i := 20) rfl))) Via.refl e46 f40_2 (g := (mkF m 25 #[vR a0, vR a1, vI p2, vR a3, vI (2 : Int32)] [(.ref a0), (.long ([x0, x1].getD ((p2 + c2)).toNatClampNeg 0)), (.int (2 : Int32)), (.ref a3)])) rfl rfl (hb hby d9_25)
  have pre52 : Go p.tables e below S0 T52 (mkF m 28 #[vR a0, vR a1, vI p2, vR a3, vI (2 : Int32)] [(.ref as), (.long ([x0, x1].getD ((p2 + c2)).toNatClampNeg 0)), (.int (2 : Int32)), (.ref a3)]) := fun t k => pre51 t (st52 t k)
  have pre53 : Go p.tables e below S0 T52 (mkF m 30 #[vR a0, vR a1, vI p2, vR a3, vI (2 : Int32)] [(.int (2 : Int32)), (.ref as), (.long ([x0, x1].getD ((p2 + c2)).toNatClampNeg 0)), (.int (2 : Int32)), (.ref a3)]) := fun t k => pre52 t (by
    refine XS.iload X52.here hx rfl (hb hby d9_28) rfl ?_
    exact k)
  obtain ⟨cl54, Ar54, q54, S54, M54, H54, G54⟩ := id f40_5
  have in54 : ¬ ((2 : Int32) < 0 ∨ cl54.slots.size ≤ ((2 : Int32)).toNatClampNeg) := inb_of S54 ⟨by decide, by decide⟩
  have at54 : cl54.slots[((2 : Int32)).toNatClampNeg]? = some (.int u2) := H54.at in54 rfl
  have pre55 : Go p.tables e below S0 T52 (mkF m 33 #[vR a0, vR a1, vI p2, vR a3, vI (2 : Int32)] [(.ref a0), (.long ((([x0, x1].getD ((p2 + c2)).toNatClampNeg 0).toUInt64 >>> (u2 &&& 0x3f).toInt64.toUInt64).toInt64)), (.int (2 : Int32)), (.ref a3)]) := fun t k => pre53 t (by
    refine X52.iaload hx (j := (2 : Int32)) (v := (.int u2)) (by rw [e52]; exact Ar54.1) (State.isArrayOf_alike hZ.alike Ar54.2.1) Ar54.2.2 in54 at54 (g := (mkF m 30 #[vR a0, vR a1, vI p2, vR a3, vI (2 : Int32)] [(.int (2 : Int32)), (.ref as), (.long ([x0, x1].getD ((p2 + c2)).toNatClampNeg 0)), (.int (2 : Int32)), (.ref a3)])) rfl rfl (hb hby d9_30) _ ?_
    refine XS.lushr X52.here hx rfl (hb hby d9_31) rfl ?_
    refine XS.aloadN X52.here hx rfl (hb hby d9_32) rfl rfl ?_
    show Steps p.tables e below (T52.setTop (mkF m 33 #[vR a0, vR a1, vI p2, vR a3, vI (2 : Int32)] [(.ref a0), (.long ((([x0, x1].getD ((p2 + c2)).toNatClampNeg 0).toUInt64 >>> (u2 &&& 0x3f).toInt64.toUInt64).toInt64)), (.int (2 : Int32)), (.ref a3)])) _
    exact k)
  obtain ⟨T56, X56, e56, st56⟩ := getF X52 hx hZ hown (host := "") (Or.inl (hw _ (List.mem_of_getElem? (i := 22) rfl))) Via.refl e52 f40_3 (g := (mkF m 33 #[vR a0, vR a1, vI p2, vR a3, vI (2 : Int32)] [(.ref a0), (.long ((([x0, x1].getD ((p2 + c2)).toNatClampNeg 0).toUInt64 >>> (u2 &&& 0x3f).toInt64.toUInt64).toInt64)), (.int (2 : Int32)), (.ref a3)])) rfl rfl (hb hby d9_33)
  have pre56 : Go p.tables e below S0 T56 (mkF m 36 #[vR a0, vR a1, vI p2, vR a3, vI (2 : Int32)] [(.ref am), (.long ((([x0, x1].getD ((p2 + c2)).toNatClampNeg 0).toUInt64 >>> (u2 &&& 0x3f).toInt64.toUInt64).toInt64)), (.int (2 : Int32)), (.ref a3)]) := fun t k => pre55 t (st56 t k)
  have pre57 : Go p.tables e below S0 T56 (mkF m 38 #[vR a0, vR a1, vI p2, vR a3, vI (2 : Int32)] [(.int (2 : Int32)), (.ref am), (.long ((([x0, x1].getD ((p2 + c2)).toNatClampNeg 0).toUInt64 >>> (u2 &&& 0x3f).toInt64.toUInt64).toInt64)), (.int (2 : Int32)), (.ref a3)]) := fun t k => pre56 t (by
    refine XS.iload X56.here hx rfl (hb hby d9_36) rfl ?_
    exact k)
  obtain ⟨cl58, Ar58, q58, S58, M58, H58, G58⟩ := id f40_6
  have in58 : ¬ ((2 : Int32) < 0 ∨ cl58.slots.size ≤ ((2 : Int32)).toNatClampNeg) := inb_of S58 ⟨by decide, by decide⟩
  have at58 : cl58.slots[((2 : Int32)).toNatClampNeg]? = some (.long m2) := H58.at in58 rfl
  have pre59 : Go p.tables e below S0 T56 (mkF m 41 #[vR a0, vR a1, vI p2, vR a3, vI (2 : Int32)] [(.int ((((([x0, x1].getD ((p2 + c2)).toNatClampNeg 0).toUInt64 >>> (u2 &&& 0x3f).toInt64.toUInt64).toInt64) &&& m2).toInt32)), (.int (2 : Int32)), (.ref a3)]) := fun t k => pre57 t (by
    refine X56.laload hx (j := (2 : Int32)) (v := (.long m2)) (by rw [e56]; exact Ar58.1) (State.isArrayOf_alike hZ.alike Ar58.2.1) Ar58.2.2 in58 at58 (g := (mkF m 38 #[vR a0, vR a1, vI p2, vR a3, vI (2 : Int32)] [(.int (2 : Int32)), (.ref am), (.long ((([x0, x1].getD ((p2 + c2)).toNatClampNeg 0).toUInt64 >>> (u2 &&& 0x3f).toInt64.toUInt64).toInt64)), (.int (2 : Int32)), (.ref a3)])) rfl rfl (hb hby d9_38) _ ?_
    refine XS.land X56.here hx rfl (hb hby d9_39) rfl ?_
    refine XS.l2i X56.here hx rfl (hb hby d9_40) rfl ?_
    show Steps p.tables e below (T56.setTop (mkF m 41 #[vR a0, vR a1, vI p2, vR a3, vI (2 : Int32)] [(.int ((((([x0, x1].getD ((p2 + c2)).toNatClampNeg 0).toUInt64 >>> (u2 &&& 0x3f).toInt64.toUInt64).toInt64) &&& m2).toInt32)), (.int (2 : Int32)), (.ref a3)])) _
    exact k)
  obtain ⟨cl60, Ar60, q60, S60, M60, H60, G60⟩ := id av39
  have in60 : ¬ ((2 : Int32) < 0 ∨ cl60.slots.size ≤ ((2 : Int32)).toNatClampNeg) := inb_of S60 ⟨by decide, by decide⟩
  obtain ⟨T60, h60, X60, e60, W60, st60⟩ := stI X56 hx hZ e56 Ar60 (j := (2 : Int32)) in60 (g := (mkF m 41 #[vR a0, vR a1, vI p2, vR a3, vI (2 : Int32)] [(.int ((((([x0, x1].getD ((p2 + c2)).toNatClampNeg 0).toUInt64 >>> (u2 &&& 0x3f).toInt64.toUInt64).toInt64) &&& m2).toInt32)), (.int (2 : Int32)), (.ref a3)])) rfl rfl (hb hby d9_41)
  have pre60 : Go p.tables e below S0 T60 (mkF m 42 #[vR a0, vR a1, vI p2, vR a3, vI (2 : Int32)] []) := fun t k => pre59 t (st60 t k)
  obtain ⟨lo60, N60, X60⟩ : ∃ lo, Fr n0 lo ∧ Stand p l e ({ frames := 0, cells := 0, slots := 0, locals := 0 } : Room) s m #[(.ref a0), (.ref a1), (.int p2), (.ref a3)] below meth c T60 lo 0 0 := ⟨_, Fr.snoc X60 N39 g0, X60⟩
  have av60 : Arv Z h60 a3 k3 .int (4 : Int32) [(.int ((((([x0, x1].getD ((p2 + c0)).toNatClampNeg 0).toUInt64 >>> (u0 &&& 0x3f).toInt64.toUInt64).toInt64) &&& m0).toInt32)), (.int ((((([x0, x1].getD ((p2 + c1)).toNatClampNeg 0).toUInt64 >>> (u1 &&& 0x3f).toInt64.toUInt64).toInt64) &&& m1).toInt32)), (.int ((((([x0, x1].getD ((p2 + c2)).toNatClampNeg 0).toUInt64 >>> (u2 &&& 0x3f).toInt64.toUInt64).toInt64) &&& m2).toInt32)), (.int y3)] (.int (0 : Int32)) := Arv.set Ar60 q60 S60 M60 H60 G60 rfl W60 2 rfl (Nat.le_of_ble_eq_true rfl)
  have f61_1 := Fld.other W60 f40_1 (Or.inl xe0)
  have f61_2 := Fld.other W60 f40_2 (Or.inl xe0)
  have f61_3 := Fld.other W60 f40_3 (Or.inl xe0)
  have f61_4 := f40_4.other W60 xe1
  have f61_5 := f40_5.other W60 xe2
  have f61_6 := f40_6.other W60 xe3
  have f61_7 := f40_7.other W60 xe4
  have zz62 : n0 ≤ h60.size := Nat.le_trans zz41 (Keep.of_wr W60).1
  have kp63 : Keep h0 h60 [a3] := kp42.wr W60 (Or.inl (List.mem_of_getElem? (i := 0) rfl))
  have pre64 : Go p.tables e below S0 T60 (mkF m 6 #[vR a0, vR a1, vI p2, vR a3, vI (3 : Int32)] [(.ref a3), (.int (3 : Int32))]) := fun t k => pre60 t (by
    refine XS.iinc X60.here hx rfl (hb hby d9_42) rfl (l' := #[vR a0, vR a1, vI p2, vR a3, vI (3 : Int32)]) rfl ?_
    refine XS.goto X60.here hx rfl (pc0 := 45) (pc' := 3) rfl (hb hby d9_45) (by decide) (by decide) ?_
    refine XS.iload X60.here hx rfl (hb hby d9_3) rfl ?_
    show Steps p.tables e below (T60.setTop (mkF m 5 #[vR a0, vR a1, vI p2, vR a3, vI (3 : Int32)] [(.int (3 : Int32))])) _
    refine XS.aloadN X60.here hx rfl (hb hby d9_5) rfl rfl ?_
    exact k)
  obtain ⟨cl65, Ar65, q65, S65, M65, H65, G65⟩ := id av60
  have pre66 : Go p.tables e below S0 T60 (mkF m 16 #[vR a0, vR a1, vI p2, vR a3, vI (3 : Int32)] [(.ref a0), (.int p2), (.ref a1), (.int (3 : Int32)), (.ref a3)]) := fun t k => pre64 t (by
    refine X60.arraylength hx (by rw [e60]; exact Ar65.1) (State.isArrayOf_alike hZ.alike Ar65.2.1) (g := (mkF m 6 #[vR a0, vR a1, vI p2, vR a3, vI (3 : Int32)] [(.ref a3), (.int (3 : Int32))])) rfl rfl (hb hby d9_6) _ ?_
    rw [len_of S65 M65]
    refine XS.icmpNo X60.here hx rfl (hb hby d9_7) rfl (tlt (by decide : (3 : Int32) < (4 : Int32))).2.1 ?_
    refine XS.aloadN X60.here hx rfl (hb hby d9_10) rfl rfl ?_
    show Steps p.tables e below (T60.setTop (mkF m 11 #[vR a0, vR a1, vI p2, vR a3, vI (3 : Int32)] [(.ref a3)])) _
    refine XS.iload X60.here hx rfl (hb hby d9_11) rfl ?_
    refine XS.aloadN X60.here hx rfl (hb hby d9_13) rfl rfl ?_
    refine XS.iloadN X60.here hx rfl (hb hby d9_14) rfl ?_
    show Steps p.tables e below (T60.setTop (mkF m 15 #[vR a0, vR a1, vI p2, vR a3, vI (3 : Int32)] [(.int p2), (.ref a1), (.int (3 : Int32)), (.ref a3)])) _
    refine XS.aloadN X60.here hx rfl (hb hby d9_15) rfl rfl ?_
    exact k)
  obtain ⟨T67, X67, e67, st67⟩ := getF X60 hx hZ hown (host := "") (Or.inl (hw _ (List.mem_of_getElem? (i := 18) rfl))) Via.refl e60 f61_1 (g := (mkF m 16 #[vR a0, vR a1, vI p2, vR a3, vI (3 : Int32)] [(.ref a0), (.int p2), (.ref a1), (.int (3 : Int32)), (.ref a3)])) rfl rfl (hb hby d9_16)
  have pre67 : Go p.tables e below S0 T67 (mkF m 19 #[vR a0, vR a1, vI p2, vR a3, vI (3 : Int32)] [(.ref aw), (.int p2), (.ref a1), (.int (3 : Int32)), (.ref a3)]) := fun t k => pre66 t (st67 t k)
  have pre68 : Go p.tables e below S0 T67 (mkF m 21 #[vR a0, vR a1, vI p2, vR a3, vI (3 : Int32)] [(.int (3 : Int32)), (.ref aw), (.int p2), (.ref a1), (.int (3 : Int32)), (.ref a3)]) := fun t k => pre67 t (by
    refine XS.iload X67.here hx rfl (hb hby d9_19) rfl ?_
    exact k)
  obtain ⟨cl69, Ar69, q69, S69, M69, H69, G69⟩ := id f61_4
  have in69 : ¬ ((3 : Int32) < 0 ∨ cl69.slots.size ≤ ((3 : Int32)).toNatClampNeg) := inb_of S69 ⟨by decide, by decide⟩
  have at69 : cl69.slots[((3 : Int32)).toNatClampNeg]? = some (.int c3) := H69.at in69 rfl
  have pre70 : Go p.tables e below S0 T67 (mkF m 23 #[vR a0, vR a1, vI p2, vR a3, vI (3 : Int32)] [(.int (p2 + c3)), (.ref a1), (.int (3 : Int32)), (.ref a3)]) := fun t k => pre68 t (by
    refine X67.iaload hx (j := (3 : Int32)) (v := (.int c3)) (by rw [e67]; exact Ar69.1) (State.isArrayOf_alike hZ.alike Ar69.2.1) Ar69.2.2 in69 at69 (g := (mkF m 21 #[vR a0, vR a1, vI p2, vR a3, vI (3 : Int32)] [(.int (3 : Int32)), (.ref aw), (.int p2), (.ref a1), (.int (3 : Int32)), (.ref a3)])) rfl rfl (hb hby d9_21) _ ?_
    refine XS.iadd X67.here hx rfl (hb hby d9_22) rfl ?_
    exact k)
  obtain ⟨cl71, Ar71, q71, S71, M71, H71, G71⟩ := id f61_7
  have in71 : ¬ ((p2 + c3) < 0 ∨ cl71.slots.size ≤ ((p2 + c3)).toNatClampNeg) := inb_of S71 hin3
  have at71 : cl71.slots[((p2 + c3)).toNatClampNeg]? = some (.long ([x0, x1].getD ((p2 + c3)).toNatClampNeg 0)) := H71.at in71 (own_getJ [x0, x1] _)
  have pre72 : Go p.tables e below S0 T67 (mkF m 25 #[vR a0, vR a1, vI p2, vR a3, vI (3 : Int32)] [(.ref a0), (.long ([x0, x1].getD ((p2 + c3)).toNatClampNeg 0)), (.int (3 : Int32)), (.ref a3)]) := fun t k => pre70 t (by
    refine X67.laload hx (j := (p2 + c3)) (v := (.long ([x0, x1].getD ((p2 + c3)).toNatClampNeg 0))) (by rw [e67]; exact Ar71.1) (State.isArrayOf_alike hZ.alike Ar71.2.1) Ar71.2.2 in71 at71 (g := (mkF m 23 #[vR a0, vR a1, vI p2, vR a3, vI (3 : Int32)] [(.int (p2 + c3)), (.ref a1), (.int (3 : Int32)), (.ref a3)])) rfl rfl (hb hby d9_23) _ ?_
    refine XS.aloadN X67.here hx rfl (hb hby d9_24) rfl rfl ?_
    exact k)
  obtain ⟨T73, X73, e73, st73⟩ := getF X67 hx hZ hown (host := "") (Or.inl (hw _ (List.mem_of_getElem? (i := 20) rfl))) Via.refl e67 f61_2 (g := (mkF m 25 #[vR a0, vR a1, vI p2, vR a3, vI (3 : Int32)] [(.ref a0), (.long ([x0, x1].getD ((p2 + c3)).toNatClampNeg 0)), (.int (3 : Int32)), (.ref a3)])) rfl rfl (hb hby d9_25)
  have pre73 : Go p.tables e below S0 T73 (mkF m 28 #[vR a0, vR a1, vI p2, vR a3, vI (3 : Int32)] [(.ref as), (.long ([x0, x1].getD ((p2 + c3)).toNatClampNeg 0)), (.int (3 : Int32)), (.ref a3)]) := fun t k => pre72 t (st73 t k)
  have pre74 : Go p.tables e below S0 T73 (mkF m 30 #[vR a0, vR a1, vI p2, vR a3, vI (3 : Int32)] [(.int (3 : Int32)), (.ref as), (.long ([x0, x1].getD ((p2 + c3)).toNatClampNeg 0)), (.int (3 : Int32)), (.ref a3)]) := fun t k => pre73 t (by
    refine XS.iload X73.here hx rfl (hb hby d9_28) rfl ?_
    exact k)
  obtain ⟨cl75, Ar75, q75, S75, M75, H75, G75⟩ := id f61_5
  have in75 : ¬ ((3 : Int32) < 0 ∨ cl75.slots.size ≤ ((3 : Int32)).toNatClampNeg) := inb_of S75 ⟨by decide, by decide⟩
  have at75 : cl75.slots[((3 : Int32)).toNatClampNeg]? = some (.int u3) := H75.at in75 rfl
  have pre76 : Go p.tables e below S0 T73 (mkF m 33 #[vR a0, vR a1, vI p2, vR a3, vI (3 : Int32)] [(.ref a0), (.long ((([x0, x1].getD ((p2 + c3)).toNatClampNeg 0).toUInt64 >>> (u3 &&& 0x3f).toInt64.toUInt64).toInt64)), (.int (3 : Int32)), (.ref a3)]) := fun t k => pre74 t (by
    refine X73.iaload hx (j := (3 : Int32)) (v := (.int u3)) (by rw [e73]; exact Ar75.1) (State.isArrayOf_alike hZ.alike Ar75.2.1) Ar75.2.2 in75 at75 (g := (mkF m 30 #[vR a0, vR a1, vI p2, vR a3, vI (3 : Int32)] [(.int (3 : Int32)), (.ref as), (.long ([x0, x1].getD ((p2 + c3)).toNatClampNeg 0)), (.int (3 : Int32)), (.ref a3)])) rfl rfl (hb hby d9_30) _ ?_
    refine XS.lushr X73.here hx rfl (hb hby d9_31) rfl ?_
    refine XS.aloadN X73.here hx rfl (hb hby d9_32) rfl rfl ?_
    show Steps p.tables e below (T73.setTop (mkF m 33 #[vR a0, vR a1, vI p2, vR a3, vI (3 : Int32)] [(.ref a0), (.long ((([x0, x1].getD ((p2 + c3)).toNatClampNeg 0).toUInt64 >>> (u3 &&& 0x3f).toInt64.toUInt64).toInt64)), (.int (3 : Int32)), (.ref a3)])) _
    exact k)
  obtain ⟨T77, X77, e77, st77⟩ := getF X73 hx hZ hown (host := "") (Or.inl (hw _ (List.mem_of_getElem? (i := 22) rfl))) Via.refl e73 f61_3 (g := (mkF m 33 #[vR a0, vR a1, vI p2, vR a3, vI (3 : Int32)] [(.ref a0), (.long ((([x0, x1].getD ((p2 + c3)).toNatClampNeg 0).toUInt64 >>> (u3 &&& 0x3f).toInt64.toUInt64).toInt64)), (.int (3 : Int32)), (.ref a3)])) rfl rfl (hb hby d9_33)
  have pre77 : Go p.tables e below S0 T77 (mkF m 36 #[vR a0, vR a1, vI p2, vR a3, vI (3 : Int32)] [(.ref am), (.long ((([x0, x1].getD ((p2 + c3)).toNatClampNeg 0).toUInt64 >>> (u3 &&& 0x3f).toInt64.toUInt64).toInt64)), (.int (3 : Int32)), (.ref a3)]) := fun t k => pre76 t (st77 t k)
  have pre78 : Go p.tables e below S0 T77 (mkF m 38 #[vR a0, vR a1, vI p2, vR a3, vI (3 : Int32)] [(.int (3 : Int32)), (.ref am), (.long ((([x0, x1].getD ((p2 + c3)).toNatClampNeg 0).toUInt64 >>> (u3 &&& 0x3f).toInt64.toUInt64).toInt64)), (.int (3 : Int32)), (.ref a3)]) := fun t k => pre77 t (by
    refine XS.iload X77.here hx rfl (hb hby d9_36) rfl ?_
    exact k)
  obtain ⟨cl79, Ar79, q79, S79, M79, H79, G79⟩ := id f61_6
  have in79 : ¬ ((3 : Int32) < 0 ∨ cl79.slots.size ≤ ((3 : Int32)).toNatClampNeg) := inb_of S79 ⟨by decide, by decide⟩
  have at79 : cl79.slots[((3 : Int32)).toNatClampNeg]? = some (.long m3) := H79.at in79 rfl
  have pre80 : Go p.tables e below S0 T77 (mkF m 41 #[vR a0, vR a1, vI p2, vR a3, vI (3 : Int32)] [(.int ((((([x0, x1].getD ((p2 + c3)).toNatClampNeg 0).toUInt64 >>> (u3 &&& 0x3f).toInt64.toUInt64).toInt64) &&& m3).toInt32)), (.int (3 : Int32)), (.ref a3)]) := fun t k => pre78 t (by
    refine X77.laload hx (j := (3 : Int32)) (v := (.long m3)) (by rw [e77]; exact Ar79.1) (State.isArrayOf_alike hZ.alike Ar79.2.1) Ar79.2.2 in79 at79 (g := (mkF m 38 #[vR a0, vR a1, vI p2, vR a3, vI (3 : Int32)] [(.int (3 : Int32)), (.ref am), (.long ((([x0, x1].getD ((p2 + c3)).toNatClampNeg 0).toUInt64 >>> (u3 &&& 0x3f).toInt64.toUInt64).toInt64)), (.int (3 : Int32)), (.ref a3)])) rfl rfl (hb hby d9_38) _ ?_
    refine XS.land X77.here hx rfl (hb hby d9_39) rfl ?_
    refine XS.l2i X77.here hx rfl (hb hby d9_40) rfl ?_
    show Steps p.tables e below (T77.setTop (mkF m 41 #[vR a0, vR a1, vI p2, vR a3, vI (3 : Int32)] [(.int ((((([x0, x1].getD ((p2 + c3)).toNatClampNeg 0).toUInt64 >>> (u3 &&& 0x3f).toInt64.toUInt64).toInt64) &&& m3).toInt32)), (.int (3 : Int32)), (.ref a3)])) _
    exact k)
  obtain ⟨cl81, Ar81, q81, S81, M81, H81, G81⟩ := id av60
  have in81 : ¬ ((3 : Int32) < 0 ∨ cl81.slots.size ≤ ((3 : Int32)).toNatClampNeg) := inb_of S81 ⟨by decide, by decide⟩
  obtain ⟨T81, h81, X81, e81, W81, st81⟩ := stI X77 hx hZ e77 Ar81 (j := (3 : Int32)) in81 (g := (mkF m 41 #[vR a0, vR a1, vI p2, vR a3, vI (3 : Int32)] [(.int ((((([x0, x1].getD ((p2 + c3)).toNatClampNeg 0).toUInt64 >>> (u3 &&& 0x3f).toInt64.toUInt64).toInt64) &&& m3).toInt32)), (.int (3 : Int32)), (.ref a3)])) rfl rfl (hb hby d9_41)
  have pre81 : Go p.tables e below S0 T81 (mkF m 42 #[vR a0, vR a1, vI p2, vR a3, vI (3 : Int32)] []) := fun t k => pre80 t (st81 t k)
  obtain ⟨lo81, N81, X81⟩ : ∃ lo, Fr n0 lo ∧ Stand p l e ({ frames := 0, cells := 0, slots := 0, locals := 0 } : Room) s m #[(.ref a0), (.ref a1), (.int p2), (.ref a3)] below meth c T81 lo 0 0 := ⟨_, Fr.snoc X81 N60 g0, X81⟩
  have av81 : Arv Z h81 a3 k3 .int (4 : Int32) [(.int ((((([x0, x1].getD ((p2 + c0)).toNatClampNeg 0).toUInt64 >>> (u0 &&& 0x3f).toInt64.toUInt64).toInt64) &&& m0).toInt32)), (.int ((((([x0, x1].getD ((p2 + c1)).toNatClampNeg 0).toUInt64 >>> (u1 &&& 0x3f).toInt64.toUInt64).toInt64) &&& m1).toInt32)), (.int ((((([x0, x1].getD ((p2 + c2)).toNatClampNeg 0).toUInt64 >>> (u2 &&& 0x3f).toInt64.toUInt64).toInt64) &&& m2).toInt32)), (.int ((((([x0, x1].getD ((p2 + c3)).toNatClampNeg 0).toUInt64 >>> (u3 &&& 0x3f).toInt64.toUInt64).toInt64) &&& m3).toInt32))] (.int (0 : Int32)) := Arv.set Ar81 q81 S81 M81 H81 G81 rfl W81 3 rfl (Nat.le_of_ble_eq_true rfl)
  have f82_1 := Fld.other W81 f61_1 (Or.inl xe0)
  have f82_2 := Fld.other W81 f61_2 (Or.inl xe0)
  have f82_3 := Fld.other W81 f61_3 (Or.inl xe0)
  have f82_4 := f61_4.other W81 xe1
  have f82_5 := f61_5.other W81 xe2
  have f82_6 := f61_6.other W81 xe3
  have f82_7 := f61_7.other W81 xe4
  have zz83 : n0 ≤ h81.size := Nat.le_trans zz62 (Keep.of_wr W81).1
  have kp84 : Keep h0 h81 [a3] := kp63.wr W81 (Or.inl (List.mem_of_getElem? (i := 0) rfl))
  have pre85 : Go p.tables e below S0 T81 (mkF m 6 #[vR a0, vR a1, vI p2, vR a3, vI (4 : Int32)] [(.ref a3), (.int (4 : Int32))]) := fun t k => pre81 t (by
    refine XS.iinc X81.here hx rfl (hb hby d9_42) rfl (l' := #[vR a0, vR a1, vI p2, vR a3, vI (4 : Int32)]) rfl ?_
    refine XS.goto X81.here hx rfl (pc0 := 45) (pc' := 3) rfl (hb hby d9_45) (by decide) (by decide) ?_
    refine XS.iload X81.here hx rfl (hb hby d9_3) rfl ?_
    show Steps p.tables e below (T81.setTop (mkF m 5 #[vR a0, vR a1, vI p2, vR a3, vI (4 : Int32)] [(.int (4 : Int32))])) _
    refine XS.aloadN X81.here hx rfl (hb hby d9_5) rfl rfl ?_
    exact k)
  obtain ⟨cl86, Ar86, q86, S86, M86, H86, G86⟩ := id av81
  have pre87 : Go p.tables e below S0 T81 (mkF m 48 #[vR a0, vR a1, vI p2, vR a3, vI (4 : Int32)] []) := fun t k => pre85 t (by
    refine X81.arraylength hx (by rw [e81]; exact Ar86.1) (State.isArrayOf_alike hZ.alike Ar86.2.1) (g := (mkF m 6 #[vR a0, vR a1, vI p2, vR a3, vI (4 : Int32)] [(.ref a3), (.int (4 : Int32))])) rfl rfl (hb hby d9_6) _ ?_
    rw [len_of S86 M86]
    refine XS.icmpYes X81.here hx rfl (pc0 := 7) (pc' := 48) rfl (hb hby d9_7) rfl (flt (by decide : ¬ ((4 : Int32) < (4 : Int32)))).2.1 (by decide) (by decide) ?_
    exact k)
  obtain ⟨fs, hr, hrun, hended, hW, hsame⟩ := X81.leave (v := none) (fun _ => rfl)
  exact ⟨_, _, pre87.fin hS0 (X81.returnOut hx Bd.returns (hb hby d9_48) hr), hrun, hended, _, _, rfl, (by
    show Q9_4 Z a0 a1 p2 a3 aw as am kw ks km k1 k3 c0 c1 c2 c3 u0 u1 u2 u3 m0 m1 m2 m3 x0 x1 y0 y1 y2 y3 h0 n0 _ T81.heap _
    rw [e81]
    exact ⟨rfl, N81, _, _, _, _, ⟨rfl, rfl, rfl, rfl⟩, kp84, av81⟩), ⟨_, rfl⟩, hW, hsame.mono (by decide) (by decide)⟩
theorem ef_5_0000 (m : MethodId) (x0 : Addr) (x1 : Addr) (x2 : Addr) (x3 : Int32) : entryFrame m #[(.ref x0), (.ref x1), (.ref x2), (.int x3)] 8 = mkF m 0 #[.val (.ref x0), .val (.ref x1), .val (.ref x2), .val (.int x3), .unset, .unset, .unset, .unset] [] := by first | (simp [entryFrame, mkF, argsToLocals, Value.category]; done) | rfl
theorem d5_0 : decode prog_46_method_4_code 0 = .ok (.aload_n 0, 1) := by decide +kernel
theorem d5_1 : decode prog_46_method_4_code 1 = .ok (.getfield 27, 3) := by decide +kernel
theorem d5_4 : decode prog_46_method_4_code 4 = .ok (.iconst 1, 1) := by decide +kernel
theorem d5_5 : decode prog_46_method_4_code 5 = .ok (.if_icmp .ne 48, 3) := by decide +kernel
theorem d5_8 : decode prog_46_method_4_code 8 = .ok (.lconst 0, 1) := by decide +kernel
theorem d5_9 : decode prog_46_method_4_code 9 = .ok (.lstore 4, 2) := by decide +kernel
theorem d5_11 : decode prog_46_method_4_code 11 = .ok (.iconst 0, 1) := by decide +kernel
theorem d5_12 : decode prog_46_method_4_code 12 = .ok (.istore 6, 2) := by decide +kernel
theorem d5_14 : decode prog_46_method_4_code 14 = .ok (.iload 6, 2) := by decide +kernel
theorem d5_16 : decode prog_46_method_4_code 16 = .ok (.aload_n 1, 1) := by decide +kernel
theorem d5_17 : decode prog_46_method_4_code 17 = .ok (.arraylength, 1) := by decide +kernel
theorem d5_18 : decode prog_46_method_4_code 18 = .ok (.if_icmp .ge 27, 3) := by decide +kernel
theorem d5_21 : decode prog_46_method_4_code 21 = .ok (.lload 4, 2) := by decide +kernel
theorem d5_23 : decode prog_46_method_4_code 23 = .ok (.aload_n 1, 1) := by decide +kernel
theorem d5_24 : decode prog_46_method_4_code 24 = .ok (.iload 6, 2) := by decide +kernel
theorem d5_26 : decode prog_46_method_4_code 26 = .ok (.iaload, 1) := by decide +kernel
theorem d5_27 : decode prog_46_method_4_code 27 = .ok (.i2l, 1) := by decide +kernel
theorem d5_28 : decode prog_46_method_4_code 28 = .ok (.aload_n 0, 1) := by decide +kernel
theorem d5_29 : decode prog_46_method_4_code 29 = .ok (.getfield 13, 3) := by decide +kernel
theorem d5_32 : decode prog_46_method_4_code 32 = .ok (.iload 6, 2) := by decide +kernel
theorem d5_34 : decode prog_46_method_4_code 34 = .ok (.iaload, 1) := by decide +kernel
theorem d5_35 : decode prog_46_method_4_code 35 = .ok (.lshl, 1) := by decide +kernel
theorem d5_36 : decode prog_46_method_4_code 36 = .ok (.lor, 1) := by decide +kernel
theorem d5_37 : decode prog_46_method_4_code 37 = .ok (.lstore 4, 2) := by decide +kernel
theorem d5_39 : decode prog_46_method_4_code 39 = .ok (.iinc 6 1, 3) := by decide +kernel
theorem d5_42 : decode prog_46_method_4_code 42 = .ok (.goto (-28), 3) := by decide +kernel
theorem d5_45 : decode prog_46_method_4_code 45 = .ok (.aload_n 2, 1) := by decide +kernel
theorem d5_46 : decode prog_46_method_4_code 46 = .ok (.iload_n 3, 1) := by decide +kernel
theorem d5_47 : decode prog_46_method_4_code 47 = .ok (.lload 4, 2) := by decide +kernel
theorem d5_49 : decode prog_46_method_4_code 49 = .ok (.lastore, 1) := by decide +kernel
theorem d5_50 : decode prog_46_method_4_code 50 = .ok (.goto 83, 3) := by decide +kernel
theorem d5_133 : decode prog_46_method_4_code 133 = .ok (.return_, 1) := by decide +kernel
def Q5_0000 (Z : State) (a0 a1 a2 : Addr) (p3 : Int32) (aw as : Addr) (kw ks k1 k2 : ClassId) (u0 u1 u2 u3 y0 y1 y2 y3 : Int32) (x0 x1 : Int64) (h0 : Heap) (n0 : Nat) (v : Option Value) (h : Heap) (L : List Loc) : Prop := v = none ∧ Fr n0 L ∧ ∃ (z0 z1 : Int64), (z0 = (own_putL p3 (0 : Int32) (((((0 : Int64) ||| ((y0.toInt64) <<< (u0 &&& 0x3f).toInt64)) ||| ((y1.toInt64) <<< (u1 &&& 0x3f).toInt64)) ||| ((y2.toInt64) <<< (u2 &&& 0x3f).toInt64)) ||| ((y3.toInt64) <<< (u3 &&& 0x3f).toInt64)) x0) ∧ z1 = (own_putL p3 (1 : Int32) (((((0 : Int64) ||| ((y0.toInt64) <<< (u0 &&& 0x3f).toInt64)) ||| ((y1.toInt64) <<< (u1 &&& 0x3f).toInt64)) ||| ((y2.toInt64) <<< (u2 &&& 0x3f).toInt64)) ||| ((y3.toInt64) <<< (u3 &&& 0x3f).toInt64)) x1)) ∧ Keep h0 h [a2] ∧ (Arv Z h a2 k2 .long (2 : Int32) [(.long z0), (.long z1)] (.long (0 : Int64)))
set_option maxRecDepth 65536 in
set_option maxHeartbeats 40000000 in
theorem rm5_0000 (l : Launch) (Z : State) (A0 : Array Value) (hw : ∀ d ∈ tables_1, d.before A0 Z = true) (ws : List Jvm.Cond) (a0 : Addr) (a1 : Addr) (a2 : Addr) (p3 : Int32) (aw as : Addr) (kw ks k1 k2 : ClassId) (u0 u1 u2 u3 y0 y1 y2 y3 : Int32) (x0 x1 : Int64) (h0 : Heap) (n0 : Nat) (Z0 : n0 ≤ h0.size) (Fn : Fld Z h0 a0 "com/example/garantia/garantia/engine/StateLayout" "words" "I" (.int (1 : Int32))) (Fw : Fld Z h0 a0 "com/example/garantia/garantia/engine/StateLayout" "word" "[I" (.ref aw)) (Fs : Fld Z h0 a0 "com/example/garantia/garantia/engine/StateLayout" "shift" "[I" (.ref as)) (V1 : Arv Z h0 aw kw .int (4 : Int32) [(.int (0 : Int32)), (.int (0 : Int32)), (.int (0 : Int32)), (.int (0 : Int32))] (.int (0 : Int32))) (V2 : Arv Z h0 as ks .int (4 : Int32) [(.int u0), (.int u1), (.int u2), (.int u3)] (.int (0 : Int32))) (V3 : Arv Z h0 a1 k1 .int (4 : Int32) [(.int y0), (.int y1), (.int y2), (.int y3)] (.int (0 : Int32))) (V4 : Arv Z h0 a2 k2 .long (2 : Int32) [(.long x0), (.long x1)] (.long (0 : Int64))) (xe0 : a0 ≠ a2) (xe1 : aw ≠ a2) (xe2 : as ≠ a2) (xe3 : a1 ≠ a2) (g0 : n0 ≤ a2) (hin0 : ¬ p3 < 0 ∧ p3 < (2 : Int32)) :
    MetFree l (⟨"com/example/garantia/garantia/engine/StateLayout", "pack", "([I[JI)V"⟩ : MethodName) (head1 (Jvm.Cond.code (⟨"com/example/garantia/garantia/engine/StateLayout", "pack", "([I[JI)V"⟩ : MethodName) prog_46_method_4_code 8 none :: ws) ({ frames := 0, cells := 0, slots := 0, locals := 0 } : Room)) (fun a U => a = #[(.ref a0), (.ref a1), (.ref a2), (.int p3)] ∧ Z.Warmed39 U.vm ∧ U.heap = h0) (fun _ _ _ _ _ => True) (fun _ U o U' => ∃ v L, o = .returned v ∧ Q5_0000 Z a0 a1 a2 p3 aw as kw ks k1 k2 u0 u1 u2 u3 y0 y1 y2 y3 x0 x1 h0 n0 v U'.heap L ∧ FrameEnd U o U' L ({ frames := 0, cells := 0, slots := 0, locals := 0 } : Room).cells ({ frames := 0, cells := 0, slots := 0, locals := 0 } : Room).slots) := by
  refine MetFree.of_bodySF (plainFor_of_name pn_1) hisR ?_
  intro p e s m args below meth c s₁ Bd hml0 hP hK
  obtain ⟨rfl, hZ, hh⟩ := hP
  have hx := Bd.exec
  have hby := Bd.bytes
  have hml : c.maxLocals = 8 := hml0
  have hown : s.vm.findClass "com/example/garantia/garantia/engine/StateLayout" = some m.cls := findClass_of_methodNamed Bd.named
  have hnm := (name_of_methodNamed Bd.named Bd.method).1
  have X0 : Stand p l e ({ frames := 0, cells := 0, slots := 0, locals := 0 } : Room) s m #[(.ref a0), (.ref a1), (.ref a2), (.int p3)] below meth c s₁ [] 0 0 := Stand.of_body Bd
  have e0 : s₁.heap = h0 := by rw [← hh, Bd.state]; rfl
  have N0 := Fr.nil n0
  have kp0 : Keep h0 h0 [a2] := Keep.refl _ _
  obtain ⟨S0, hS0⟩ : ∃ z, z = s₁.setTop (entryFrame m #[(.ref a0), (.ref a1), (.ref a2), (.int p3)] 8) := ⟨_, rfl⟩
  have pre0 : Go p.tables e below S0 s₁ (mkF m 0 #[vR a0, vR a1, vR a2, vI p3, .unset, .unset, .unset, .unset] []) := fun t k => by rw [hS0]; exact castTop (ef_5_0000 m a0 a1 a2 p3) k
  have pre1 : Go p.tables e below S0 s₁ (mkF m 1 #[vR a0, vR a1, vR a2, vI p3, .unset, .unset, .unset, .unset] [(.ref a0)]) := fun t k => pre0 t (by
    refine XS.aloadN X0.here hx rfl (hb hby d5_0) rfl rfl ?_
    exact k)
  obtain ⟨T2, X2, e2, st2⟩ := getF X0 hx hZ hown (host := "") (Or.inl (hw _ (List.mem_of_getElem? (i := 27) rfl))) Via.refl e0 Fn (g := (mkF m 1 #[vR a0, vR a1, vR a2, vI p3, .unset, .unset, .unset, .unset] [(.ref a0)])) rfl rfl (hb hby d5_1)
  have pre2 : Go p.tables e below S0 T2 (mkF m 4 #[vR a0, vR a1, vR a2, vI p3, .unset, .unset, .unset, .unset] [(.int (1 : Int32))]) := fun t k => pre1 t (st2 t k)
  have pre3 : Go p.tables e below S0 T2 (mkF m 17 #[vR a0, vR a1, vR a2, vI p3, vJ (0 : Int64), .second, vI (0 : Int32), .unset] [(.ref a1), (.int (0 : Int32))]) := fun t k => pre2 t (by
    refine XS.iconst X2.here hx rfl (hb hby d5_4) ?_
    refine XS.icmpNo X2.here hx rfl (hb hby d5_5) rfl (teq (rfl : (1 : Int32) = (1 : Int32))).2 ?_
    refine XS.lconst X2.here hx rfl (hb hby d5_8) ?_
    show Steps p.tables e below (T2.setTop (mkF m 9 #[vR a0, vR a1, vR a2, vI p3, .unset, .unset, .unset, .unset] [(.long (0 : Int64))])) _
    refine XS.lstore X2.here hx rfl (hb hby d5_9) rfl (l' := #[vR a0, vR a1, vR a2, vI p3, vJ (0 : Int64), .second, .unset, .unset]) rfl ?_
    refine XS.iconst X2.here hx rfl (hb hby d5_11) ?_
    refine XS.istore X2.here hx rfl (hb hby d5_12) rfl (l' := #[vR a0, vR a1, vR a2, vI p3, vJ (0 : Int64), .second, vI (0 : Int32), .unset]) rfl ?_
    show Steps p.tables e below (T2.setTop (mkF m 14 #[vR a0, vR a1, vR a2, vI p3, vJ (0 : Int64), .second, vI (0 : Int32), .unset] [])) _
    refine XS.iload X2.here hx rfl (hb hby d5_14) rfl ?_
    refine XS.aloadN X2.here hx rfl (hb hby d5_16) rfl rfl ?_
    exact k)
  obtain ⟨cl4, Ar4, q4, S4, M4, H4, G4⟩ := id V3
  have pre5 : Go p.tables e below S0 T2 (mkF m 26 #[vR a0, vR a1, vR a2, vI p3, vJ (0 : Int64), .second, vI (0 : Int32), .unset] [(.int (0 : Int32)), (.ref a1), (.long (0 : Int64))]) := fun t k => pre3 t (by
    refine X2.arraylength hx (by rw [e2]; exact Ar4.1) (State.isArrayOf_alike hZ.alike Ar4.2.1) (g := (mkF m 17 #[vR a0, vR a1, vR a2, vI p3, vJ (0 : Int64), .second, vI (0 : Int32), .unset] [(.ref a1), (.int (0 : Int32))])) rfl rfl (hb hby d5_17) _ ?_
    rw [len_of S4 M4]
    refine XS.icmpNo X2.here hx rfl (hb hby d5_18) rfl (tlt (by decide : (0 : Int32) < (4 : Int32))).2.1 ?_
    refine XS.lload X2.here hx rfl (hb hby d5_21) rfl ?_
    show Steps p.tables e below (T2.setTop (mkF m 23 #[vR a0, vR a1, vR a2, vI p3, vJ (0 : Int64), .second, vI (0 : Int32), .unset] [(.long (0 : Int64))])) _
    refine XS.aloadN X2.here hx rfl (hb hby d5_23) rfl rfl ?_
    refine XS.iload X2.here hx rfl (hb hby d5_24) rfl ?_
    exact k)
  obtain ⟨cl6, Ar6, q6, S6, M6, H6, G6⟩ := id V3
  have in6 : ¬ ((0 : Int32) < 0 ∨ cl6.slots.size ≤ ((0 : Int32)).toNatClampNeg) := inb_of S6 ⟨by decide, by decide⟩
  have at6 : cl6.slots[((0 : Int32)).toNatClampNeg]? = some (.int y0) := H6.at in6 rfl
  have pre7 : Go p.tables e below S0 T2 (mkF m 29 #[vR a0, vR a1, vR a2, vI p3, vJ (0 : Int64), .second, vI (0 : Int32), .unset] [(.ref a0), (.long (y0.toInt64)), (.long (0 : Int64))]) := fun t k => pre5 t (by
    refine X2.iaload hx (j := (0 : Int32)) (v := (.int y0)) (by rw [e2]; exact Ar6.1) (State.isArrayOf_alike hZ.alike Ar6.2.1) Ar6.2.2 in6 at6 (g := (mkF m 26 #[vR a0, vR a1, vR a2, vI p3, vJ (0 : Int64), .second, vI (0 : Int32), .unset] [(.int (0 : Int32)), (.ref a1), (.long (0 : Int64))])) rfl rfl (hb hby d5_26) _ ?_
    refine XS.i2l X2.here hx rfl (hb hby d5_27) rfl ?_
    refine XS.aloadN X2.here hx rfl (hb hby d5_28) rfl rfl ?_
    show Steps p.tables e below (T2.setTop (mkF m 29 #[vR a0, vR a1, vR a2, vI p3, vJ (0 : Int64), .second, vI (0 : Int32), .unset] [(.ref a0), (.long (y0.toInt64)), (.long (0 : Int64))])) _
    exact k)
  obtain ⟨T8, X8, e8, st8⟩ := getF X2 hx hZ hown (host := "") (Or.inl (hw _ (List.mem_of_getElem? (i := 20) rfl))) Via.refl e2 Fs (g := (mkF m 29 #[vR a0, vR a1, vR a2, vI p3, vJ (0 : Int64), .second, vI (0 : Int32), .unset] [(.ref a0), (.long (y0.toInt64)), (.long (0 : Int64))])) rfl rfl (hb hby d5_29)
  have pre8 : Go p.tables e below S0 T8 (mkF m 32 #[vR a0, vR a1, vR a2, vI p3, vJ (0 : Int64), .second, vI (0 : Int32), .unset] [(.ref as), (.long (y0.toInt64)), (.long (0 : Int64))]) := fun t k => pre7 t (st8 t k)
  have pre9 : Go p.tables e below S0 T8 (mkF m 34 #[vR a0, vR a1, vR a2, vI p3, vJ (0 : Int64), .second, vI (0 : Int32), .unset] [(.int (0 : Int32)), (.ref as), (.long (y0.toInt64)), (.long (0 : Int64))]) := fun t k => pre8 t (by
    refine XS.iload X8.here hx rfl (hb hby d5_32) rfl ?_
    exact k)
  obtain ⟨cl10, Ar10, q10, S10, M10, H10, G10⟩ := id V2
  have in10 : ¬ ((0 : Int32) < 0 ∨ cl10.slots.size ≤ ((0 : Int32)).toNatClampNeg) := inb_of S10 ⟨by decide, by decide⟩
  have at10 : cl10.slots[((0 : Int32)).toNatClampNeg]? = some (.int u0) := H10.at in10 rfl
  obtain ⟨v11, hv11, pre11⟩ : ∃ z : Int64, z = ((0 : Int64) ||| ((y0.toInt64) <<< (u0 &&& 0x3f).toInt64)) ∧ Go p.tables e below S0 T8 (mkF m 39 #[vR a0, vR a1, vR a2, vI p3, vJ z, .second, vI (0 : Int32), .unset] []) := ⟨_, rfl, fun t k => pre9 t (by
    refine X8.iaload hx (j := (0 : Int32)) (v := (.int u0)) (by rw [e8]; exact Ar10.1) (State.isArrayOf_alike hZ.alike Ar10.2.1) Ar10.2.2 in10 at10 (g := (mkF m 34 #[vR a0, vR a1, vR a2, vI p3, vJ (0 : Int64), .second, vI (0 : Int32), .unset] [(.int (0 : Int32)), (.ref as), (.long (y0.toInt64)), (.long (0 : Int64))])) rfl rfl (hb hby d5_34) _ ?_
    refine XS.lshl X8.here hx rfl (hb hby d5_35) rfl ?_
    refine XS.lor X8.here hx rfl (hb hby d5_36) rfl ?_
    show Steps p.tables e below (T8.setTop (mkF m 37 #[vR a0, vR a1, vR a2, vI p3, vJ (0 : Int64), .second, vI (0 : Int32), .unset] [(.long ((0 : Int64) ||| ((y0.toInt64) <<< (u0 &&& 0x3f).toInt64)))])) _
    refine XS.lstore X8.here hx rfl (hb hby d5_37) rfl (l' := #[vR a0, vR a1, vR a2, vI p3, vJ ((0 : Int64) ||| ((y0.toInt64) <<< (u0 &&& 0x3f).toInt64)), .second, vI (0 : Int32), .unset]) rfl ?_
    exact k)⟩
  have pre12 : Go p.tables e below S0 T8 (mkF m 17 #[vR a0, vR a1, vR a2, vI p3, vJ v11, .second, vI (1 : Int32), .unset] [(.ref a1), (.int (1 : Int32))]) := fun t k => pre11 t (by
    refine XS.iinc X8.here hx rfl (hb hby d5_39) rfl (l' := #[vR a0, vR a1, vR a2, vI p3, vJ v11, .second, vI (1 : Int32), .unset]) rfl ?_
    refine XS.goto X8.here hx rfl (pc0 := 42) (pc' := 14) rfl (hb hby d5_42) (by decide) (by decide) ?_
    refine XS.iload X8.here hx rfl (hb hby d5_14) rfl ?_
    show Steps p.tables e below (T8.setTop (mkF m 16 #[vR a0, vR a1, vR a2, vI p3, vJ v11, .second, vI (1 : Int32), .unset] [(.int (1 : Int32))])) _
    refine XS.aloadN X8.here hx rfl (hb hby d5_16) rfl rfl ?_
    exact k)
  obtain ⟨cl13, Ar13, q13, S13, M13, H13, G13⟩ := id V3
  have pre14 : Go p.tables e below S0 T8 (mkF m 26 #[vR a0, vR a1, vR a2, vI p3, vJ v11, .second, vI (1 : Int32), .unset] [(.int (1 : Int32)), (.ref a1), (.long v11)]) := fun t k => pre12 t (by
    refine X8.arraylength hx (by rw [e8]; exact Ar13.1) (State.isArrayOf_alike hZ.alike Ar13.2.1) (g := (mkF m 17 #[vR a0, vR a1, vR a2, vI p3, vJ v11, .second, vI (1 : Int32), .unset] [(.ref a1), (.int (1 : Int32))])) rfl rfl (hb hby d5_17) _ ?_
    rw [len_of S13 M13]
    refine XS.icmpNo X8.here hx rfl (hb hby d5_18) rfl (tlt (by decide : (1 : Int32) < (4 : Int32))).2.1 ?_
    refine XS.lload X8.here hx rfl (hb hby d5_21) rfl ?_
    show Steps p.tables e below (T8.setTop (mkF m 23 #[vR a0, vR a1, vR a2, vI p3, vJ v11, .second, vI (1 : Int32), .unset] [(.long v11)])) _
    refine XS.aloadN X8.here hx rfl (hb hby d5_23) rfl rfl ?_
    refine XS.iload X8.here hx rfl (hb hby d5_24) rfl ?_
    exact k)
  obtain ⟨cl15, Ar15, q15, S15, M15, H15, G15⟩ := id V3
  have in15 : ¬ ((1 : Int32) < 0 ∨ cl15.slots.size ≤ ((1 : Int32)).toNatClampNeg) := inb_of S15 ⟨by decide, by decide⟩
  have at15 : cl15.slots[((1 : Int32)).toNatClampNeg]? = some (.int y1) := H15.at in15 rfl
  have pre16 : Go p.tables e below S0 T8 (mkF m 29 #[vR a0, vR a1, vR a2, vI p3, vJ v11, .second, vI (1 : Int32), .unset] [(.ref a0), (.long (y1.toInt64)), (.long v11)]) := fun t k => pre14 t (by
    refine X8.iaload hx (j := (1 : Int32)) (v := (.int y1)) (by rw [e8]; exact Ar15.1) (State.isArrayOf_alike hZ.alike Ar15.2.1) Ar15.2.2 in15 at15 (g := (mkF m 26 #[vR a0, vR a1, vR a2, vI p3, vJ v11, .second, vI (1 : Int32), .unset] [(.int (1 : Int32)), (.ref a1), (.long v11)])) rfl rfl (hb hby d5_26) _ ?_
    refine XS.i2l X8.here hx rfl (hb hby d5_27) rfl ?_
    refine XS.aloadN X8.here hx rfl (hb hby d5_28) rfl rfl ?_
    show Steps p.tables e below (T8.setTop (mkF m 29 #[vR a0, vR a1, vR a2, vI p3, vJ v11, .second, vI (1 : Int32), .unset] [(.ref a0), (.long (y1.toInt64)), (.long v11)])) _
    exact k)
  obtain ⟨T17, X17, e17, st17⟩ := getF X8 hx hZ hown (host := "") (Or.inl (hw _ (List.mem_of_getElem? (i := 20) rfl))) Via.refl e8 Fs (g := (mkF m 29 #[vR a0, vR a1, vR a2, vI p3, vJ v11, .second, vI (1 : Int32), .unset] [(.ref a0), (.long (y1.toInt64)), (.long v11)])) rfl rfl (hb hby d5_29)
  have pre17 : Go p.tables e below S0 T17 (mkF m 32 #[vR a0, vR a1, vR a2, vI p3, vJ v11, .second, vI (1 : Int32), .unset] [(.ref as), (.long (y1.toInt64)), (.long v11)]) := fun t k => pre16 t (st17 t k)
  have pre18 : Go p.tables e below S0 T17 (mkF m 34 #[vR a0, vR a1, vR a2, vI p3, vJ v11, .second, vI (1 : Int32), .unset] [(.int (1 : Int32)), (.ref as), (.long (y1.toInt64)), (.long v11)]) := fun t k => pre17 t (by
    refine XS.iload X17.here hx rfl (hb hby d5_32) rfl ?_
    exact k)
  obtain ⟨cl19, Ar19, q19, S19, M19, H19, G19⟩ := id V2
  have in19 : ¬ ((1 : Int32) < 0 ∨ cl19.slots.size ≤ ((1 : Int32)).toNatClampNeg) := inb_of S19 ⟨by decide, by decide⟩
  have at19 : cl19.slots[((1 : Int32)).toNatClampNeg]? = some (.int u1) := H19.at in19 rfl
  obtain ⟨v20, hv20, pre20⟩ : ∃ z : Int64, z = (v11 ||| ((y1.toInt64) <<< (u1 &&& 0x3f).toInt64)) ∧ Go p.tables e below S0 T17 (mkF m 39 #[vR a0, vR a1, vR a2, vI p3, vJ z, .second, vI (1 : Int32), .unset] []) := ⟨_, rfl, fun t k => pre18 t (by
    refine X17.iaload hx (j := (1 : Int32)) (v := (.int u1)) (by rw [e17]; exact Ar19.1) (State.isArrayOf_alike hZ.alike Ar19.2.1) Ar19.2.2 in19 at19 (g := (mkF m 34 #[vR a0, vR a1, vR a2, vI p3, vJ v11, .second, vI (1 : Int32), .unset] [(.int (1 : Int32)), (.ref as), (.long (y1.toInt64)), (.long v11)])) rfl rfl (hb hby d5_34) _ ?_
    refine XS.lshl X17.here hx rfl (hb hby d5_35) rfl ?_
    refine XS.lor X17.here hx rfl (hb hby d5_36) rfl ?_
    show Steps p.tables e below (T17.setTop (mkF m 37 #[vR a0, vR a1, vR a2, vI p3, vJ v11, .second, vI (1 : Int32), .unset] [(.long (v11 ||| ((y1.toInt64) <<< (u1 &&& 0x3f).toInt64)))])) _
    refine XS.lstore X17.here hx rfl (hb hby d5_37) rfl (l' := #[vR a0, vR a1, vR a2, vI p3, vJ (v11 ||| ((y1.toInt64) <<< (u1 &&& 0x3f).toInt64)), .second, vI (1 : Int32), .unset]) rfl ?_
    exact k)⟩
  have pre21 : Go p.tables e below S0 T17 (mkF m 17 #[vR a0, vR a1, vR a2, vI p3, vJ v20, .second, vI (2 : Int32), .unset] [(.ref a1), (.int (2 : Int32))]) := fun t k => pre20 t (by
    refine XS.iinc X17.here hx rfl (hb hby d5_39) rfl (l' := #[vR a0, vR a1, vR a2, vI p3, vJ v20, .second, vI (2 : Int32), .unset]) rfl ?_
    refine XS.goto X17.here hx rfl (pc0 := 42) (pc' := 14) rfl (hb hby d5_42) (by decide) (by decide) ?_
    refine XS.iload X17.here hx rfl (hb hby d5_14) rfl ?_
    show Steps p.tables e below (T17.setTop (mkF m 16 #[vR a0, vR a1, vR a2, vI p3, vJ v20, .second, vI (2 : Int32), .unset] [(.int (2 : Int32))])) _
    refine XS.aloadN X17.here hx rfl (hb hby d5_16) rfl rfl ?_
    exact k)
  obtain ⟨cl22, Ar22, q22, S22, M22, H22, G22⟩ := id V3
  have pre23 : Go p.tables e below S0 T17 (mkF m 26 #[vR a0, vR a1, vR a2, vI p3, vJ v20, .second, vI (2 : Int32), .unset] [(.int (2 : Int32)), (.ref a1), (.long v20)]) := fun t k => pre21 t (by
    refine X17.arraylength hx (by rw [e17]; exact Ar22.1) (State.isArrayOf_alike hZ.alike Ar22.2.1) (g := (mkF m 17 #[vR a0, vR a1, vR a2, vI p3, vJ v20, .second, vI (2 : Int32), .unset] [(.ref a1), (.int (2 : Int32))])) rfl rfl (hb hby d5_17) _ ?_
    rw [len_of S22 M22]
    refine XS.icmpNo X17.here hx rfl (hb hby d5_18) rfl (tlt (by decide : (2 : Int32) < (4 : Int32))).2.1 ?_
    refine XS.lload X17.here hx rfl (hb hby d5_21) rfl ?_
    show Steps p.tables e below (T17.setTop (mkF m 23 #[vR a0, vR a1, vR a2, vI p3, vJ v20, .second, vI (2 : Int32), .unset] [(.long v20)])) _
    refine XS.aloadN X17.here hx rfl (hb hby d5_23) rfl rfl ?_
    refine XS.iload X17.here hx rfl (hb hby d5_24) rfl ?_
    exact k)
  obtain ⟨cl24, Ar24, q24, S24, M24, H24, G24⟩ := id V3
  have in24 : ¬ ((2 : Int32) < 0 ∨ cl24.slots.size ≤ ((2 : Int32)).toNatClampNeg) := inb_of S24 ⟨by decide, by decide⟩
  have at24 : cl24.slots[((2 : Int32)).toNatClampNeg]? = some (.int y2) := H24.at in24 rfl
  have pre25 : Go p.tables e below S0 T17 (mkF m 29 #[vR a0, vR a1, vR a2, vI p3, vJ v20, .second, vI (2 : Int32), .unset] [(.ref a0), (.long (y2.toInt64)), (.long v20)]) := fun t k => pre23 t (by
    refine X17.iaload hx (j := (2 : Int32)) (v := (.int y2)) (by rw [e17]; exact Ar24.1) (State.isArrayOf_alike hZ.alike Ar24.2.1) Ar24.2.2 in24 at24 (g := (mkF m 26 #[vR a0, vR a1, vR a2, vI p3, vJ v20, .second, vI (2 : Int32), .unset] [(.int (2 : Int32)), (.ref a1), (.long v20)])) rfl rfl (hb hby d5_26) _ ?_
    refine XS.i2l X17.here hx rfl (hb hby d5_27) rfl ?_
    refine XS.aloadN X17.here hx rfl (hb hby d5_28) rfl rfl ?_
    show Steps p.tables e below (T17.setTop (mkF m 29 #[vR a0, vR a1, vR a2, vI p3, vJ v20, .second, vI (2 : Int32), .unset] [(.ref a0), (.long (y2.toInt64)), (.long v20)])) _
    exact k)
  obtain ⟨T26, X26, e26, st26⟩ := getF X17 hx hZ hown (host := "") (Or.inl (hw _ (List.mem_of_getElem? (i := 20) rfl))) Via.refl e17 Fs (g := (mkF m 29 #[vR a0, vR a1, vR a2, vI p3, vJ v20, .second, vI (2 : Int32), .unset] [(.ref a0), (.long (y2.toInt64)), (.long v20)])) rfl rfl (hb hby d5_29)
  have pre26 : Go p.tables e below S0 T26 (mkF m 32 #[vR a0, vR a1, vR a2, vI p3, vJ v20, .second, vI (2 : Int32), .unset] [(.ref as), (.long (y2.toInt64)), (.long v20)]) := fun t k => pre25 t (st26 t k)
  have pre27 : Go p.tables e below S0 T26 (mkF m 34 #[vR a0, vR a1, vR a2, vI p3, vJ v20, .second, vI (2 : Int32), .unset] [(.int (2 : Int32)), (.ref as), (.long (y2.toInt64)), (.long v20)]) := fun t k => pre26 t (by
    refine XS.iload X26.here hx rfl (hb hby d5_32) rfl ?_
    exact k)
  obtain ⟨cl28, Ar28, q28, S28, M28, H28, G28⟩ := id V2
  have in28 : ¬ ((2 : Int32) < 0 ∨ cl28.slots.size ≤ ((2 : Int32)).toNatClampNeg) := inb_of S28 ⟨by decide, by decide⟩
  have at28 : cl28.slots[((2 : Int32)).toNatClampNeg]? = some (.int u2) := H28.at in28 rfl
  obtain ⟨v29, hv29, pre29⟩ : ∃ z : Int64, z = (v20 ||| ((y2.toInt64) <<< (u2 &&& 0x3f).toInt64)) ∧ Go p.tables e below S0 T26 (mkF m 39 #[vR a0, vR a1, vR a2, vI p3, vJ z, .second, vI (2 : Int32), .unset] []) := ⟨_, rfl, fun t k => pre27 t (by
    refine X26.iaload hx (j := (2 : Int32)) (v := (.int u2)) (by rw [e26]; exact Ar28.1) (State.isArrayOf_alike hZ.alike Ar28.2.1) Ar28.2.2 in28 at28 (g := (mkF m 34 #[vR a0, vR a1, vR a2, vI p3, vJ v20, .second, vI (2 : Int32), .unset] [(.int (2 : Int32)), (.ref as), (.long (y2.toInt64)), (.long v20)])) rfl rfl (hb hby d5_34) _ ?_
    refine XS.lshl X26.here hx rfl (hb hby d5_35) rfl ?_
    refine XS.lor X26.here hx rfl (hb hby d5_36) rfl ?_
    show Steps p.tables e below (T26.setTop (mkF m 37 #[vR a0, vR a1, vR a2, vI p3, vJ v20, .second, vI (2 : Int32), .unset] [(.long (v20 ||| ((y2.toInt64) <<< (u2 &&& 0x3f).toInt64)))])) _
    refine XS.lstore X26.here hx rfl (hb hby d5_37) rfl (l' := #[vR a0, vR a1, vR a2, vI p3, vJ (v20 ||| ((y2.toInt64) <<< (u2 &&& 0x3f).toInt64)), .second, vI (2 : Int32), .unset]) rfl ?_
    exact k)⟩
  have pre30 : Go p.tables e below S0 T26 (mkF m 17 #[vR a0, vR a1, vR a2, vI p3, vJ v29, .second, vI (3 : Int32), .unset] [(.ref a1), (.int (3 : Int32))]) := fun t k => pre29 t (by
    refine XS.iinc X26.here hx rfl (hb hby d5_39) rfl (l' := #[vR a0, vR a1, vR a2, vI p3, vJ v29, .second, vI (3 : Int32), .unset]) rfl ?_
    refine XS.goto X26.here hx rfl (pc0 := 42) (pc' := 14) rfl (hb hby d5_42) (by decide) (by decide) ?_
    refine XS.iload X26.here hx rfl (hb hby d5_14) rfl ?_
    show Steps p.tables e below (T26.setTop (mkF m 16 #[vR a0, vR a1, vR a2, vI p3, vJ v29, .second, vI (3 : Int32), .unset] [(.int (3 : Int32))])) _
    refine XS.aloadN X26.here hx rfl (hb hby d5_16) rfl rfl ?_
    exact k)
  obtain ⟨cl31, Ar31, q31, S31, M31, H31, G31⟩ := id V3
  have pre32 : Go p.tables e below S0 T26 (mkF m 26 #[vR a0, vR a1, vR a2, vI p3, vJ v29, .second, vI (3 : Int32), .unset] [(.int (3 : Int32)), (.ref a1), (.long v29)]) := fun t k => pre30 t (by
    refine X26.arraylength hx (by rw [e26]; exact Ar31.1) (State.isArrayOf_alike hZ.alike Ar31.2.1) (g := (mkF m 17 #[vR a0, vR a1, vR a2, vI p3, vJ v29, .second, vI (3 : Int32), .unset] [(.ref a1), (.int (3 : Int32))])) rfl rfl (hb hby d5_17) _ ?_
    rw [len_of S31 M31]
    refine XS.icmpNo X26.here hx rfl (hb hby d5_18) rfl (tlt (by decide : (3 : Int32) < (4 : Int32))).2.1 ?_
    refine XS.lload X26.here hx rfl (hb hby d5_21) rfl ?_
    show Steps p.tables e below (T26.setTop (mkF m 23 #[vR a0, vR a1, vR a2, vI p3, vJ v29, .second, vI (3 : Int32), .unset] [(.long v29)])) _
    refine XS.aloadN X26.here hx rfl (hb hby d5_23) rfl rfl ?_
    refine XS.iload X26.here hx rfl (hb hby d5_24) rfl ?_
    exact k)
  obtain ⟨cl33, Ar33, q33, S33, M33, H33, G33⟩ := id V3
  have in33 : ¬ ((3 : Int32) < 0 ∨ cl33.slots.size ≤ ((3 : Int32)).toNatClampNeg) := inb_of S33 ⟨by decide, by decide⟩
  have at33 : cl33.slots[((3 : Int32)).toNatClampNeg]? = some (.int y3) := H33.at in33 rfl
  have pre34 : Go p.tables e below S0 T26 (mkF m 29 #[vR a0, vR a1, vR a2, vI p3, vJ v29, .second, vI (3 : Int32), .unset] [(.ref a0), (.long (y3.toInt64)), (.long v29)]) := fun t k => pre32 t (by
    refine X26.iaload hx (j := (3 : Int32)) (v := (.int y3)) (by rw [e26]; exact Ar33.1) (State.isArrayOf_alike hZ.alike Ar33.2.1) Ar33.2.2 in33 at33 (g := (mkF m 26 #[vR a0, vR a1, vR a2, vI p3, vJ v29, .second, vI (3 : Int32), .unset] [(.int (3 : Int32)), (.ref a1), (.long v29)])) rfl rfl (hb hby d5_26) _ ?_
    refine XS.i2l X26.here hx rfl (hb hby d5_27) rfl ?_
    refine XS.aloadN X26.here hx rfl (hb hby d5_28) rfl rfl ?_
    show Steps p.tables e below (T26.setTop (mkF m 29 #[vR a0, vR a1, vR a2, vI p3, vJ v29, .second, vI (3 : Int32), .unset] [(.ref a0), (.long (y3.toInt64)), (.long v29)])) _
    exact k)
  obtain ⟨T35, X35, e35, st35⟩ := getF X26 hx hZ hown (host := "") (Or.inl (hw _ (List.mem_of_getElem? (i := 20) rfl))) Via.refl e26 Fs (g := (mkF m 29 #[vR a0, vR a1, vR a2, vI p3, vJ v29, .second, vI (3 : Int32), .unset] [(.ref a0), (.long (y3.toInt64)), (.long v29)])) rfl rfl (hb hby d5_29)
  have pre35 : Go p.tables e below S0 T35 (mkF m 32 #[vR a0, vR a1, vR a2, vI p3, vJ v29, .second, vI (3 : Int32), .unset] [(.ref as), (.long (y3.toInt64)), (.long v29)]) := fun t k => pre34 t (st35 t k)
  have pre36 : Go p.tables e below S0 T35 (mkF m 34 #[vR a0, vR a1, vR a2, vI p3, vJ v29, .second, vI (3 : Int32), .unset] [(.int (3 : Int32)), (.ref as), (.long (y3.toInt64)), (.long v29)]) := fun t k => pre35 t (by
    refine XS.iload X35.here hx rfl (hb hby d5_32) rfl ?_
    exact k)
  obtain ⟨cl37, Ar37, q37, S37, M37, H37, G37⟩ := id V2
  have in37 : ¬ ((3 : Int32) < 0 ∨ cl37.slots.size ≤ ((3 : Int32)).toNatClampNeg) := inb_of S37 ⟨by decide, by decide⟩
  have at37 : cl37.slots[((3 : Int32)).toNatClampNeg]? = some (.int u3) := H37.at in37 rfl
  obtain ⟨v38, hv38, pre38⟩ : ∃ z : Int64, z = (v29 ||| ((y3.toInt64) <<< (u3 &&& 0x3f).toInt64)) ∧ Go p.tables e below S0 T35 (mkF m 39 #[vR a0, vR a1, vR a2, vI p3, vJ z, .second, vI (3 : Int32), .unset] []) := ⟨_, rfl, fun t k => pre36 t (by
    refine X35.iaload hx (j := (3 : Int32)) (v := (.int u3)) (by rw [e35]; exact Ar37.1) (State.isArrayOf_alike hZ.alike Ar37.2.1) Ar37.2.2 in37 at37 (g := (mkF m 34 #[vR a0, vR a1, vR a2, vI p3, vJ v29, .second, vI (3 : Int32), .unset] [(.int (3 : Int32)), (.ref as), (.long (y3.toInt64)), (.long v29)])) rfl rfl (hb hby d5_34) _ ?_
    refine XS.lshl X35.here hx rfl (hb hby d5_35) rfl ?_
    refine XS.lor X35.here hx rfl (hb hby d5_36) rfl ?_
    show Steps p.tables e below (T35.setTop (mkF m 37 #[vR a0, vR a1, vR a2, vI p3, vJ v29, .second, vI (3 : Int32), .unset] [(.long (v29 ||| ((y3.toInt64) <<< (u3 &&& 0x3f).toInt64)))])) _
    refine XS.lstore X35.here hx rfl (hb hby d5_37) rfl (l' := #[vR a0, vR a1, vR a2, vI p3, vJ (v29 ||| ((y3.toInt64) <<< (u3 &&& 0x3f).toInt64)), .second, vI (3 : Int32), .unset]) rfl ?_
    exact k)⟩
  have pre39 : Go p.tables e below S0 T35 (mkF m 17 #[vR a0, vR a1, vR a2, vI p3, vJ v38, .second, vI (4 : Int32), .unset] [(.ref a1), (.int (4 : Int32))]) := fun t k => pre38 t (by
    refine XS.iinc X35.here hx rfl (hb hby d5_39) rfl (l' := #[vR a0, vR a1, vR a2, vI p3, vJ v38, .second, vI (4 : Int32), .unset]) rfl ?_
    refine XS.goto X35.here hx rfl (pc0 := 42) (pc' := 14) rfl (hb hby d5_42) (by decide) (by decide) ?_
    refine XS.iload X35.here hx rfl (hb hby d5_14) rfl ?_
    show Steps p.tables e below (T35.setTop (mkF m 16 #[vR a0, vR a1, vR a2, vI p3, vJ v38, .second, vI (4 : Int32), .unset] [(.int (4 : Int32))])) _
    refine XS.aloadN X35.here hx rfl (hb hby d5_16) rfl rfl ?_
    exact k)
  obtain ⟨cl40, Ar40, q40, S40, M40, H40, G40⟩ := id V3
  have pre41 : Go p.tables e below S0 T35 (mkF m 49 #[vR a0, vR a1, vR a2, vI p3, vJ v38, .second, vI (4 : Int32), .unset] [(.long v38), (.int p3), (.ref a2)]) := fun t k => pre39 t (by
    refine X35.arraylength hx (by rw [e35]; exact Ar40.1) (State.isArrayOf_alike hZ.alike Ar40.2.1) (g := (mkF m 17 #[vR a0, vR a1, vR a2, vI p3, vJ v38, .second, vI (4 : Int32), .unset] [(.ref a1), (.int (4 : Int32))])) rfl rfl (hb hby d5_17) _ ?_
    rw [len_of S40 M40]
    refine XS.icmpYes X35.here hx rfl (pc0 := 18) (pc' := 45) rfl (hb hby d5_18) rfl (flt (by decide : ¬ ((4 : Int32) < (4 : Int32)))).2.1 (by decide) (by decide) ?_
    refine XS.aloadN X35.here hx rfl (hb hby d5_45) rfl rfl ?_
    show Steps p.tables e below (T35.setTop (mkF m 46 #[vR a0, vR a1, vR a2, vI p3, vJ v38, .second, vI (4 : Int32), .unset] [(.ref a2)])) _
    refine XS.iloadN X35.here hx rfl (hb hby d5_46) rfl ?_
    refine XS.lload X35.here hx rfl (hb hby d5_47) rfl ?_
    exact k)
  obtain ⟨cl42, Ar42, q42, S42, M42, H42, G42⟩ := id V4
  have in42 : ¬ (p3 < 0 ∨ cl42.slots.size ≤ (p3).toNatClampNeg) := inb_of S42 hin0
  obtain ⟨T42, h42, X42, e42, W42, st42⟩ := stJ X35 hx hZ e35 Ar42 (j := p3) in42 (g := (mkF m 49 #[vR a0, vR a1, vR a2, vI p3, vJ v38, .second, vI (4 : Int32), .unset] [(.long v38), (.int p3), (.ref a2)])) rfl rfl (hb hby d5_49)
  have pre42 : Go p.tables e below S0 T42 (mkF m 50 #[vR a0, vR a1, vR a2, vI p3, vJ v38, .second, vI (4 : Int32), .unset] []) := fun t k => pre41 t (st42 t k)
  obtain ⟨lo42, N42, X42⟩ : ∃ lo, Fr n0 lo ∧ Stand p l e ({ frames := 0, cells := 0, slots := 0, locals := 0 } : Room) s m #[(.ref a0), (.ref a1), (.ref a2), (.int p3)] below meth c T42 lo 0 0 := ⟨_, Fr.snoc X42 N0 g0, X42⟩
  have av42 : Arv Z h42 a2 k2 .long (2 : Int32) [(.long (own_putL p3 (0 : Int32) v38 x0)), (.long (own_putL p3 (1 : Int32) v38 x1))] (.long (0 : Int64)) := by
    have q := Arv.set Ar42 q42 S42 M42 H42 G42 rfl W42 _ rfl (own_setJ2 (w := 0) (x0 := 0) (x1 := 0) hin0).1
    rw [(own_setJ2 hin0).2] at q
    exact q
  have f43_1 := Fld.other W42 Fn (Or.inl xe0)
  have f43_2 := Fld.other W42 Fw (Or.inl xe0)
  have f43_3 := Fld.other W42 Fs (Or.inl xe0)
  have f43_4 := V1.other W42 xe1
  have f43_5 := V2.other W42 xe2
  have f43_6 := V3.other W42 xe3
  have zz44 : n0 ≤ h42.size := Nat.le_trans Z0 (Keep.of_wr W42).1
  have kp45 : Keep h0 h42 [a2] := kp0.wr W42 (Or.inl (List.mem_of_getElem? (i := 0) rfl))
  have pre46 : Go p.tables e below S0 T42 (mkF m 133 #[vR a0, vR a1, vR a2, vI p3, vJ v38, .second, vI (4 : Int32), .unset] []) := fun t k => pre42 t (by
    refine XS.goto X42.here hx rfl (pc0 := 50) (pc' := 133) rfl (hb hby d5_50) (by decide) (by decide) ?_
    exact k)
  obtain ⟨fs, hr, hrun, hended, hW, hsame⟩ := X42.leave (v := none) (fun _ => rfl)
  exact ⟨_, _, pre46.fin hS0 (X42.returnOut hx Bd.returns (hb hby d5_133) hr), hrun, hended, _, _, rfl, (by
    show Q5_0000 Z a0 a1 a2 p3 aw as kw ks k1 k2 u0 u1 u2 u3 y0 y1 y2 y3 x0 x1 h0 n0 _ T42.heap _
    rw [e42]
    subst hv38 hv29 hv20 hv11
    exact ⟨rfl, N42, _, _, ⟨rfl, rfl⟩, kp45, av42⟩), ⟨_, rfl⟩, hW, hsame.mono (by decide) (by decide)⟩
theorem ef_5_0001 (m : MethodId) (x0 : Addr) (x1 : Addr) (x2 : Addr) (x3 : Int32) : entryFrame m #[(.ref x0), (.ref x1), (.ref x2), (.int x3)] 8 = mkF m 0 #[.val (.ref x0), .val (.ref x1), .val (.ref x2), .val (.int x3), .unset, .unset, .unset, .unset] [] := by first | (simp [entryFrame, mkF, argsToLocals, Value.category]; done) | rfl
theorem d5_53 : decode prog_46_method_4_code 53 = .ok (.iconst 0, 1) := by decide +kernel
theorem d5_54 : decode prog_46_method_4_code 54 = .ok (.istore 4, 2) := by decide +kernel
theorem d5_56 : decode prog_46_method_4_code 56 = .ok (.lconst 0, 1) := by decide +kernel
theorem d5_57 : decode prog_46_method_4_code 57 = .ok (.lstore 5, 2) := by decide +kernel
theorem d5_59 : decode prog_46_method_4_code 59 = .ok (.iconst 0, 1) := by decide +kernel
theorem d5_60 : decode prog_46_method_4_code 60 = .ok (.istore 7, 2) := by decide +kernel
theorem d5_62 : decode prog_46_method_4_code 62 = .ok (.iload 7, 2) := by decide +kernel
theorem d5_64 : decode prog_46_method_4_code 64 = .ok (.aload_n 1, 1) := by decide +kernel
theorem d5_65 : decode prog_46_method_4_code 65 = .ok (.arraylength, 1) := by decide +kernel
theorem d5_66 : decode prog_46_method_4_code 66 = .ok (.if_icmp .ge 59, 3) := by decide +kernel
theorem d5_69 : decode prog_46_method_4_code 69 = .ok (.aload_n 0, 1) := by decide +kernel
theorem d5_70 : decode prog_46_method_4_code 70 = .ok (.getfield 7, 3) := by decide +kernel
theorem d5_73 : decode prog_46_method_4_code 73 = .ok (.iload 7, 2) := by decide +kernel
theorem d5_75 : decode prog_46_method_4_code 75 = .ok (.iaload, 1) := by decide +kernel
theorem d5_76 : decode prog_46_method_4_code 76 = .ok (.iload 4, 2) := by decide +kernel
theorem d5_78 : decode prog_46_method_4_code 78 = .ok (.if_icmp .eq 23, 3) := by decide +kernel
theorem d5_81 : decode prog_46_method_4_code 81 = .ok (.aload_n 2, 1) := by decide +kernel
theorem d5_82 : decode prog_46_method_4_code 82 = .ok (.iload_n 3, 1) := by decide +kernel
theorem d5_83 : decode prog_46_method_4_code 83 = .ok (.iload 4, 2) := by decide +kernel
theorem d5_85 : decode prog_46_method_4_code 85 = .ok (.iadd, 1) := by decide +kernel
theorem d5_86 : decode prog_46_method_4_code 86 = .ok (.lload 5, 2) := by decide +kernel
theorem d5_88 : decode prog_46_method_4_code 88 = .ok (.lastore, 1) := by decide +kernel
theorem d5_89 : decode prog_46_method_4_code 89 = .ok (.aload_n 0, 1) := by decide +kernel
theorem d5_90 : decode prog_46_method_4_code 90 = .ok (.getfield 7, 3) := by decide +kernel
theorem d5_93 : decode prog_46_method_4_code 93 = .ok (.iload 7, 2) := by decide +kernel
theorem d5_95 : decode prog_46_method_4_code 95 = .ok (.iaload, 1) := by decide +kernel
theorem d5_96 : decode prog_46_method_4_code 96 = .ok (.istore 4, 2) := by decide +kernel
theorem d5_98 : decode prog_46_method_4_code 98 = .ok (.lconst 0, 1) := by decide +kernel
theorem d5_99 : decode prog_46_method_4_code 99 = .ok (.lstore 5, 2) := by decide +kernel
theorem d5_101 : decode prog_46_method_4_code 101 = .ok (.lload 5, 2) := by decide +kernel
theorem d5_103 : decode prog_46_method_4_code 103 = .ok (.aload_n 1, 1) := by decide +kernel
theorem d5_104 : decode prog_46_method_4_code 104 = .ok (.iload 7, 2) := by decide +kernel
theorem d5_106 : decode prog_46_method_4_code 106 = .ok (.iaload, 1) := by decide +kernel
theorem d5_107 : decode prog_46_method_4_code 107 = .ok (.i2l, 1) := by decide +kernel
theorem d5_108 : decode prog_46_method_4_code 108 = .ok (.aload_n 0, 1) := by decide +kernel
theorem d5_109 : decode prog_46_method_4_code 109 = .ok (.getfield 13, 3) := by decide +kernel
theorem d5_112 : decode prog_46_method_4_code 112 = .ok (.iload 7, 2) := by decide +kernel
theorem d5_114 : decode prog_46_method_4_code 114 = .ok (.iaload, 1) := by decide +kernel
theorem d5_115 : decode prog_46_method_4_code 115 = .ok (.lshl, 1) := by decide +kernel
theorem d5_116 : decode prog_46_method_4_code 116 = .ok (.lor, 1) := by decide +kernel
theorem d5_117 : decode prog_46_method_4_code 117 = .ok (.lstore 5, 2) := by decide +kernel
theorem d5_119 : decode prog_46_method_4_code 119 = .ok (.iinc 7 1, 3) := by decide +kernel
theorem d5_122 : decode prog_46_method_4_code 122 = .ok (.goto (-60), 3) := by decide +kernel
theorem d5_125 : decode prog_46_method_4_code 125 = .ok (.aload_n 2, 1) := by decide +kernel
theorem d5_126 : decode prog_46_method_4_code 126 = .ok (.iload_n 3, 1) := by decide +kernel
theorem d5_127 : decode prog_46_method_4_code 127 = .ok (.iload 4, 2) := by decide +kernel
theorem d5_129 : decode prog_46_method_4_code 129 = .ok (.iadd, 1) := by decide +kernel
theorem d5_130 : decode prog_46_method_4_code 130 = .ok (.lload 5, 2) := by decide +kernel
theorem d5_132 : decode prog_46_method_4_code 132 = .ok (.lastore, 1) := by decide +kernel
def Q5_0001 (Z : State) (a0 a1 a2 : Addr) (p3 : Int32) (aw as : Addr) (kw ks k1 k2 : ClassId) (u0 u1 u2 u3 y0 y1 y2 y3 : Int32) (x0 x1 : Int64) (h0 : Heap) (n0 : Nat) (v : Option Value) (h : Heap) (L : List Loc) : Prop := v = none ∧ Fr n0 L ∧ ∃ (z0 z1 : Int64), (z0 = (own_putL (p3 + (1 : Int32)) (0 : Int32) ((0 : Int64) ||| ((y3.toInt64) <<< (u3 &&& 0x3f).toInt64)) (own_putL (p3 + (0 : Int32)) (0 : Int32) ((((0 : Int64) ||| ((y0.toInt64) <<< (u0 &&& 0x3f).toInt64)) ||| ((y1.toInt64) <<< (u1 &&& 0x3f).toInt64)) ||| ((y2.toInt64) <<< (u2 &&& 0x3f).toInt64)) x0)) ∧ z1 = (own_putL (p3 + (1 : Int32)) (1 : Int32) ((0 : Int64) ||| ((y3.toInt64) <<< (u3 &&& 0x3f).toInt64)) (own_putL (p3 + (0 : Int32)) (1 : Int32) ((((0 : Int64) ||| ((y0.toInt64) <<< (u0 &&& 0x3f).toInt64)) ||| ((y1.toInt64) <<< (u1 &&& 0x3f).toInt64)) ||| ((y2.toInt64) <<< (u2 &&& 0x3f).toInt64)) x1))) ∧ Keep h0 h [a2] ∧ (Arv Z h a2 k2 .long (2 : Int32) [(.long z0), (.long z1)] (.long (0 : Int64)))
set_option maxRecDepth 65536 in
set_option maxHeartbeats 40000000 in
theorem rm5_0001 (l : Launch) (Z : State) (A0 : Array Value) (hw : ∀ d ∈ tables_1, d.before A0 Z = true) (ws : List Jvm.Cond) (a0 : Addr) (a1 : Addr) (a2 : Addr) (p3 : Int32) (aw as : Addr) (kw ks k1 k2 : ClassId) (u0 u1 u2 u3 y0 y1 y2 y3 : Int32) (x0 x1 : Int64) (h0 : Heap) (n0 : Nat) (Z0 : n0 ≤ h0.size) (Fn : Fld Z h0 a0 "com/example/garantia/garantia/engine/StateLayout" "words" "I" (.int (2 : Int32))) (Fw : Fld Z h0 a0 "com/example/garantia/garantia/engine/StateLayout" "word" "[I" (.ref aw)) (Fs : Fld Z h0 a0 "com/example/garantia/garantia/engine/StateLayout" "shift" "[I" (.ref as)) (V1 : Arv Z h0 aw kw .int (4 : Int32) [(.int (0 : Int32)), (.int (0 : Int32)), (.int (0 : Int32)), (.int (1 : Int32))] (.int (0 : Int32))) (V2 : Arv Z h0 as ks .int (4 : Int32) [(.int u0), (.int u1), (.int u2), (.int u3)] (.int (0 : Int32))) (V3 : Arv Z h0 a1 k1 .int (4 : Int32) [(.int y0), (.int y1), (.int y2), (.int y3)] (.int (0 : Int32))) (V4 : Arv Z h0 a2 k2 .long (2 : Int32) [(.long x0), (.long x1)] (.long (0 : Int64))) (xe0 : a0 ≠ a2) (xe1 : aw ≠ a2) (xe2 : as ≠ a2) (xe3 : a1 ≠ a2) (g0 : n0 ≤ a2) (hin0 : ¬ (p3 + (0 : Int32)) < 0 ∧ (p3 + (0 : Int32)) < (2 : Int32)) (hin1 : ¬ (p3 + (1 : Int32)) < 0 ∧ (p3 + (1 : Int32)) < (2 : Int32)) :
    MetFree l (⟨"com/example/garantia/garantia/engine/StateLayout", "pack", "([I[JI)V"⟩ : MethodName) (head1 (Jvm.Cond.code (⟨"com/example/garantia/garantia/engine/StateLayout", "pack", "([I[JI)V"⟩ : MethodName) prog_46_method_4_code 8 none :: ws) ({ frames := 0, cells := 0, slots := 0, locals := 0 } : Room)) (fun a U => a = #[(.ref a0), (.ref a1), (.ref a2), (.int p3)] ∧ Z.Warmed39 U.vm ∧ U.heap = h0) (fun _ _ _ _ _ => True) (fun _ U o U' => ∃ v L, o = .returned v ∧ Q5_0001 Z a0 a1 a2 p3 aw as kw ks k1 k2 u0 u1 u2 u3 y0 y1 y2 y3 x0 x1 h0 n0 v U'.heap L ∧ FrameEnd U o U' L ({ frames := 0, cells := 0, slots := 0, locals := 0 } : Room).cells ({ frames := 0, cells := 0, slots := 0, locals := 0 } : Room).slots) := by
  refine MetFree.of_bodySF (plainFor_of_name pn_1) hisR ?_
  intro p e s m args below meth c s₁ Bd hml0 hP hK
  obtain ⟨rfl, hZ, hh⟩ := hP
  have hx := Bd.exec
  have hby := Bd.bytes
  have hml : c.maxLocals = 8 := hml0
  have hown : s.vm.findClass "com/example/garantia/garantia/engine/StateLayout" = some m.cls := findClass_of_methodNamed Bd.named
  have hnm := (name_of_methodNamed Bd.named Bd.method).1
  have X0 : Stand p l e ({ frames := 0, cells := 0, slots := 0, locals := 0 } : Room) s m #[(.ref a0), (.ref a1), (.ref a2), (.int p3)] below meth c s₁ [] 0 0 := Stand.of_body Bd
  have e0 : s₁.heap = h0 := by rw [← hh, Bd.state]; rfl
  have N0 := Fr.nil n0
  have kp0 : Keep h0 h0 [a2] := Keep.refl _ _
  obtain ⟨S0, hS0⟩ : ∃ z, z = s₁.setTop (entryFrame m #[(.ref a0), (.ref a1), (.ref a2), (.int p3)] 8) := ⟨_, rfl⟩
  have pre0 : Go p.tables e below S0 s₁ (mkF m 0 #[vR a0, vR a1, vR a2, vI p3, .unset, .unset, .unset, .unset] []) := fun t k => by rw [hS0]; exact castTop (ef_5_0001 m a0 a1 a2 p3) k
  have pre1 : Go p.tables e below S0 s₁ (mkF m 1 #[vR a0, vR a1, vR a2, vI p3, .unset, .unset, .unset, .unset] [(.ref a0)]) := fun t k => pre0 t (by
    refine XS.aloadN X0.here hx rfl (hb hby d5_0) rfl rfl ?_
    exact k)
  obtain ⟨T2, X2, e2, st2⟩ := getF X0 hx hZ hown (host := "") (Or.inl (hw _ (List.mem_of_getElem? (i := 27) rfl))) Via.refl e0 Fn (g := (mkF m 1 #[vR a0, vR a1, vR a2, vI p3, .unset, .unset, .unset, .unset] [(.ref a0)])) rfl rfl (hb hby d5_1)
  have pre2 : Go p.tables e below S0 T2 (mkF m 4 #[vR a0, vR a1, vR a2, vI p3, .unset, .unset, .unset, .unset] [(.int (2 : Int32))]) := fun t k => pre1 t (st2 t k)
  have pre3 : Go p.tables e below S0 T2 (mkF m 65 #[vR a0, vR a1, vR a2, vI p3, vI (0 : Int32), vJ (0 : Int64), .second, vI (0 : Int32)] [(.ref a1), (.int (0 : Int32))]) := fun t k => pre2 t (by
    refine XS.iconst X2.here hx rfl (hb hby d5_4) ?_
    refine XS.icmpYes X2.here hx rfl (pc0 := 5) (pc' := 53) rfl (hb hby d5_5) rfl (feq (by decide : ¬ ((2 : Int32) = (1 : Int32)))).2 (by decide) (by decide) ?_
    refine XS.iconst X2.here hx rfl (hb hby d5_53) ?_
    show Steps p.tables e below (T2.setTop (mkF m 54 #[vR a0, vR a1, vR a2, vI p3, .unset, .unset, .unset, .unset] [(.int (0 : Int32))])) _
    refine XS.istore X2.here hx rfl (hb hby d5_54) rfl (l' := #[vR a0, vR a1, vR a2, vI p3, vI (0 : Int32), .unset, .unset, .unset]) rfl ?_
    refine XS.lconst X2.here hx rfl (hb hby d5_56) ?_
    refine XS.lstore X2.here hx rfl (hb hby d5_57) rfl (l' := #[vR a0, vR a1, vR a2, vI p3, vI (0 : Int32), vJ (0 : Int64), .second, .unset]) rfl ?_
    show Steps p.tables e below (T2.setTop (mkF m 59 #[vR a0, vR a1, vR a2, vI p3, vI (0 : Int32), vJ (0 : Int64), .second, .unset] [])) _
    refine XS.iconst X2.here hx rfl (hb hby d5_59) ?_
    refine XS.istore X2.here hx rfl (hb hby d5_60) rfl (l' := #[vR a0, vR a1, vR a2, vI p3, vI (0 : Int32), vJ (0 : Int64), .second, vI (0 : Int32)]) rfl ?_
    refine XS.iload X2.here hx rfl (hb hby d5_62) rfl ?_
    show Steps p.tables e below (T2.setTop (mkF m 64 #[vR a0, vR a1, vR a2, vI p3, vI (0 : Int32), vJ (0 : Int64), .second, vI (0 : Int32)] [(.int (0 : Int32))])) _
    refine XS.aloadN X2.here hx rfl (hb hby d5_64) rfl rfl ?_
    exact k)
  obtain ⟨cl4, Ar4, q4, S4, M4, H4, G4⟩ := id V3
  have pre5 : Go p.tables e below S0 T2 (mkF m 70 #[vR a0, vR a1, vR a2, vI p3, vI (0 : Int32), vJ (0 : Int64), .second, vI (0 : Int32)] [(.ref a0)]) := fun t k => pre3 t (by
    refine X2.arraylength hx (by rw [e2]; exact Ar4.1) (State.isArrayOf_alike hZ.alike Ar4.2.1) (g := (mkF m 65 #[vR a0, vR a1, vR a2, vI p3, vI (0 : Int32), vJ (0 : Int64), .second, vI (0 : Int32)] [(.ref a1), (.int (0 : Int32))])) rfl rfl (hb hby d5_65) _ ?_
    rw [len_of S4 M4]
    refine XS.icmpNo X2.here hx rfl (hb hby d5_66) rfl (tlt (by decide : (0 : Int32) < (4 : Int32))).2.1 ?_
    refine XS.aloadN X2.here hx rfl (hb hby d5_69) rfl rfl ?_
    show Steps p.tables e below (T2.setTop (mkF m 70 #[vR a0, vR a1, vR a2, vI p3, vI (0 : Int32), vJ (0 : Int64), .second, vI (0 : Int32)] [(.ref a0)])) _
    exact k)
  obtain ⟨T6, X6, e6, st6⟩ := getF X2 hx hZ hown (host := "") (Or.inl (hw _ (List.mem_of_getElem? (i := 18) rfl))) Via.refl e2 Fw (g := (mkF m 70 #[vR a0, vR a1, vR a2, vI p3, vI (0 : Int32), vJ (0 : Int64), .second, vI (0 : Int32)] [(.ref a0)])) rfl rfl (hb hby d5_70)
  have pre6 : Go p.tables e below S0 T6 (mkF m 73 #[vR a0, vR a1, vR a2, vI p3, vI (0 : Int32), vJ (0 : Int64), .second, vI (0 : Int32)] [(.ref aw)]) := fun t k => pre5 t (st6 t k)
  have pre7 : Go p.tables e below S0 T6 (mkF m 75 #[vR a0, vR a1, vR a2, vI p3, vI (0 : Int32), vJ (0 : Int64), .second, vI (0 : Int32)] [(.int (0 : Int32)), (.ref aw)]) := fun t k => pre6 t (by
    refine XS.iload X6.here hx rfl (hb hby d5_73) rfl ?_
    exact k)
  obtain ⟨cl8, Ar8, q8, S8, M8, H8, G8⟩ := id V1
  have in8 : ¬ ((0 : Int32) < 0 ∨ cl8.slots.size ≤ ((0 : Int32)).toNatClampNeg) := inb_of S8 ⟨by decide, by decide⟩
  have at8 : cl8.slots[((0 : Int32)).toNatClampNeg]? = some (.int (0 : Int32)) := H8.at in8 rfl
  have pre9 : Go p.tables e below S0 T6 (mkF m 106 #[vR a0, vR a1, vR a2, vI p3, vI (0 : Int32), vJ (0 : Int64), .second, vI (0 : Int32)] [(.int (0 : Int32)), (.ref a1), (.long (0 : Int64))]) := fun t k => pre7 t (by
    refine X6.iaload hx (j := (0 : Int32)) (v := (.int (0 : Int32))) (by rw [e6]; exact Ar8.1) (State.isArrayOf_alike hZ.alike Ar8.2.1) Ar8.2.2 in8 at8 (g := (mkF m 75 #[vR a0, vR a1, vR a2, vI p3, vI (0 : Int32), vJ (0 : Int64), .second, vI (0 : Int32)] [(.int (0 : Int32)), (.ref aw)])) rfl rfl (hb hby d5_75) _ ?_
    refine XS.iload X6.here hx rfl (hb hby d5_76) rfl ?_
    refine XS.icmpYes X6.here hx rfl (pc0 := 78) (pc' := 101) rfl (hb hby d5_78) rfl (teq (rfl : (0 : Int32) = (0 : Int32))).1 (by decide) (by decide) ?_
    show Steps p.tables e below (T6.setTop (mkF m 101 #[vR a0, vR a1, vR a2, vI p3, vI (0 : Int32), vJ (0 : Int64), .second, vI (0 : Int32)] [])) _
    refine XS.lload X6.here hx rfl (hb hby d5_101) rfl ?_
    refine XS.aloadN X6.here hx rfl (hb hby d5_103) rfl rfl ?_
    refine XS.iload X6.here hx rfl (hb hby d5_104) rfl ?_
    show Steps p.tables e below (T6.setTop (mkF m 106 #[vR a0, vR a1, vR a2, vI p3, vI (0 : Int32), vJ (0 : Int64), .second, vI (0 : Int32)] [(.int (0 : Int32)), (.ref a1), (.long (0 : Int64))])) _
    exact k)
  obtain ⟨cl10, Ar10, q10, S10, M10, H10, G10⟩ := id V3
  have in10 : ¬ ((0 : Int32) < 0 ∨ cl10.slots.size ≤ ((0 : Int32)).toNatClampNeg) := inb_of S10 ⟨by decide, by decide⟩
  have at10 : cl10.slots[((0 : Int32)).toNatClampNeg]? = some (.int y0) := H10.at in10 rfl
  have pre11 : Go p.tables e below S0 T6 (mkF m 109 #[vR a0, vR a1, vR a2, vI p3, vI (0 : Int32), vJ (0 : Int64), .second, vI (0 : Int32)] [(.ref a0), (.long (y0.toInt64)), (.long (0 : Int64))]) := fun t k => pre9 t (by
    refine X6.iaload hx (j := (0 : Int32)) (v := (.int y0)) (by rw [e6]; exact Ar10.1) (State.isArrayOf_alike hZ.alike Ar10.2.1) Ar10.2.2 in10 at10 (g := (mkF m 106 #[vR a0, vR a1, vR a2, vI p3, vI (0 : Int32), vJ (0 : Int64), .second, vI (0 : Int32)] [(.int (0 : Int32)), (.ref a1), (.long (0 : Int64))])) rfl rfl (hb hby d5_106) _ ?_
    refine XS.i2l X6.here hx rfl (hb hby d5_107) rfl ?_
    refine XS.aloadN X6.here hx rfl (hb hby d5_108) rfl rfl ?_
    show Steps p.tables e below (T6.setTop (mkF m 109 #[vR a0, vR a1, vR a2, vI p3, vI (0 : Int32), vJ (0 : Int64), .second, vI (0 : Int32)] [(.ref a0), (.long (y0.toInt64)), (.long (0 : Int64))])) _
    exact k)
  obtain ⟨T12, X12, e12, st12⟩ := getF X6 hx hZ hown (host := "") (Or.inl (hw _ (List.mem_of_getElem? (i := 20) rfl))) Via.refl e6 Fs (g := (mkF m 109 #[vR a0, vR a1, vR a2, vI p3, vI (0 : Int32), vJ (0 : Int64), .second, vI (0 : Int32)] [(.ref a0), (.long (y0.toInt64)), (.long (0 : Int64))])) rfl rfl (hb hby d5_109)
  have pre12 : Go p.tables e below S0 T12 (mkF m 112 #[vR a0, vR a1, vR a2, vI p3, vI (0 : Int32), vJ (0 : Int64), .second, vI (0 : Int32)] [(.ref as), (.long (y0.toInt64)), (.long (0 : Int64))]) := fun t k => pre11 t (st12 t k)
  have pre13 : Go p.tables e below S0 T12 (mkF m 114 #[vR a0, vR a1, vR a2, vI p3, vI (0 : Int32), vJ (0 : Int64), .second, vI (0 : Int32)] [(.int (0 : Int32)), (.ref as), (.long (y0.toInt64)), (.long (0 : Int64))]) := fun t k => pre12 t (by
    refine XS.iload X12.here hx rfl (hb hby d5_112) rfl ?_
    exact k)
  obtain ⟨cl14, Ar14, q14, S14, M14, H14, G14⟩ := id V2
  have in14 : ¬ ((0 : Int32) < 0 ∨ cl14.slots.size ≤ ((0 : Int32)).toNatClampNeg) := inb_of S14 ⟨by decide, by decide⟩
  have at14 : cl14.slots[((0 : Int32)).toNatClampNeg]? = some (.int u0) := H14.at in14 rfl
  obtain ⟨v15, hv15, pre15⟩ : ∃ z : Int64, z = ((0 : Int64) ||| ((y0.toInt64) <<< (u0 &&& 0x3f).toInt64)) ∧ Go p.tables e below S0 T12 (mkF m 119 #[vR a0, vR a1, vR a2, vI p3, vI (0 : Int32), vJ z, .second, vI (0 : Int32)] []) := ⟨_, rfl, fun t k => pre13 t (by
    refine X12.iaload hx (j := (0 : Int32)) (v := (.int u0)) (by rw [e12]; exact Ar14.1) (State.isArrayOf_alike hZ.alike Ar14.2.1) Ar14.2.2 in14 at14 (g := (mkF m 114 #[vR a0, vR a1, vR a2, vI p3, vI (0 : Int32), vJ (0 : Int64), .second, vI (0 : Int32)] [(.int (0 : Int32)), (.ref as), (.long (y0.toInt64)), (.long (0 : Int64))])) rfl rfl (hb hby d5_114) _ ?_
    refine XS.lshl X12.here hx rfl (hb hby d5_115) rfl ?_
    refine XS.lor X12.here hx rfl (hb hby d5_116) rfl ?_
    show Steps p.tables e below (T12.setTop (mkF m 117 #[vR a0, vR a1, vR a2, vI p3, vI (0 : Int32), vJ (0 : Int64), .second, vI (0 : Int32)] [(.long ((0 : Int64) ||| ((y0.toInt64) <<< (u0 &&& 0x3f).toInt64)))])) _
    refine XS.lstore X12.here hx rfl (hb hby d5_117) rfl (l' := #[vR a0, vR a1, vR a2, vI p3, vI (0 : Int32), vJ ((0 : Int64) ||| ((y0.toInt64) <<< (u0 &&& 0x3f).toInt64)), .second, vI (0 : Int32)]) rfl ?_
    exact k)⟩
  have pre16 : Go p.tables e below S0 T12 (mkF m 65 #[vR a0, vR a1, vR a2, vI p3, vI (0 : Int32), vJ v15, .second, vI (1 : Int32)] [(.ref a1), (.int (1 : Int32))]) := fun t k => pre15 t (by
    refine XS.iinc X12.here hx rfl (hb hby d5_119) rfl (l' := #[vR a0, vR a1, vR a2, vI p3, vI (0 : Int32), vJ v15, .second, vI (1 : Int32)]) rfl ?_
    refine XS.goto X12.here hx rfl (pc0 := 122) (pc' := 62) rfl (hb hby d5_122) (by decide) (by decide) ?_
    refine XS.iload X12.here hx rfl (hb hby d5_62) rfl ?_
    show Steps p.tables e below (T12.setTop (mkF m 64 #[vR a0, vR a1, vR a2, vI p3, vI (0 : Int32), vJ v15, .second, vI (1 : Int32)] [(.int (1 : Int32))])) _
    refine XS.aloadN X12.here hx rfl (hb hby d5_64) rfl rfl ?_
    exact k)
  obtain ⟨cl17, Ar17, q17, S17, M17, H17, G17⟩ := id V3
  have pre18 : Go p.tables e below S0 T12 (mkF m 70 #[vR a0, vR a1, vR a2, vI p3, vI (0 : Int32), vJ v15, .second, vI (1 : Int32)] [(.ref a0)]) := fun t k => pre16 t (by
    refine X12.arraylength hx (by rw [e12]; exact Ar17.1) (State.isArrayOf_alike hZ.alike Ar17.2.1) (g := (mkF m 65 #[vR a0, vR a1, vR a2, vI p3, vI (0 : Int32), vJ v15, .second, vI (1 : Int32)] [(.ref a1), (.int (1 : Int32))])) rfl rfl (hb hby d5_65) _ ?_
    rw [len_of S17 M17]
    refine XS.icmpNo X12.here hx rfl (hb hby d5_66) rfl (tlt (by decide : (1 : Int32) < (4 : Int32))).2.1 ?_
    refine XS.aloadN X12.here hx rfl (hb hby d5_69) rfl rfl ?_
    show Steps p.tables e below (T12.setTop (mkF m 70 #[vR a0, vR a1, vR a2, vI p3, vI (0 : Int32), vJ v15, .second, vI (1 : Int32)] [(.ref a0)])) _
    exact k)
  obtain ⟨T19, X19, e19, st19⟩ := getF X12 hx hZ hown (host := "") (Or.inl (hw _ (List.mem_of_getElem? (i := 18) rfl))) Via.refl e12 Fw (g := (mkF m 70 #[vR a0, vR a1, vR a2, vI p3, vI (0 : Int32), vJ v15, .second, vI (1 : Int32)] [(.ref a0)])) rfl rfl (hb hby d5_70)
  have pre19 : Go p.tables e below S0 T19 (mkF m 73 #[vR a0, vR a1, vR a2, vI p3, vI (0 : Int32), vJ v15, .second, vI (1 : Int32)] [(.ref aw)]) := fun t k => pre18 t (st19 t k)
  have pre20 : Go p.tables e below S0 T19 (mkF m 75 #[vR a0, vR a1, vR a2, vI p3, vI (0 : Int32), vJ v15, .second, vI (1 : Int32)] [(.int (1 : Int32)), (.ref aw)]) := fun t k => pre19 t (by
    refine XS.iload X19.here hx rfl (hb hby d5_73) rfl ?_
    exact k)
  obtain ⟨cl21, Ar21, q21, S21, M21, H21, G21⟩ := id V1
  have in21 : ¬ ((1 : Int32) < 0 ∨ cl21.slots.size ≤ ((1 : Int32)).toNatClampNeg) := inb_of S21 ⟨by decide, by decide⟩
  have at21 : cl21.slots[((1 : Int32)).toNatClampNeg]? = some (.int (0 : Int32)) := H21.at in21 rfl
  have pre22 : Go p.tables e below S0 T19 (mkF m 106 #[vR a0, vR a1, vR a2, vI p3, vI (0 : Int32), vJ v15, .second, vI (1 : Int32)] [(.int (1 : Int32)), (.ref a1), (.long v15)]) := fun t k => pre20 t (by
    refine X19.iaload hx (j := (1 : Int32)) (v := (.int (0 : Int32))) (by rw [e19]; exact Ar21.1) (State.isArrayOf_alike hZ.alike Ar21.2.1) Ar21.2.2 in21 at21 (g := (mkF m 75 #[vR a0, vR a1, vR a2, vI p3, vI (0 : Int32), vJ v15, .second, vI (1 : Int32)] [(.int (1 : Int32)), (.ref aw)])) rfl rfl (hb hby d5_75) _ ?_
    refine XS.iload X19.here hx rfl (hb hby d5_76) rfl ?_
    refine XS.icmpYes X19.here hx rfl (pc0 := 78) (pc' := 101) rfl (hb hby d5_78) rfl (teq (rfl : (0 : Int32) = (0 : Int32))).1 (by decide) (by decide) ?_
    show Steps p.tables e below (T19.setTop (mkF m 101 #[vR a0, vR a1, vR a2, vI p3, vI (0 : Int32), vJ v15, .second, vI (1 : Int32)] [])) _
    refine XS.lload X19.here hx rfl (hb hby d5_101) rfl ?_
    refine XS.aloadN X19.here hx rfl (hb hby d5_103) rfl rfl ?_
    refine XS.iload X19.here hx rfl (hb hby d5_104) rfl ?_
    show Steps p.tables e below (T19.setTop (mkF m 106 #[vR a0, vR a1, vR a2, vI p3, vI (0 : Int32), vJ v15, .second, vI (1 : Int32)] [(.int (1 : Int32)), (.ref a1), (.long v15)])) _
    exact k)
  obtain ⟨cl23, Ar23, q23, S23, M23, H23, G23⟩ := id V3
  have in23 : ¬ ((1 : Int32) < 0 ∨ cl23.slots.size ≤ ((1 : Int32)).toNatClampNeg) := inb_of S23 ⟨by decide, by decide⟩
  have at23 : cl23.slots[((1 : Int32)).toNatClampNeg]? = some (.int y1) := H23.at in23 rfl
  have pre24 : Go p.tables e below S0 T19 (mkF m 109 #[vR a0, vR a1, vR a2, vI p3, vI (0 : Int32), vJ v15, .second, vI (1 : Int32)] [(.ref a0), (.long (y1.toInt64)), (.long v15)]) := fun t k => pre22 t (by
    refine X19.iaload hx (j := (1 : Int32)) (v := (.int y1)) (by rw [e19]; exact Ar23.1) (State.isArrayOf_alike hZ.alike Ar23.2.1) Ar23.2.2 in23 at23 (g := (mkF m 106 #[vR a0, vR a1, vR a2, vI p3, vI (0 : Int32), vJ v15, .second, vI (1 : Int32)] [(.int (1 : Int32)), (.ref a1), (.long v15)])) rfl rfl (hb hby d5_106) _ ?_
    refine XS.i2l X19.here hx rfl (hb hby d5_107) rfl ?_
    refine XS.aloadN X19.here hx rfl (hb hby d5_108) rfl rfl ?_
    show Steps p.tables e below (T19.setTop (mkF m 109 #[vR a0, vR a1, vR a2, vI p3, vI (0 : Int32), vJ v15, .second, vI (1 : Int32)] [(.ref a0), (.long (y1.toInt64)), (.long v15)])) _
    exact k)
  obtain ⟨T25, X25, e25, st25⟩ := getF X19 hx hZ hown (host := "") (Or.inl (hw _ (List.mem_of_getElem? (i := 20) rfl))) Via.refl e19 Fs (g := (mkF m 109 #[vR a0, vR a1, vR a2, vI p3, vI (0 : Int32), vJ v15, .second, vI (1 : Int32)] [(.ref a0), (.long (y1.toInt64)), (.long v15)])) rfl rfl (hb hby d5_109)
  have pre25 : Go p.tables e below S0 T25 (mkF m 112 #[vR a0, vR a1, vR a2, vI p3, vI (0 : Int32), vJ v15, .second, vI (1 : Int32)] [(.ref as), (.long (y1.toInt64)), (.long v15)]) := fun t k => pre24 t (st25 t k)
  have pre26 : Go p.tables e below S0 T25 (mkF m 114 #[vR a0, vR a1, vR a2, vI p3, vI (0 : Int32), vJ v15, .second, vI (1 : Int32)] [(.int (1 : Int32)), (.ref as), (.long (y1.toInt64)), (.long v15)]) := fun t k => pre25 t (by
    refine XS.iload X25.here hx rfl (hb hby d5_112) rfl ?_
    exact k)
  obtain ⟨cl27, Ar27, q27, S27, M27, H27, G27⟩ := id V2
  have in27 : ¬ ((1 : Int32) < 0 ∨ cl27.slots.size ≤ ((1 : Int32)).toNatClampNeg) := inb_of S27 ⟨by decide, by decide⟩
  have at27 : cl27.slots[((1 : Int32)).toNatClampNeg]? = some (.int u1) := H27.at in27 rfl
  obtain ⟨v28, hv28, pre28⟩ : ∃ z : Int64, z = (v15 ||| ((y1.toInt64) <<< (u1 &&& 0x3f).toInt64)) ∧ Go p.tables e below S0 T25 (mkF m 119 #[vR a0, vR a1, vR a2, vI p3, vI (0 : Int32), vJ z, .second, vI (1 : Int32)] []) := ⟨_, rfl, fun t k => pre26 t (by
    refine X25.iaload hx (j := (1 : Int32)) (v := (.int u1)) (by rw [e25]; exact Ar27.1) (State.isArrayOf_alike hZ.alike Ar27.2.1) Ar27.2.2 in27 at27 (g := (mkF m 114 #[vR a0, vR a1, vR a2, vI p3, vI (0 : Int32), vJ v15, .second, vI (1 : Int32)] [(.int (1 : Int32)), (.ref as), (.long (y1.toInt64)), (.long v15)])) rfl rfl (hb hby d5_114) _ ?_
    refine XS.lshl X25.here hx rfl (hb hby d5_115) rfl ?_
    refine XS.lor X25.here hx rfl (hb hby d5_116) rfl ?_
    show Steps p.tables e below (T25.setTop (mkF m 117 #[vR a0, vR a1, vR a2, vI p3, vI (0 : Int32), vJ v15, .second, vI (1 : Int32)] [(.long (v15 ||| ((y1.toInt64) <<< (u1 &&& 0x3f).toInt64)))])) _
    refine XS.lstore X25.here hx rfl (hb hby d5_117) rfl (l' := #[vR a0, vR a1, vR a2, vI p3, vI (0 : Int32), vJ (v15 ||| ((y1.toInt64) <<< (u1 &&& 0x3f).toInt64)), .second, vI (1 : Int32)]) rfl ?_
    exact k)⟩
  have pre29 : Go p.tables e below S0 T25 (mkF m 65 #[vR a0, vR a1, vR a2, vI p3, vI (0 : Int32), vJ v28, .second, vI (2 : Int32)] [(.ref a1), (.int (2 : Int32))]) := fun t k => pre28 t (by
    refine XS.iinc X25.here hx rfl (hb hby d5_119) rfl (l' := #[vR a0, vR a1, vR a2, vI p3, vI (0 : Int32), vJ v28, .second, vI (2 : Int32)]) rfl ?_
    refine XS.goto X25.here hx rfl (pc0 := 122) (pc' := 62) rfl (hb hby d5_122) (by decide) (by decide) ?_
    refine XS.iload X25.here hx rfl (hb hby d5_62) rfl ?_
    show Steps p.tables e below (T25.setTop (mkF m 64 #[vR a0, vR a1, vR a2, vI p3, vI (0 : Int32), vJ v28, .second, vI (2 : Int32)] [(.int (2 : Int32))])) _
    refine XS.aloadN X25.here hx rfl (hb hby d5_64) rfl rfl ?_
    exact k)
  obtain ⟨cl30, Ar30, q30, S30, M30, H30, G30⟩ := id V3
  have pre31 : Go p.tables e below S0 T25 (mkF m 70 #[vR a0, vR a1, vR a2, vI p3, vI (0 : Int32), vJ v28, .second, vI (2 : Int32)] [(.ref a0)]) := fun t k => pre29 t (by
    refine X25.arraylength hx (by rw [e25]; exact Ar30.1) (State.isArrayOf_alike hZ.alike Ar30.2.1) (g := (mkF m 65 #[vR a0, vR a1, vR a2, vI p3, vI (0 : Int32), vJ v28, .second, vI (2 : Int32)] [(.ref a1), (.int (2 : Int32))])) rfl rfl (hb hby d5_65) _ ?_
    rw [len_of S30 M30]
    refine XS.icmpNo X25.here hx rfl (hb hby d5_66) rfl (tlt (by decide : (2 : Int32) < (4 : Int32))).2.1 ?_
    refine XS.aloadN X25.here hx rfl (hb hby d5_69) rfl rfl ?_
    show Steps p.tables e below (T25.setTop (mkF m 70 #[vR a0, vR a1, vR a2, vI p3, vI (0 : Int32), vJ v28, .second, vI (2 : Int32)] [(.ref a0)])) _
    exact k)
  obtain ⟨T32, X32, e32, st32⟩ := getF X25 hx hZ hown (host := "") (Or.inl (hw _ (List.mem_of_getElem? (i := 18) rfl))) Via.refl e25 Fw (g := (mkF m 70 #[vR a0, vR a1, vR a2, vI p3, vI (0 : Int32), vJ v28, .second, vI (2 : Int32)] [(.ref a0)])) rfl rfl (hb hby d5_70)
  have pre32 : Go p.tables e below S0 T32 (mkF m 73 #[vR a0, vR a1, vR a2, vI p3, vI (0 : Int32), vJ v28, .second, vI (2 : Int32)] [(.ref aw)]) := fun t k => pre31 t (st32 t k)
  have pre33 : Go p.tables e below S0 T32 (mkF m 75 #[vR a0, vR a1, vR a2, vI p3, vI (0 : Int32), vJ v28, .second, vI (2 : Int32)] [(.int (2 : Int32)), (.ref aw)]) := fun t k => pre32 t (by
    refine XS.iload X32.here hx rfl (hb hby d5_73) rfl ?_
    exact k)
  obtain ⟨cl34, Ar34, q34, S34, M34, H34, G34⟩ := id V1
  have in34 : ¬ ((2 : Int32) < 0 ∨ cl34.slots.size ≤ ((2 : Int32)).toNatClampNeg) := inb_of S34 ⟨by decide, by decide⟩
  have at34 : cl34.slots[((2 : Int32)).toNatClampNeg]? = some (.int (0 : Int32)) := H34.at in34 rfl
  have pre35 : Go p.tables e below S0 T32 (mkF m 106 #[vR a0, vR a1, vR a2, vI p3, vI (0 : Int32), vJ v28, .second, vI (2 : Int32)] [(.int (2 : Int32)), (.ref a1), (.long v28)]) := fun t k => pre33 t (by
    refine X32.iaload hx (j := (2 : Int32)) (v := (.int (0 : Int32))) (by rw [e32]; exact Ar34.1) (State.isArrayOf_alike hZ.alike Ar34.2.1) Ar34.2.2 in34 at34 (g := (mkF m 75 #[vR a0, vR a1, vR a2, vI p3, vI (0 : Int32), vJ v28, .second, vI (2 : Int32)] [(.int (2 : Int32)), (.ref aw)])) rfl rfl (hb hby d5_75) _ ?_
    refine XS.iload X32.here hx rfl (hb hby d5_76) rfl ?_
    refine XS.icmpYes X32.here hx rfl (pc0 := 78) (pc' := 101) rfl (hb hby d5_78) rfl (teq (rfl : (0 : Int32) = (0 : Int32))).1 (by decide) (by decide) ?_
    show Steps p.tables e below (T32.setTop (mkF m 101 #[vR a0, vR a1, vR a2, vI p3, vI (0 : Int32), vJ v28, .second, vI (2 : Int32)] [])) _
    refine XS.lload X32.here hx rfl (hb hby d5_101) rfl ?_
    refine XS.aloadN X32.here hx rfl (hb hby d5_103) rfl rfl ?_
    refine XS.iload X32.here hx rfl (hb hby d5_104) rfl ?_
    show Steps p.tables e below (T32.setTop (mkF m 106 #[vR a0, vR a1, vR a2, vI p3, vI (0 : Int32), vJ v28, .second, vI (2 : Int32)] [(.int (2 : Int32)), (.ref a1), (.long v28)])) _
    exact k)
  obtain ⟨cl36, Ar36, q36, S36, M36, H36, G36⟩ := id V3
  have in36 : ¬ ((2 : Int32) < 0 ∨ cl36.slots.size ≤ ((2 : Int32)).toNatClampNeg) := inb_of S36 ⟨by decide, by decide⟩
  have at36 : cl36.slots[((2 : Int32)).toNatClampNeg]? = some (.int y2) := H36.at in36 rfl
  have pre37 : Go p.tables e below S0 T32 (mkF m 109 #[vR a0, vR a1, vR a2, vI p3, vI (0 : Int32), vJ v28, .second, vI (2 : Int32)] [(.ref a0), (.long (y2.toInt64)), (.long v28)]) := fun t k => pre35 t (by
    refine X32.iaload hx (j := (2 : Int32)) (v := (.int y2)) (by rw [e32]; exact Ar36.1) (State.isArrayOf_alike hZ.alike Ar36.2.1) Ar36.2.2 in36 at36 (g := (mkF m 106 #[vR a0, vR a1, vR a2, vI p3, vI (0 : Int32), vJ v28, .second, vI (2 : Int32)] [(.int (2 : Int32)), (.ref a1), (.long v28)])) rfl rfl (hb hby d5_106) _ ?_
    refine XS.i2l X32.here hx rfl (hb hby d5_107) rfl ?_
    refine XS.aloadN X32.here hx rfl (hb hby d5_108) rfl rfl ?_
    show Steps p.tables e below (T32.setTop (mkF m 109 #[vR a0, vR a1, vR a2, vI p3, vI (0 : Int32), vJ v28, .second, vI (2 : Int32)] [(.ref a0), (.long (y2.toInt64)), (.long v28)])) _
    exact k)
  obtain ⟨T38, X38, e38, st38⟩ := getF X32 hx hZ hown (host := "") (Or.inl (hw _ (List.mem_of_getElem? (i := 20) rfl))) Via.refl e32 Fs (g := (mkF m 109 #[vR a0, vR a1, vR a2, vI p3, vI (0 : Int32), vJ v28, .second, vI (2 : Int32)] [(.ref a0), (.long (y2.toInt64)), (.long v28)])) rfl rfl (hb hby d5_109)
  have pre38 : Go p.tables e below S0 T38 (mkF m 112 #[vR a0, vR a1, vR a2, vI p3, vI (0 : Int32), vJ v28, .second, vI (2 : Int32)] [(.ref as), (.long (y2.toInt64)), (.long v28)]) := fun t k => pre37 t (st38 t k)
  have pre39 : Go p.tables e below S0 T38 (mkF m 114 #[vR a0, vR a1, vR a2, vI p3, vI (0 : Int32), vJ v28, .second, vI (2 : Int32)] [(.int (2 : Int32)), (.ref as), (.long (y2.toInt64)), (.long v28)]) := fun t k => pre38 t (by
    refine XS.iload X38.here hx rfl (hb hby d5_112) rfl ?_
    exact k)
  obtain ⟨cl40, Ar40, q40, S40, M40, H40, G40⟩ := id V2
  have in40 : ¬ ((2 : Int32) < 0 ∨ cl40.slots.size ≤ ((2 : Int32)).toNatClampNeg) := inb_of S40 ⟨by decide, by decide⟩
  have at40 : cl40.slots[((2 : Int32)).toNatClampNeg]? = some (.int u2) := H40.at in40 rfl
  obtain ⟨v41, hv41, pre41⟩ : ∃ z : Int64, z = (v28 ||| ((y2.toInt64) <<< (u2 &&& 0x3f).toInt64)) ∧ Go p.tables e below S0 T38 (mkF m 119 #[vR a0, vR a1, vR a2, vI p3, vI (0 : Int32), vJ z, .second, vI (2 : Int32)] []) := ⟨_, rfl, fun t k => pre39 t (by
    refine X38.iaload hx (j := (2 : Int32)) (v := (.int u2)) (by rw [e38]; exact Ar40.1) (State.isArrayOf_alike hZ.alike Ar40.2.1) Ar40.2.2 in40 at40 (g := (mkF m 114 #[vR a0, vR a1, vR a2, vI p3, vI (0 : Int32), vJ v28, .second, vI (2 : Int32)] [(.int (2 : Int32)), (.ref as), (.long (y2.toInt64)), (.long v28)])) rfl rfl (hb hby d5_114) _ ?_
    refine XS.lshl X38.here hx rfl (hb hby d5_115) rfl ?_
    refine XS.lor X38.here hx rfl (hb hby d5_116) rfl ?_
    show Steps p.tables e below (T38.setTop (mkF m 117 #[vR a0, vR a1, vR a2, vI p3, vI (0 : Int32), vJ v28, .second, vI (2 : Int32)] [(.long (v28 ||| ((y2.toInt64) <<< (u2 &&& 0x3f).toInt64)))])) _
    refine XS.lstore X38.here hx rfl (hb hby d5_117) rfl (l' := #[vR a0, vR a1, vR a2, vI p3, vI (0 : Int32), vJ (v28 ||| ((y2.toInt64) <<< (u2 &&& 0x3f).toInt64)), .second, vI (2 : Int32)]) rfl ?_
    exact k)⟩
  have pre42 : Go p.tables e below S0 T38 (mkF m 65 #[vR a0, vR a1, vR a2, vI p3, vI (0 : Int32), vJ v41, .second, vI (3 : Int32)] [(.ref a1), (.int (3 : Int32))]) := fun t k => pre41 t (by
    refine XS.iinc X38.here hx rfl (hb hby d5_119) rfl (l' := #[vR a0, vR a1, vR a2, vI p3, vI (0 : Int32), vJ v41, .second, vI (3 : Int32)]) rfl ?_
    refine XS.goto X38.here hx rfl (pc0 := 122) (pc' := 62) rfl (hb hby d5_122) (by decide) (by decide) ?_
    refine XS.iload X38.here hx rfl (hb hby d5_62) rfl ?_
    show Steps p.tables e below (T38.setTop (mkF m 64 #[vR a0, vR a1, vR a2, vI p3, vI (0 : Int32), vJ v41, .second, vI (3 : Int32)] [(.int (3 : Int32))])) _
    refine XS.aloadN X38.here hx rfl (hb hby d5_64) rfl rfl ?_
    exact k)
  obtain ⟨cl43, Ar43, q43, S43, M43, H43, G43⟩ := id V3
  have pre44 : Go p.tables e below S0 T38 (mkF m 70 #[vR a0, vR a1, vR a2, vI p3, vI (0 : Int32), vJ v41, .second, vI (3 : Int32)] [(.ref a0)]) := fun t k => pre42 t (by
    refine X38.arraylength hx (by rw [e38]; exact Ar43.1) (State.isArrayOf_alike hZ.alike Ar43.2.1) (g := (mkF m 65 #[vR a0, vR a1, vR a2, vI p3, vI (0 : Int32), vJ v41, .second, vI (3 : Int32)] [(.ref a1), (.int (3 : Int32))])) rfl rfl (hb hby d5_65) _ ?_
    rw [len_of S43 M43]
    refine XS.icmpNo X38.here hx rfl (hb hby d5_66) rfl (tlt (by decide : (3 : Int32) < (4 : Int32))).2.1 ?_
    refine XS.aloadN X38.here hx rfl (hb hby d5_69) rfl rfl ?_
    show Steps p.tables e below (T38.setTop (mkF m 70 #[vR a0, vR a1, vR a2, vI p3, vI (0 : Int32), vJ v41, .second, vI (3 : Int32)] [(.ref a0)])) _
    exact k)
  obtain ⟨T45, X45, e45, st45⟩ := getF X38 hx hZ hown (host := "") (Or.inl (hw _ (List.mem_of_getElem? (i := 18) rfl))) Via.refl e38 Fw (g := (mkF m 70 #[vR a0, vR a1, vR a2, vI p3, vI (0 : Int32), vJ v41, .second, vI (3 : Int32)] [(.ref a0)])) rfl rfl (hb hby d5_70)
  have pre45 : Go p.tables e below S0 T45 (mkF m 73 #[vR a0, vR a1, vR a2, vI p3, vI (0 : Int32), vJ v41, .second, vI (3 : Int32)] [(.ref aw)]) := fun t k => pre44 t (st45 t k)
  have pre46 : Go p.tables e below S0 T45 (mkF m 75 #[vR a0, vR a1, vR a2, vI p3, vI (0 : Int32), vJ v41, .second, vI (3 : Int32)] [(.int (3 : Int32)), (.ref aw)]) := fun t k => pre45 t (by
    refine XS.iload X45.here hx rfl (hb hby d5_73) rfl ?_
    exact k)
  obtain ⟨cl47, Ar47, q47, S47, M47, H47, G47⟩ := id V1
  have in47 : ¬ ((3 : Int32) < 0 ∨ cl47.slots.size ≤ ((3 : Int32)).toNatClampNeg) := inb_of S47 ⟨by decide, by decide⟩
  have at47 : cl47.slots[((3 : Int32)).toNatClampNeg]? = some (.int (1 : Int32)) := H47.at in47 rfl
  have pre48 : Go p.tables e below S0 T45 (mkF m 88 #[vR a0, vR a1, vR a2, vI p3, vI (0 : Int32), vJ v41, .second, vI (3 : Int32)] [(.long v41), (.int (p3 + (0 : Int32))), (.ref a2)]) := fun t k => pre46 t (by
    refine X45.iaload hx (j := (3 : Int32)) (v := (.int (1 : Int32))) (by rw [e45]; exact Ar47.1) (State.isArrayOf_alike hZ.alike Ar47.2.1) Ar47.2.2 in47 at47 (g := (mkF m 75 #[vR a0, vR a1, vR a2, vI p3, vI (0 : Int32), vJ v41, .second, vI (3 : Int32)] [(.int (3 : Int32)), (.ref aw)])) rfl rfl (hb hby d5_75) _ ?_
    refine XS.iload X45.here hx rfl (hb hby d5_76) rfl ?_
    refine XS.icmpNo X45.here hx rfl (hb hby d5_78) rfl (feq (by decide : ¬ ((1 : Int32) = (0 : Int32)))).1 ?_
    show Steps p.tables e below (T45.setTop (mkF m 81 #[vR a0, vR a1, vR a2, vI p3, vI (0 : Int32), vJ v41, .second, vI (3 : Int32)] [])) _
    refine XS.aloadN X45.here hx rfl (hb hby d5_81) rfl rfl ?_
    refine XS.iloadN X45.here hx rfl (hb hby d5_82) rfl ?_
    refine XS.iload X45.here hx rfl (hb hby d5_83) rfl ?_
    show Steps p.tables e below (T45.setTop (mkF m 85 #[vR a0, vR a1, vR a2, vI p3, vI (0 : Int32), vJ v41, .second, vI (3 : Int32)] [(.int (0 : Int32)), (.int p3), (.ref a2)])) _
    refine XS.iadd X45.here hx rfl (hb hby d5_85) rfl ?_
    refine XS.lload X45.here hx rfl (hb hby d5_86) rfl ?_
    exact k)
  obtain ⟨cl49, Ar49, q49, S49, M49, H49, G49⟩ := id V4
  have in49 : ¬ ((p3 + (0 : Int32)) < 0 ∨ cl49.slots.size ≤ ((p3 + (0 : Int32))).toNatClampNeg) := inb_of S49 hin0
  obtain ⟨T49, h49, X49, e49, W49, st49⟩ := stJ X45 hx hZ e45 Ar49 (j := (p3 + (0 : Int32))) in49 (g := (mkF m 88 #[vR a0, vR a1, vR a2, vI p3, vI (0 : Int32), vJ v41, .second, vI (3 : Int32)] [(.long v41), (.int (p3 + (0 : Int32))), (.ref a2)])) rfl rfl (hb hby d5_88)
  have pre49 : Go p.tables e below S0 T49 (mkF m 89 #[vR a0, vR a1, vR a2, vI p3, vI (0 : Int32), vJ v41, .second, vI (3 : Int32)] []) := fun t k => pre48 t (st49 t k)
  obtain ⟨lo49, N49, X49⟩ : ∃ lo, Fr n0 lo ∧ Stand p l e ({ frames := 0, cells := 0, slots := 0, locals := 0 } : Room) s m #[(.ref a0), (.ref a1), (.ref a2), (.int p3)] below meth c T49 lo 0 0 := ⟨_, Fr.snoc X49 N0 g0, X49⟩
  have av49 : Arv Z h49 a2 k2 .long (2 : Int32) [(.long (own_putL (p3 + (0 : Int32)) (0 : Int32) v41 x0)), (.long (own_putL (p3 + (0 : Int32)) (1 : Int32) v41 x1))] (.long (0 : Int64)) := by
    have q := Arv.set Ar49 q49 S49 M49 H49 G49 rfl W49 _ rfl (own_setJ2 (w := 0) (x0 := 0) (x1 := 0) hin0).1
    rw [(own_setJ2 hin0).2] at q
    exact q
  have f50_1 := Fld.other W49 Fn (Or.inl xe0)
  have f50_2 := Fld.other W49 Fw (Or.inl xe0)
  have f50_3 := Fld.other W49 Fs (Or.inl xe0)
  have f50_4 := V1.other W49 xe1
  have f50_5 := V2.other W49 xe2
  have f50_6 := V3.other W49 xe3
  have zz51 : n0 ≤ h49.size := Nat.le_trans Z0 (Keep.of_wr W49).1
  have kp52 : Keep h0 h49 [a2] := kp0.wr W49 (Or.inl (List.mem_of_getElem? (i := 0) rfl))
  have pre53 : Go p.tables e below S0 T49 (mkF m 90 #[vR a0, vR a1, vR a2, vI p3, vI (0 : Int32), vJ v41, .second, vI (3 : Int32)] [(.ref a0)]) := fun t k => pre49 t (by
    refine XS.aloadN X49.here hx rfl (hb hby d5_89) rfl rfl ?_
    exact k)
  obtain ⟨T54, X54, e54, st54⟩ := getF X49 hx hZ hown (host := "") (Or.inl (hw _ (List.mem_of_getElem? (i := 18) rfl))) Via.refl e49 f50_2 (g := (mkF m 90 #[vR a0, vR a1, vR a2, vI p3, vI (0 : Int32), vJ v41, .second, vI (3 : Int32)] [(.ref a0)])) rfl rfl (hb hby d5_90)
  have pre54 : Go p.tables e below S0 T54 (mkF m 93 #[vR a0, vR a1, vR a2, vI p3, vI (0 : Int32), vJ v41, .second, vI (3 : Int32)] [(.ref aw)]) := fun t k => pre53 t (st54 t k)
  have pre55 : Go p.tables e below S0 T54 (mkF m 95 #[vR a0, vR a1, vR a2, vI p3, vI (0 : Int32), vJ v41, .second, vI (3 : Int32)] [(.int (3 : Int32)), (.ref aw)]) := fun t k => pre54 t (by
    refine XS.iload X54.here hx rfl (hb hby d5_93) rfl ?_
    exact k)
  obtain ⟨cl56, Ar56, q56, S56, M56, H56, G56⟩ := id f50_4
  have in56 : ¬ ((3 : Int32) < 0 ∨ cl56.slots.size ≤ ((3 : Int32)).toNatClampNeg) := inb_of S56 ⟨by decide, by decide⟩
  have at56 : cl56.slots[((3 : Int32)).toNatClampNeg]? = some (.int (1 : Int32)) := H56.at in56 rfl
  have pre57 : Go p.tables e below S0 T54 (mkF m 106 #[vR a0, vR a1, vR a2, vI p3, vI (1 : Int32), vJ (0 : Int64), .second, vI (3 : Int32)] [(.int (3 : Int32)), (.ref a1), (.long (0 : Int64))]) := fun t k => pre55 t (by
    refine X54.iaload hx (j := (3 : Int32)) (v := (.int (1 : Int32))) (by rw [e54]; exact Ar56.1) (State.isArrayOf_alike hZ.alike Ar56.2.1) Ar56.2.2 in56 at56 (g := (mkF m 95 #[vR a0, vR a1, vR a2, vI p3, vI (0 : Int32), vJ v41, .second, vI (3 : Int32)] [(.int (3 : Int32)), (.ref aw)])) rfl rfl (hb hby d5_95) _ ?_
    refine XS.istore X54.here hx rfl (hb hby d5_96) rfl (l' := #[vR a0, vR a1, vR a2, vI p3, vI (1 : Int32), vJ v41, .second, vI (3 : Int32)]) rfl ?_
    refine XS.lconst X54.here hx rfl (hb hby d5_98) ?_
    show Steps p.tables e below (T54.setTop (mkF m 99 #[vR a0, vR a1, vR a2, vI p3, vI (1 : Int32), vJ v41, .second, vI (3 : Int32)] [(.long (0 : Int64))])) _
    refine XS.lstore X54.here hx rfl (hb hby d5_99) rfl (l' := #[vR a0, vR a1, vR a2, vI p3, vI (1 : Int32), vJ (0 : Int64), .second, vI (3 : Int32)]) rfl ?_
    refine XS.lload X54.here hx rfl (hb hby d5_101) rfl ?_
    refine XS.aloadN X54.here hx rfl (hb hby d5_103) rfl rfl ?_
    show Steps p.tables e below (T54.setTop (mkF m 104 #[vR a0, vR a1, vR a2, vI p3, vI (1 : Int32), vJ (0 : Int64), .second, vI (3 : Int32)] [(.ref a1), (.long (0 : Int64))])) _
    refine XS.iload X54.here hx rfl (hb hby d5_104) rfl ?_
    exact k)
  obtain ⟨cl58, Ar58, q58, S58, M58, H58, G58⟩ := id f50_6
  have in58 : ¬ ((3 : Int32) < 0 ∨ cl58.slots.size ≤ ((3 : Int32)).toNatClampNeg) := inb_of S58 ⟨by decide, by decide⟩
  have at58 : cl58.slots[((3 : Int32)).toNatClampNeg]? = some (.int y3) := H58.at in58 rfl
  have pre59 : Go p.tables e below S0 T54 (mkF m 109 #[vR a0, vR a1, vR a2, vI p3, vI (1 : Int32), vJ (0 : Int64), .second, vI (3 : Int32)] [(.ref a0), (.long (y3.toInt64)), (.long (0 : Int64))]) := fun t k => pre57 t (by
    refine X54.iaload hx (j := (3 : Int32)) (v := (.int y3)) (by rw [e54]; exact Ar58.1) (State.isArrayOf_alike hZ.alike Ar58.2.1) Ar58.2.2 in58 at58 (g := (mkF m 106 #[vR a0, vR a1, vR a2, vI p3, vI (1 : Int32), vJ (0 : Int64), .second, vI (3 : Int32)] [(.int (3 : Int32)), (.ref a1), (.long (0 : Int64))])) rfl rfl (hb hby d5_106) _ ?_
    refine XS.i2l X54.here hx rfl (hb hby d5_107) rfl ?_
    refine XS.aloadN X54.here hx rfl (hb hby d5_108) rfl rfl ?_
    show Steps p.tables e below (T54.setTop (mkF m 109 #[vR a0, vR a1, vR a2, vI p3, vI (1 : Int32), vJ (0 : Int64), .second, vI (3 : Int32)] [(.ref a0), (.long (y3.toInt64)), (.long (0 : Int64))])) _
    exact k)
  obtain ⟨T60, X60, e60, st60⟩ := getF X54 hx hZ hown (host := "") (Or.inl (hw _ (List.mem_of_getElem? (i := 20) rfl))) Via.refl e54 f50_3 (g := (mkF m 109 #[vR a0, vR a1, vR a2, vI p3, vI (1 : Int32), vJ (0 : Int64), .second, vI (3 : Int32)] [(.ref a0), (.long (y3.toInt64)), (.long (0 : Int64))])) rfl rfl (hb hby d5_109)
  have pre60 : Go p.tables e below S0 T60 (mkF m 112 #[vR a0, vR a1, vR a2, vI p3, vI (1 : Int32), vJ (0 : Int64), .second, vI (3 : Int32)] [(.ref as), (.long (y3.toInt64)), (.long (0 : Int64))]) := fun t k => pre59 t (st60 t k)
  have pre61 : Go p.tables e below S0 T60 (mkF m 114 #[vR a0, vR a1, vR a2, vI p3, vI (1 : Int32), vJ (0 : Int64), .second, vI (3 : Int32)] [(.int (3 : Int32)), (.ref as), (.long (y3.toInt64)), (.long (0 : Int64))]) := fun t k => pre60 t (by
    refine XS.iload X60.here hx rfl (hb hby d5_112) rfl ?_
    exact k)
  obtain ⟨cl62, Ar62, q62, S62, M62, H62, G62⟩ := id f50_5
  have in62 : ¬ ((3 : Int32) < 0 ∨ cl62.slots.size ≤ ((3 : Int32)).toNatClampNeg) := inb_of S62 ⟨by decide, by decide⟩
  have at62 : cl62.slots[((3 : Int32)).toNatClampNeg]? = some (.int u3) := H62.at in62 rfl
  obtain ⟨v63, hv63, pre63⟩ : ∃ z : Int64, z = ((0 : Int64) ||| ((y3.toInt64) <<< (u3 &&& 0x3f).toInt64)) ∧ Go p.tables e below S0 T60 (mkF m 119 #[vR a0, vR a1, vR a2, vI p3, vI (1 : Int32), vJ z, .second, vI (3 : Int32)] []) := ⟨_, rfl, fun t k => pre61 t (by
    refine X60.iaload hx (j := (3 : Int32)) (v := (.int u3)) (by rw [e60]; exact Ar62.1) (State.isArrayOf_alike hZ.alike Ar62.2.1) Ar62.2.2 in62 at62 (g := (mkF m 114 #[vR a0, vR a1, vR a2, vI p3, vI (1 : Int32), vJ (0 : Int64), .second, vI (3 : Int32)] [(.int (3 : Int32)), (.ref as), (.long (y3.toInt64)), (.long (0 : Int64))])) rfl rfl (hb hby d5_114) _ ?_
    refine XS.lshl X60.here hx rfl (hb hby d5_115) rfl ?_
    refine XS.lor X60.here hx rfl (hb hby d5_116) rfl ?_
    show Steps p.tables e below (T60.setTop (mkF m 117 #[vR a0, vR a1, vR a2, vI p3, vI (1 : Int32), vJ (0 : Int64), .second, vI (3 : Int32)] [(.long ((0 : Int64) ||| ((y3.toInt64) <<< (u3 &&& 0x3f).toInt64)))])) _
    refine XS.lstore X60.here hx rfl (hb hby d5_117) rfl (l' := #[vR a0, vR a1, vR a2, vI p3, vI (1 : Int32), vJ ((0 : Int64) ||| ((y3.toInt64) <<< (u3 &&& 0x3f).toInt64)), .second, vI (3 : Int32)]) rfl ?_
    exact k)⟩
  have pre64 : Go p.tables e below S0 T60 (mkF m 65 #[vR a0, vR a1, vR a2, vI p3, vI (1 : Int32), vJ v63, .second, vI (4 : Int32)] [(.ref a1), (.int (4 : Int32))]) := fun t k => pre63 t (by
    refine XS.iinc X60.here hx rfl (hb hby d5_119) rfl (l' := #[vR a0, vR a1, vR a2, vI p3, vI (1 : Int32), vJ v63, .second, vI (4 : Int32)]) rfl ?_
    refine XS.goto X60.here hx rfl (pc0 := 122) (pc' := 62) rfl (hb hby d5_122) (by decide) (by decide) ?_
    refine XS.iload X60.here hx rfl (hb hby d5_62) rfl ?_
    show Steps p.tables e below (T60.setTop (mkF m 64 #[vR a0, vR a1, vR a2, vI p3, vI (1 : Int32), vJ v63, .second, vI (4 : Int32)] [(.int (4 : Int32))])) _
    refine XS.aloadN X60.here hx rfl (hb hby d5_64) rfl rfl ?_
    exact k)
  obtain ⟨cl65, Ar65, q65, S65, M65, H65, G65⟩ := id f50_6
  have pre66 : Go p.tables e below S0 T60 (mkF m 132 #[vR a0, vR a1, vR a2, vI p3, vI (1 : Int32), vJ v63, .second, vI (4 : Int32)] [(.long v63), (.int (p3 + (1 : Int32))), (.ref a2)]) := fun t k => pre64 t (by
    refine X60.arraylength hx (by rw [e60]; exact Ar65.1) (State.isArrayOf_alike hZ.alike Ar65.2.1) (g := (mkF m 65 #[vR a0, vR a1, vR a2, vI p3, vI (1 : Int32), vJ v63, .second, vI (4 : Int32)] [(.ref a1), (.int (4 : Int32))])) rfl rfl (hb hby d5_65) _ ?_
    rw [len_of S65 M65]
    refine XS.icmpYes X60.here hx rfl (pc0 := 66) (pc' := 125) rfl (hb hby d5_66) rfl (flt (by decide : ¬ ((4 : Int32) < (4 : Int32)))).2.1 (by decide) (by decide) ?_
    refine XS.aloadN X60.here hx rfl (hb hby d5_125) rfl rfl ?_
    show Steps p.tables e below (T60.setTop (mkF m 126 #[vR a0, vR a1, vR a2, vI p3, vI (1 : Int32), vJ v63, .second, vI (4 : Int32)] [(.ref a2)])) _
    refine XS.iloadN X60.here hx rfl (hb hby d5_126) rfl ?_
    refine XS.iload X60.here hx rfl (hb hby d5_127) rfl ?_
    refine XS.iadd X60.here hx rfl (hb hby d5_129) rfl ?_
    show Steps p.tables e below (T60.setTop (mkF m 130 #[vR a0, vR a1, vR a2, vI p3, vI (1 : Int32), vJ v63, .second, vI (4 : Int32)] [(.int (p3 + (1 : Int32))), (.ref a2)])) _
    refine XS.lload X60.here hx rfl (hb hby d5_130) rfl ?_
    exact k)
  obtain ⟨cl67, Ar67, q67, S67, M67, H67, G67⟩ := id av49
  have in67 : ¬ ((p3 + (1 : Int32)) < 0 ∨ cl67.slots.size ≤ ((p3 + (1 : Int32))).toNatClampNeg) := inb_of S67 hin1
  obtain ⟨T67, h67, X67, e67, W67, st67⟩ := stJ X60 hx hZ e60 Ar67 (j := (p3 + (1 : Int32))) in67 (g := (mkF m 132 #[vR a0, vR a1, vR a2, vI p3, vI (1 : Int32), vJ v63, .second, vI (4 : Int32)] [(.long v63), (.int (p3 + (1 : Int32))), (.ref a2)])) rfl rfl (hb hby d5_132)
  have pre67 : Go p.tables e below S0 T67 (mkF m 133 #[vR a0, vR a1, vR a2, vI p3, vI (1 : Int32), vJ v63, .second, vI (4 : Int32)] []) := fun t k => pre66 t (st67 t k)
  obtain ⟨lo67, N67, X67⟩ : ∃ lo, Fr n0 lo ∧ Stand p l e ({ frames := 0, cells := 0, slots := 0, locals := 0 } : Room) s m #[(.ref a0), (.ref a1), (.ref a2), (.int p3)] below meth c T67 lo 0 0 := ⟨_, Fr.snoc X67 N49 g0, X67⟩
  have av67 : Arv Z h67 a2 k2 .long (2 : Int32) [(.long (own_putL (p3 + (1 : Int32)) (0 : Int32) v63 (own_putL (p3 + (0 : Int32)) (0 : Int32) v41 x0))), (.long (own_putL (p3 + (1 : Int32)) (1 : Int32) v63 (own_putL (p3 + (0 : Int32)) (1 : Int32) v41 x1)))] (.long (0 : Int64)) := by
    have q := Arv.set Ar67 q67 S67 M67 H67 G67 rfl W67 _ rfl (own_setJ2 (w := 0) (x0 := 0) (x1 := 0) hin1).1
    rw [(own_setJ2 hin1).2] at q
    exact q
  have f68_1 := Fld.other W67 f50_1 (Or.inl xe0)
  have f68_2 := Fld.other W67 f50_2 (Or.inl xe0)
  have f68_3 := Fld.other W67 f50_3 (Or.inl xe0)
  have f68_4 := f50_4.other W67 xe1
  have f68_5 := f50_5.other W67 xe2
  have f68_6 := f50_6.other W67 xe3
  have zz69 : n0 ≤ h67.size := Nat.le_trans zz51 (Keep.of_wr W67).1
  have kp70 : Keep h0 h67 [a2] := kp52.wr W67 (Or.inl (List.mem_of_getElem? (i := 0) rfl))
  obtain ⟨fs, hr, hrun, hended, hW, hsame⟩ := X67.leave (v := none) (fun _ => rfl)
  exact ⟨_, _, pre67.fin hS0 (X67.returnOut hx Bd.returns (hb hby d5_133) hr), hrun, hended, _, _, rfl, (by
    show Q5_0001 Z a0 a1 a2 p3 aw as kw ks k1 k2 u0 u1 u2 u3 y0 y1 y2 y3 x0 x1 h0 n0 _ T67.heap _
    rw [e67]
    subst hv63 hv41 hv28 hv15
    exact ⟨rfl, N67, _, _, ⟨rfl, rfl⟩, kp70, av67⟩), ⟨_, rfl⟩, hW, hsame.mono (by decide) (by decide)⟩
theorem ef_5_0011 (m : MethodId) (x0 : Addr) (x1 : Addr) (x2 : Addr) (x3 : Int32) : entryFrame m #[(.ref x0), (.ref x1), (.ref x2), (.int x3)] 8 = mkF m 0 #[.val (.ref x0), .val (.ref x1), .val (.ref x2), .val (.int x3), .unset, .unset, .unset, .unset] [] := by first | (simp [entryFrame, mkF, argsToLocals, Value.category]; done) | rfl
def Q5_0011 (Z : State) (a0 a1 a2 : Addr) (p3 : Int32) (aw as : Addr) (kw ks k1 k2 : ClassId) (u0 u1 u2 u3 y0 y1 y2 y3 : Int32) (x0 x1 : Int64) (h0 : Heap) (n0 : Nat) (v : Option Value) (h : Heap) (L : List Loc) : Prop := v = none ∧ Fr n0 L ∧ ∃ (z0 z1 : Int64), (z0 = (own_putL (p3 + (1 : Int32)) (0 : Int32) (((0 : Int64) ||| ((y2.toInt64) <<< (u2 &&& 0x3f).toInt64)) ||| ((y3.toInt64) <<< (u3 &&& 0x3f).toInt64)) (own_putL (p3 + (0 : Int32)) (0 : Int32) (((0 : Int64) ||| ((y0.toInt64) <<< (u0 &&& 0x3f).toInt64)) ||| ((y1.toInt64) <<< (u1 &&& 0x3f).toInt64)) x0)) ∧ z1 = (own_putL (p3 + (1 : Int32)) (1 : Int32) (((0 : Int64) ||| ((y2.toInt64) <<< (u2 &&& 0x3f).toInt64)) ||| ((y3.toInt64) <<< (u3 &&& 0x3f).toInt64)) (own_putL (p3 + (0 : Int32)) (1 : Int32) (((0 : Int64) ||| ((y0.toInt64) <<< (u0 &&& 0x3f).toInt64)) ||| ((y1.toInt64) <<< (u1 &&& 0x3f).toInt64)) x1))) ∧ Keep h0 h [a2] ∧ (Arv Z h a2 k2 .long (2 : Int32) [(.long z0), (.long z1)] (.long (0 : Int64)))
set_option maxRecDepth 65536 in
set_option maxHeartbeats 40000000 in
theorem rm5_0011 (l : Launch) (Z : State) (A0 : Array Value) (hw : ∀ d ∈ tables_1, d.before A0 Z = true) (ws : List Jvm.Cond) (a0 : Addr) (a1 : Addr) (a2 : Addr) (p3 : Int32) (aw as : Addr) (kw ks k1 k2 : ClassId) (u0 u1 u2 u3 y0 y1 y2 y3 : Int32) (x0 x1 : Int64) (h0 : Heap) (n0 : Nat) (Z0 : n0 ≤ h0.size) (Fn : Fld Z h0 a0 "com/example/garantia/garantia/engine/StateLayout" "words" "I" (.int (2 : Int32))) (Fw : Fld Z h0 a0 "com/example/garantia/garantia/engine/StateLayout" "word" "[I" (.ref aw)) (Fs : Fld Z h0 a0 "com/example/garantia/garantia/engine/StateLayout" "shift" "[I" (.ref as)) (V1 : Arv Z h0 aw kw .int (4 : Int32) [(.int (0 : Int32)), (.int (0 : Int32)), (.int (1 : Int32)), (.int (1 : Int32))] (.int (0 : Int32))) (V2 : Arv Z h0 as ks .int (4 : Int32) [(.int u0), (.int u1), (.int u2), (.int u3)] (.int (0 : Int32))) (V3 : Arv Z h0 a1 k1 .int (4 : Int32) [(.int y0), (.int y1), (.int y2), (.int y3)] (.int (0 : Int32))) (V4 : Arv Z h0 a2 k2 .long (2 : Int32) [(.long x0), (.long x1)] (.long (0 : Int64))) (xe0 : a0 ≠ a2) (xe1 : aw ≠ a2) (xe2 : as ≠ a2) (xe3 : a1 ≠ a2) (g0 : n0 ≤ a2) (hin0 : ¬ (p3 + (0 : Int32)) < 0 ∧ (p3 + (0 : Int32)) < (2 : Int32)) (hin1 : ¬ (p3 + (1 : Int32)) < 0 ∧ (p3 + (1 : Int32)) < (2 : Int32)) :
    MetFree l (⟨"com/example/garantia/garantia/engine/StateLayout", "pack", "([I[JI)V"⟩ : MethodName) (head1 (Jvm.Cond.code (⟨"com/example/garantia/garantia/engine/StateLayout", "pack", "([I[JI)V"⟩ : MethodName) prog_46_method_4_code 8 none :: ws) ({ frames := 0, cells := 0, slots := 0, locals := 0 } : Room)) (fun a U => a = #[(.ref a0), (.ref a1), (.ref a2), (.int p3)] ∧ Z.Warmed39 U.vm ∧ U.heap = h0) (fun _ _ _ _ _ => True) (fun _ U o U' => ∃ v L, o = .returned v ∧ Q5_0011 Z a0 a1 a2 p3 aw as kw ks k1 k2 u0 u1 u2 u3 y0 y1 y2 y3 x0 x1 h0 n0 v U'.heap L ∧ FrameEnd U o U' L ({ frames := 0, cells := 0, slots := 0, locals := 0 } : Room).cells ({ frames := 0, cells := 0, slots := 0, locals := 0 } : Room).slots) := by
  refine MetFree.of_bodySF (plainFor_of_name pn_1) hisR ?_
  intro p e s m args below meth c s₁ Bd hml0 hP hK
  obtain ⟨rfl, hZ, hh⟩ := hP
  have hx := Bd.exec
  have hby := Bd.bytes
  have hml : c.maxLocals = 8 := hml0
  have hown : s.vm.findClass "com/example/garantia/garantia/engine/StateLayout" = some m.cls := findClass_of_methodNamed Bd.named
  have hnm := (name_of_methodNamed Bd.named Bd.method).1
  have X0 : Stand p l e ({ frames := 0, cells := 0, slots := 0, locals := 0 } : Room) s m #[(.ref a0), (.ref a1), (.ref a2), (.int p3)] below meth c s₁ [] 0 0 := Stand.of_body Bd
  have e0 : s₁.heap = h0 := by rw [← hh, Bd.state]; rfl
  have N0 := Fr.nil n0
  have kp0 : Keep h0 h0 [a2] := Keep.refl _ _
  obtain ⟨S0, hS0⟩ : ∃ z, z = s₁.setTop (entryFrame m #[(.ref a0), (.ref a1), (.ref a2), (.int p3)] 8) := ⟨_, rfl⟩
  have pre0 : Go p.tables e below S0 s₁ (mkF m 0 #[vR a0, vR a1, vR a2, vI p3, .unset, .unset, .unset, .unset] []) := fun t k => by rw [hS0]; exact castTop (ef_5_0011 m a0 a1 a2 p3) k
  have pre1 : Go p.tables e below S0 s₁ (mkF m 1 #[vR a0, vR a1, vR a2, vI p3, .unset, .unset, .unset, .unset] [(.ref a0)]) := fun t k => pre0 t (by
    refine XS.aloadN X0.here hx rfl (hb hby d5_0) rfl rfl ?_
    exact k)
  obtain ⟨T2, X2, e2, st2⟩ := getF X0 hx hZ hown (host := "") (Or.inl (hw _ (List.mem_of_getElem? (i := 27) rfl))) Via.refl e0 Fn (g := (mkF m 1 #[vR a0, vR a1, vR a2, vI p3, .unset, .unset, .unset, .unset] [(.ref a0)])) rfl rfl (hb hby d5_1)
  have pre2 : Go p.tables e below S0 T2 (mkF m 4 #[vR a0, vR a1, vR a2, vI p3, .unset, .unset, .unset, .unset] [(.int (2 : Int32))]) := fun t k => pre1 t (st2 t k)
  have pre3 : Go p.tables e below S0 T2 (mkF m 65 #[vR a0, vR a1, vR a2, vI p3, vI (0 : Int32), vJ (0 : Int64), .second, vI (0 : Int32)] [(.ref a1), (.int (0 : Int32))]) := fun t k => pre2 t (by
    refine XS.iconst X2.here hx rfl (hb hby d5_4) ?_
    refine XS.icmpYes X2.here hx rfl (pc0 := 5) (pc' := 53) rfl (hb hby d5_5) rfl (feq (by decide : ¬ ((2 : Int32) = (1 : Int32)))).2 (by decide) (by decide) ?_
    refine XS.iconst X2.here hx rfl (hb hby d5_53) ?_
    show Steps p.tables e below (T2.setTop (mkF m 54 #[vR a0, vR a1, vR a2, vI p3, .unset, .unset, .unset, .unset] [(.int (0 : Int32))])) _
    refine XS.istore X2.here hx rfl (hb hby d5_54) rfl (l' := #[vR a0, vR a1, vR a2, vI p3, vI (0 : Int32), .unset, .unset, .unset]) rfl ?_
    refine XS.lconst X2.here hx rfl (hb hby d5_56) ?_
    refine XS.lstore X2.here hx rfl (hb hby d5_57) rfl (l' := #[vR a0, vR a1, vR a2, vI p3, vI (0 : Int32), vJ (0 : Int64), .second, .unset]) rfl ?_
    show Steps p.tables e below (T2.setTop (mkF m 59 #[vR a0, vR a1, vR a2, vI p3, vI (0 : Int32), vJ (0 : Int64), .second, .unset] [])) _
    refine XS.iconst X2.here hx rfl (hb hby d5_59) ?_
    refine XS.istore X2.here hx rfl (hb hby d5_60) rfl (l' := #[vR a0, vR a1, vR a2, vI p3, vI (0 : Int32), vJ (0 : Int64), .second, vI (0 : Int32)]) rfl ?_
    refine XS.iload X2.here hx rfl (hb hby d5_62) rfl ?_
    show Steps p.tables e below (T2.setTop (mkF m 64 #[vR a0, vR a1, vR a2, vI p3, vI (0 : Int32), vJ (0 : Int64), .second, vI (0 : Int32)] [(.int (0 : Int32))])) _
    refine XS.aloadN X2.here hx rfl (hb hby d5_64) rfl rfl ?_
    exact k)
  obtain ⟨cl4, Ar4, q4, S4, M4, H4, G4⟩ := id V3
  have pre5 : Go p.tables e below S0 T2 (mkF m 70 #[vR a0, vR a1, vR a2, vI p3, vI (0 : Int32), vJ (0 : Int64), .second, vI (0 : Int32)] [(.ref a0)]) := fun t k => pre3 t (by
    refine X2.arraylength hx (by rw [e2]; exact Ar4.1) (State.isArrayOf_alike hZ.alike Ar4.2.1) (g := (mkF m 65 #[vR a0, vR a1, vR a2, vI p3, vI (0 : Int32), vJ (0 : Int64), .second, vI (0 : Int32)] [(.ref a1), (.int (0 : Int32))])) rfl rfl (hb hby d5_65) _ ?_
    rw [len_of S4 M4]
    refine XS.icmpNo X2.here hx rfl (hb hby d5_66) rfl (tlt (by decide : (0 : Int32) < (4 : Int32))).2.1 ?_
    refine XS.aloadN X2.here hx rfl (hb hby d5_69) rfl rfl ?_
    show Steps p.tables e below (T2.setTop (mkF m 70 #[vR a0, vR a1, vR a2, vI p3, vI (0 : Int32), vJ (0 : Int64), .second, vI (0 : Int32)] [(.ref a0)])) _
    exact k)
  obtain ⟨T6, X6, e6, st6⟩ := getF X2 hx hZ hown (host := "") (Or.inl (hw _ (List.mem_of_getElem? (i := 18) rfl))) Via.refl e2 Fw (g := (mkF m 70 #[vR a0, vR a1, vR a2, vI p3, vI (0 : Int32), vJ (0 : Int64), .second, vI (0 : Int32)] [(.ref a0)])) rfl rfl (hb hby d5_70)
  have pre6 : Go p.tables e below S0 T6 (mkF m 73 #[vR a0, vR a1, vR a2, vI p3, vI (0 : Int32), vJ (0 : Int64), .second, vI (0 : Int32)] [(.ref aw)]) := fun t k => pre5 t (st6 t k)
  have pre7 : Go p.tables e below S0 T6 (mkF m 75 #[vR a0, vR a1, vR a2, vI p3, vI (0 : Int32), vJ (0 : Int64), .second, vI (0 : Int32)] [(.int (0 : Int32)), (.ref aw)]) := fun t k => pre6 t (by
    refine XS.iload X6.here hx rfl (hb hby d5_73) rfl ?_
    exact k)
  obtain ⟨cl8, Ar8, q8, S8, M8, H8, G8⟩ := id V1
  have in8 : ¬ ((0 : Int32) < 0 ∨ cl8.slots.size ≤ ((0 : Int32)).toNatClampNeg) := inb_of S8 ⟨by decide, by decide⟩
  have at8 : cl8.slots[((0 : Int32)).toNatClampNeg]? = some (.int (0 : Int32)) := H8.at in8 rfl
  have pre9 : Go p.tables e below S0 T6 (mkF m 106 #[vR a0, vR a1, vR a2, vI p3, vI (0 : Int32), vJ (0 : Int64), .second, vI (0 : Int32)] [(.int (0 : Int32)), (.ref a1), (.long (0 : Int64))]) := fun t k => pre7 t (by
    refine X6.iaload hx (j := (0 : Int32)) (v := (.int (0 : Int32))) (by rw [e6]; exact Ar8.1) (State.isArrayOf_alike hZ.alike Ar8.2.1) Ar8.2.2 in8 at8 (g := (mkF m 75 #[vR a0, vR a1, vR a2, vI p3, vI (0 : Int32), vJ (0 : Int64), .second, vI (0 : Int32)] [(.int (0 : Int32)), (.ref aw)])) rfl rfl (hb hby d5_75) _ ?_
    refine XS.iload X6.here hx rfl (hb hby d5_76) rfl ?_
    refine XS.icmpYes X6.here hx rfl (pc0 := 78) (pc' := 101) rfl (hb hby d5_78) rfl (teq (rfl : (0 : Int32) = (0 : Int32))).1 (by decide) (by decide) ?_
    show Steps p.tables e below (T6.setTop (mkF m 101 #[vR a0, vR a1, vR a2, vI p3, vI (0 : Int32), vJ (0 : Int64), .second, vI (0 : Int32)] [])) _
    refine XS.lload X6.here hx rfl (hb hby d5_101) rfl ?_
    refine XS.aloadN X6.here hx rfl (hb hby d5_103) rfl rfl ?_
    refine XS.iload X6.here hx rfl (hb hby d5_104) rfl ?_
    show Steps p.tables e below (T6.setTop (mkF m 106 #[vR a0, vR a1, vR a2, vI p3, vI (0 : Int32), vJ (0 : Int64), .second, vI (0 : Int32)] [(.int (0 : Int32)), (.ref a1), (.long (0 : Int64))])) _
    exact k)
  obtain ⟨cl10, Ar10, q10, S10, M10, H10, G10⟩ := id V3
  have in10 : ¬ ((0 : Int32) < 0 ∨ cl10.slots.size ≤ ((0 : Int32)).toNatClampNeg) := inb_of S10 ⟨by decide, by decide⟩
  have at10 : cl10.slots[((0 : Int32)).toNatClampNeg]? = some (.int y0) := H10.at in10 rfl
  have pre11 : Go p.tables e below S0 T6 (mkF m 109 #[vR a0, vR a1, vR a2, vI p3, vI (0 : Int32), vJ (0 : Int64), .second, vI (0 : Int32)] [(.ref a0), (.long (y0.toInt64)), (.long (0 : Int64))]) := fun t k => pre9 t (by
    refine X6.iaload hx (j := (0 : Int32)) (v := (.int y0)) (by rw [e6]; exact Ar10.1) (State.isArrayOf_alike hZ.alike Ar10.2.1) Ar10.2.2 in10 at10 (g := (mkF m 106 #[vR a0, vR a1, vR a2, vI p3, vI (0 : Int32), vJ (0 : Int64), .second, vI (0 : Int32)] [(.int (0 : Int32)), (.ref a1), (.long (0 : Int64))])) rfl rfl (hb hby d5_106) _ ?_
    refine XS.i2l X6.here hx rfl (hb hby d5_107) rfl ?_
    refine XS.aloadN X6.here hx rfl (hb hby d5_108) rfl rfl ?_
    show Steps p.tables e below (T6.setTop (mkF m 109 #[vR a0, vR a1, vR a2, vI p3, vI (0 : Int32), vJ (0 : Int64), .second, vI (0 : Int32)] [(.ref a0), (.long (y0.toInt64)), (.long (0 : Int64))])) _
    exact k)
  obtain ⟨T12, X12, e12, st12⟩ := getF X6 hx hZ hown (host := "") (Or.inl (hw _ (List.mem_of_getElem? (i := 20) rfl))) Via.refl e6 Fs (g := (mkF m 109 #[vR a0, vR a1, vR a2, vI p3, vI (0 : Int32), vJ (0 : Int64), .second, vI (0 : Int32)] [(.ref a0), (.long (y0.toInt64)), (.long (0 : Int64))])) rfl rfl (hb hby d5_109)
  have pre12 : Go p.tables e below S0 T12 (mkF m 112 #[vR a0, vR a1, vR a2, vI p3, vI (0 : Int32), vJ (0 : Int64), .second, vI (0 : Int32)] [(.ref as), (.long (y0.toInt64)), (.long (0 : Int64))]) := fun t k => pre11 t (st12 t k)
  have pre13 : Go p.tables e below S0 T12 (mkF m 114 #[vR a0, vR a1, vR a2, vI p3, vI (0 : Int32), vJ (0 : Int64), .second, vI (0 : Int32)] [(.int (0 : Int32)), (.ref as), (.long (y0.toInt64)), (.long (0 : Int64))]) := fun t k => pre12 t (by
    refine XS.iload X12.here hx rfl (hb hby d5_112) rfl ?_
    exact k)
  obtain ⟨cl14, Ar14, q14, S14, M14, H14, G14⟩ := id V2
  have in14 : ¬ ((0 : Int32) < 0 ∨ cl14.slots.size ≤ ((0 : Int32)).toNatClampNeg) := inb_of S14 ⟨by decide, by decide⟩
  have at14 : cl14.slots[((0 : Int32)).toNatClampNeg]? = some (.int u0) := H14.at in14 rfl
  obtain ⟨v15, hv15, pre15⟩ : ∃ z : Int64, z = ((0 : Int64) ||| ((y0.toInt64) <<< (u0 &&& 0x3f).toInt64)) ∧ Go p.tables e below S0 T12 (mkF m 119 #[vR a0, vR a1, vR a2, vI p3, vI (0 : Int32), vJ z, .second, vI (0 : Int32)] []) := ⟨_, rfl, fun t k => pre13 t (by
    refine X12.iaload hx (j := (0 : Int32)) (v := (.int u0)) (by rw [e12]; exact Ar14.1) (State.isArrayOf_alike hZ.alike Ar14.2.1) Ar14.2.2 in14 at14 (g := (mkF m 114 #[vR a0, vR a1, vR a2, vI p3, vI (0 : Int32), vJ (0 : Int64), .second, vI (0 : Int32)] [(.int (0 : Int32)), (.ref as), (.long (y0.toInt64)), (.long (0 : Int64))])) rfl rfl (hb hby d5_114) _ ?_
    refine XS.lshl X12.here hx rfl (hb hby d5_115) rfl ?_
    refine XS.lor X12.here hx rfl (hb hby d5_116) rfl ?_
    show Steps p.tables e below (T12.setTop (mkF m 117 #[vR a0, vR a1, vR a2, vI p3, vI (0 : Int32), vJ (0 : Int64), .second, vI (0 : Int32)] [(.long ((0 : Int64) ||| ((y0.toInt64) <<< (u0 &&& 0x3f).toInt64)))])) _
    refine XS.lstore X12.here hx rfl (hb hby d5_117) rfl (l' := #[vR a0, vR a1, vR a2, vI p3, vI (0 : Int32), vJ ((0 : Int64) ||| ((y0.toInt64) <<< (u0 &&& 0x3f).toInt64)), .second, vI (0 : Int32)]) rfl ?_
    exact k)⟩
  have pre16 : Go p.tables e below S0 T12 (mkF m 65 #[vR a0, vR a1, vR a2, vI p3, vI (0 : Int32), vJ v15, .second, vI (1 : Int32)] [(.ref a1), (.int (1 : Int32))]) := fun t k => pre15 t (by
    refine XS.iinc X12.here hx rfl (hb hby d5_119) rfl (l' := #[vR a0, vR a1, vR a2, vI p3, vI (0 : Int32), vJ v15, .second, vI (1 : Int32)]) rfl ?_
    refine XS.goto X12.here hx rfl (pc0 := 122) (pc' := 62) rfl (hb hby d5_122) (by decide) (by decide) ?_
    refine XS.iload X12.here hx rfl (hb hby d5_62) rfl ?_
    show Steps p.tables e below (T12.setTop (mkF m 64 #[vR a0, vR a1, vR a2, vI p3, vI (0 : Int32), vJ v15, .second, vI (1 : Int32)] [(.int (1 : Int32))])) _
    refine XS.aloadN X12.here hx rfl (hb hby d5_64) rfl rfl ?_
    exact k)
  obtain ⟨cl17, Ar17, q17, S17, M17, H17, G17⟩ := id V3
  have pre18 : Go p.tables e below S0 T12 (mkF m 70 #[vR a0, vR a1, vR a2, vI p3, vI (0 : Int32), vJ v15, .second, vI (1 : Int32)] [(.ref a0)]) := fun t k => pre16 t (by
    refine X12.arraylength hx (by rw [e12]; exact Ar17.1) (State.isArrayOf_alike hZ.alike Ar17.2.1) (g := (mkF m 65 #[vR a0, vR a1, vR a2, vI p3, vI (0 : Int32), vJ v15, .second, vI (1 : Int32)] [(.ref a1), (.int (1 : Int32))])) rfl rfl (hb hby d5_65) _ ?_
    rw [len_of S17 M17]
    refine XS.icmpNo X12.here hx rfl (hb hby d5_66) rfl (tlt (by decide : (1 : Int32) < (4 : Int32))).2.1 ?_
    refine XS.aloadN X12.here hx rfl (hb hby d5_69) rfl rfl ?_
    show Steps p.tables e below (T12.setTop (mkF m 70 #[vR a0, vR a1, vR a2, vI p3, vI (0 : Int32), vJ v15, .second, vI (1 : Int32)] [(.ref a0)])) _
    exact k)
  obtain ⟨T19, X19, e19, st19⟩ := getF X12 hx hZ hown (host := "") (Or.inl (hw _ (List.mem_of_getElem? (i := 18) rfl))) Via.refl e12 Fw (g := (mkF m 70 #[vR a0, vR a1, vR a2, vI p3, vI (0 : Int32), vJ v15, .second, vI (1 : Int32)] [(.ref a0)])) rfl rfl (hb hby d5_70)
  have pre19 : Go p.tables e below S0 T19 (mkF m 73 #[vR a0, vR a1, vR a2, vI p3, vI (0 : Int32), vJ v15, .second, vI (1 : Int32)] [(.ref aw)]) := fun t k => pre18 t (st19 t k)
  have pre20 : Go p.tables e below S0 T19 (mkF m 75 #[vR a0, vR a1, vR a2, vI p3, vI (0 : Int32), vJ v15, .second, vI (1 : Int32)] [(.int (1 : Int32)), (.ref aw)]) := fun t k => pre19 t (by
    refine XS.iload X19.here hx rfl (hb hby d5_73) rfl ?_
    exact k)
  obtain ⟨cl21, Ar21, q21, S21, M21, H21, G21⟩ := id V1
  have in21 : ¬ ((1 : Int32) < 0 ∨ cl21.slots.size ≤ ((1 : Int32)).toNatClampNeg) := inb_of S21 ⟨by decide, by decide⟩
  have at21 : cl21.slots[((1 : Int32)).toNatClampNeg]? = some (.int (0 : Int32)) := H21.at in21 rfl
  have pre22 : Go p.tables e below S0 T19 (mkF m 106 #[vR a0, vR a1, vR a2, vI p3, vI (0 : Int32), vJ v15, .second, vI (1 : Int32)] [(.int (1 : Int32)), (.ref a1), (.long v15)]) := fun t k => pre20 t (by
    refine X19.iaload hx (j := (1 : Int32)) (v := (.int (0 : Int32))) (by rw [e19]; exact Ar21.1) (State.isArrayOf_alike hZ.alike Ar21.2.1) Ar21.2.2 in21 at21 (g := (mkF m 75 #[vR a0, vR a1, vR a2, vI p3, vI (0 : Int32), vJ v15, .second, vI (1 : Int32)] [(.int (1 : Int32)), (.ref aw)])) rfl rfl (hb hby d5_75) _ ?_
    refine XS.iload X19.here hx rfl (hb hby d5_76) rfl ?_
    refine XS.icmpYes X19.here hx rfl (pc0 := 78) (pc' := 101) rfl (hb hby d5_78) rfl (teq (rfl : (0 : Int32) = (0 : Int32))).1 (by decide) (by decide) ?_
    show Steps p.tables e below (T19.setTop (mkF m 101 #[vR a0, vR a1, vR a2, vI p3, vI (0 : Int32), vJ v15, .second, vI (1 : Int32)] [])) _
    refine XS.lload X19.here hx rfl (hb hby d5_101) rfl ?_
    refine XS.aloadN X19.here hx rfl (hb hby d5_103) rfl rfl ?_
    refine XS.iload X19.here hx rfl (hb hby d5_104) rfl ?_
    show Steps p.tables e below (T19.setTop (mkF m 106 #[vR a0, vR a1, vR a2, vI p3, vI (0 : Int32), vJ v15, .second, vI (1 : Int32)] [(.int (1 : Int32)), (.ref a1), (.long v15)])) _
    exact k)
  obtain ⟨cl23, Ar23, q23, S23, M23, H23, G23⟩ := id V3
  have in23 : ¬ ((1 : Int32) < 0 ∨ cl23.slots.size ≤ ((1 : Int32)).toNatClampNeg) := inb_of S23 ⟨by decide, by decide⟩
  have at23 : cl23.slots[((1 : Int32)).toNatClampNeg]? = some (.int y1) := H23.at in23 rfl
  have pre24 : Go p.tables e below S0 T19 (mkF m 109 #[vR a0, vR a1, vR a2, vI p3, vI (0 : Int32), vJ v15, .second, vI (1 : Int32)] [(.ref a0), (.long (y1.toInt64)), (.long v15)]) := fun t k => pre22 t (by
    refine X19.iaload hx (j := (1 : Int32)) (v := (.int y1)) (by rw [e19]; exact Ar23.1) (State.isArrayOf_alike hZ.alike Ar23.2.1) Ar23.2.2 in23 at23 (g := (mkF m 106 #[vR a0, vR a1, vR a2, vI p3, vI (0 : Int32), vJ v15, .second, vI (1 : Int32)] [(.int (1 : Int32)), (.ref a1), (.long v15)])) rfl rfl (hb hby d5_106) _ ?_
    refine XS.i2l X19.here hx rfl (hb hby d5_107) rfl ?_
    refine XS.aloadN X19.here hx rfl (hb hby d5_108) rfl rfl ?_
    show Steps p.tables e below (T19.setTop (mkF m 109 #[vR a0, vR a1, vR a2, vI p3, vI (0 : Int32), vJ v15, .second, vI (1 : Int32)] [(.ref a0), (.long (y1.toInt64)), (.long v15)])) _
    exact k)
  obtain ⟨T25, X25, e25, st25⟩ := getF X19 hx hZ hown (host := "") (Or.inl (hw _ (List.mem_of_getElem? (i := 20) rfl))) Via.refl e19 Fs (g := (mkF m 109 #[vR a0, vR a1, vR a2, vI p3, vI (0 : Int32), vJ v15, .second, vI (1 : Int32)] [(.ref a0), (.long (y1.toInt64)), (.long v15)])) rfl rfl (hb hby d5_109)
  have pre25 : Go p.tables e below S0 T25 (mkF m 112 #[vR a0, vR a1, vR a2, vI p3, vI (0 : Int32), vJ v15, .second, vI (1 : Int32)] [(.ref as), (.long (y1.toInt64)), (.long v15)]) := fun t k => pre24 t (st25 t k)
  have pre26 : Go p.tables e below S0 T25 (mkF m 114 #[vR a0, vR a1, vR a2, vI p3, vI (0 : Int32), vJ v15, .second, vI (1 : Int32)] [(.int (1 : Int32)), (.ref as), (.long (y1.toInt64)), (.long v15)]) := fun t k => pre25 t (by
    refine XS.iload X25.here hx rfl (hb hby d5_112) rfl ?_
    exact k)
  obtain ⟨cl27, Ar27, q27, S27, M27, H27, G27⟩ := id V2
  have in27 : ¬ ((1 : Int32) < 0 ∨ cl27.slots.size ≤ ((1 : Int32)).toNatClampNeg) := inb_of S27 ⟨by decide, by decide⟩
  have at27 : cl27.slots[((1 : Int32)).toNatClampNeg]? = some (.int u1) := H27.at in27 rfl
  obtain ⟨v28, hv28, pre28⟩ : ∃ z : Int64, z = (v15 ||| ((y1.toInt64) <<< (u1 &&& 0x3f).toInt64)) ∧ Go p.tables e below S0 T25 (mkF m 119 #[vR a0, vR a1, vR a2, vI p3, vI (0 : Int32), vJ z, .second, vI (1 : Int32)] []) := ⟨_, rfl, fun t k => pre26 t (by
    refine X25.iaload hx (j := (1 : Int32)) (v := (.int u1)) (by rw [e25]; exact Ar27.1) (State.isArrayOf_alike hZ.alike Ar27.2.1) Ar27.2.2 in27 at27 (g := (mkF m 114 #[vR a0, vR a1, vR a2, vI p3, vI (0 : Int32), vJ v15, .second, vI (1 : Int32)] [(.int (1 : Int32)), (.ref as), (.long (y1.toInt64)), (.long v15)])) rfl rfl (hb hby d5_114) _ ?_
    refine XS.lshl X25.here hx rfl (hb hby d5_115) rfl ?_
    refine XS.lor X25.here hx rfl (hb hby d5_116) rfl ?_
    show Steps p.tables e below (T25.setTop (mkF m 117 #[vR a0, vR a1, vR a2, vI p3, vI (0 : Int32), vJ v15, .second, vI (1 : Int32)] [(.long (v15 ||| ((y1.toInt64) <<< (u1 &&& 0x3f).toInt64)))])) _
    refine XS.lstore X25.here hx rfl (hb hby d5_117) rfl (l' := #[vR a0, vR a1, vR a2, vI p3, vI (0 : Int32), vJ (v15 ||| ((y1.toInt64) <<< (u1 &&& 0x3f).toInt64)), .second, vI (1 : Int32)]) rfl ?_
    exact k)⟩
  have pre29 : Go p.tables e below S0 T25 (mkF m 65 #[vR a0, vR a1, vR a2, vI p3, vI (0 : Int32), vJ v28, .second, vI (2 : Int32)] [(.ref a1), (.int (2 : Int32))]) := fun t k => pre28 t (by
    refine XS.iinc X25.here hx rfl (hb hby d5_119) rfl (l' := #[vR a0, vR a1, vR a2, vI p3, vI (0 : Int32), vJ v28, .second, vI (2 : Int32)]) rfl ?_
    refine XS.goto X25.here hx rfl (pc0 := 122) (pc' := 62) rfl (hb hby d5_122) (by decide) (by decide) ?_
    refine XS.iload X25.here hx rfl (hb hby d5_62) rfl ?_
    show Steps p.tables e below (T25.setTop (mkF m 64 #[vR a0, vR a1, vR a2, vI p3, vI (0 : Int32), vJ v28, .second, vI (2 : Int32)] [(.int (2 : Int32))])) _
    refine XS.aloadN X25.here hx rfl (hb hby d5_64) rfl rfl ?_
    exact k)
  obtain ⟨cl30, Ar30, q30, S30, M30, H30, G30⟩ := id V3
  have pre31 : Go p.tables e below S0 T25 (mkF m 70 #[vR a0, vR a1, vR a2, vI p3, vI (0 : Int32), vJ v28, .second, vI (2 : Int32)] [(.ref a0)]) := fun t k => pre29 t (by
    refine X25.arraylength hx (by rw [e25]; exact Ar30.1) (State.isArrayOf_alike hZ.alike Ar30.2.1) (g := (mkF m 65 #[vR a0, vR a1, vR a2, vI p3, vI (0 : Int32), vJ v28, .second, vI (2 : Int32)] [(.ref a1), (.int (2 : Int32))])) rfl rfl (hb hby d5_65) _ ?_
    rw [len_of S30 M30]
    refine XS.icmpNo X25.here hx rfl (hb hby d5_66) rfl (tlt (by decide : (2 : Int32) < (4 : Int32))).2.1 ?_
    refine XS.aloadN X25.here hx rfl (hb hby d5_69) rfl rfl ?_
    show Steps p.tables e below (T25.setTop (mkF m 70 #[vR a0, vR a1, vR a2, vI p3, vI (0 : Int32), vJ v28, .second, vI (2 : Int32)] [(.ref a0)])) _
    exact k)
  obtain ⟨T32, X32, e32, st32⟩ := getF X25 hx hZ hown (host := "") (Or.inl (hw _ (List.mem_of_getElem? (i := 18) rfl))) Via.refl e25 Fw (g := (mkF m 70 #[vR a0, vR a1, vR a2, vI p3, vI (0 : Int32), vJ v28, .second, vI (2 : Int32)] [(.ref a0)])) rfl rfl (hb hby d5_70)
  have pre32 : Go p.tables e below S0 T32 (mkF m 73 #[vR a0, vR a1, vR a2, vI p3, vI (0 : Int32), vJ v28, .second, vI (2 : Int32)] [(.ref aw)]) := fun t k => pre31 t (st32 t k)
  have pre33 : Go p.tables e below S0 T32 (mkF m 75 #[vR a0, vR a1, vR a2, vI p3, vI (0 : Int32), vJ v28, .second, vI (2 : Int32)] [(.int (2 : Int32)), (.ref aw)]) := fun t k => pre32 t (by
    refine XS.iload X32.here hx rfl (hb hby d5_73) rfl ?_
    exact k)
  obtain ⟨cl34, Ar34, q34, S34, M34, H34, G34⟩ := id V1
  have in34 : ¬ ((2 : Int32) < 0 ∨ cl34.slots.size ≤ ((2 : Int32)).toNatClampNeg) := inb_of S34 ⟨by decide, by decide⟩
  have at34 : cl34.slots[((2 : Int32)).toNatClampNeg]? = some (.int (1 : Int32)) := H34.at in34 rfl
  have pre35 : Go p.tables e below S0 T32 (mkF m 88 #[vR a0, vR a1, vR a2, vI p3, vI (0 : Int32), vJ v28, .second, vI (2 : Int32)] [(.long v28), (.int (p3 + (0 : Int32))), (.ref a2)]) := fun t k => pre33 t (by
    refine X32.iaload hx (j := (2 : Int32)) (v := (.int (1 : Int32))) (by rw [e32]; exact Ar34.1) (State.isArrayOf_alike hZ.alike Ar34.2.1) Ar34.2.2 in34 at34 (g := (mkF m 75 #[vR a0, vR a1, vR a2, vI p3, vI (0 : Int32), vJ v28, .second, vI (2 : Int32)] [(.int (2 : Int32)), (.ref aw)])) rfl rfl (hb hby d5_75) _ ?_
    refine XS.iload X32.here hx rfl (hb hby d5_76) rfl ?_
    refine XS.icmpNo X32.here hx rfl (hb hby d5_78) rfl (feq (by decide : ¬ ((1 : Int32) = (0 : Int32)))).1 ?_
    show Steps p.tables e below (T32.setTop (mkF m 81 #[vR a0, vR a1, vR a2, vI p3, vI (0 : Int32), vJ v28, .second, vI (2 : Int32)] [])) _
    refine XS.aloadN X32.here hx rfl (hb hby d5_81) rfl rfl ?_
    refine XS.iloadN X32.here hx rfl (hb hby d5_82) rfl ?_
    refine XS.iload X32.here hx rfl (hb hby d5_83) rfl ?_
    show Steps p.tables e below (T32.setTop (mkF m 85 #[vR a0, vR a1, vR a2, vI p3, vI (0 : Int32), vJ v28, .second, vI (2 : Int32)] [(.int (0 : Int32)), (.int p3), (.ref a2)])) _
    refine XS.iadd X32.here hx rfl (hb hby d5_85) rfl ?_
    refine XS.lload X32.here hx rfl (hb hby d5_86) rfl ?_
    exact k)
  obtain ⟨cl36, Ar36, q36, S36, M36, H36, G36⟩ := id V4
  have in36 : ¬ ((p3 + (0 : Int32)) < 0 ∨ cl36.slots.size ≤ ((p3 + (0 : Int32))).toNatClampNeg) := inb_of S36 hin0
  obtain ⟨T36, h36, X36, e36, W36, st36⟩ := stJ X32 hx hZ e32 Ar36 (j := (p3 + (0 : Int32))) in36 (g := (mkF m 88 #[vR a0, vR a1, vR a2, vI p3, vI (0 : Int32), vJ v28, .second, vI (2 : Int32)] [(.long v28), (.int (p3 + (0 : Int32))), (.ref a2)])) rfl rfl (hb hby d5_88)
  have pre36 : Go p.tables e below S0 T36 (mkF m 89 #[vR a0, vR a1, vR a2, vI p3, vI (0 : Int32), vJ v28, .second, vI (2 : Int32)] []) := fun t k => pre35 t (st36 t k)
  obtain ⟨lo36, N36, X36⟩ : ∃ lo, Fr n0 lo ∧ Stand p l e ({ frames := 0, cells := 0, slots := 0, locals := 0 } : Room) s m #[(.ref a0), (.ref a1), (.ref a2), (.int p3)] below meth c T36 lo 0 0 := ⟨_, Fr.snoc X36 N0 g0, X36⟩
  have av36 : Arv Z h36 a2 k2 .long (2 : Int32) [(.long (own_putL (p3 + (0 : Int32)) (0 : Int32) v28 x0)), (.long (own_putL (p3 + (0 : Int32)) (1 : Int32) v28 x1))] (.long (0 : Int64)) := by
    have q := Arv.set Ar36 q36 S36 M36 H36 G36 rfl W36 _ rfl (own_setJ2 (w := 0) (x0 := 0) (x1 := 0) hin0).1
    rw [(own_setJ2 hin0).2] at q
    exact q
  have f37_1 := Fld.other W36 Fn (Or.inl xe0)
  have f37_2 := Fld.other W36 Fw (Or.inl xe0)
  have f37_3 := Fld.other W36 Fs (Or.inl xe0)
  have f37_4 := V1.other W36 xe1
  have f37_5 := V2.other W36 xe2
  have f37_6 := V3.other W36 xe3
  have zz38 : n0 ≤ h36.size := Nat.le_trans Z0 (Keep.of_wr W36).1
  have kp39 : Keep h0 h36 [a2] := kp0.wr W36 (Or.inl (List.mem_of_getElem? (i := 0) rfl))
  have pre40 : Go p.tables e below S0 T36 (mkF m 90 #[vR a0, vR a1, vR a2, vI p3, vI (0 : Int32), vJ v28, .second, vI (2 : Int32)] [(.ref a0)]) := fun t k => pre36 t (by
    refine XS.aloadN X36.here hx rfl (hb hby d5_89) rfl rfl ?_
    exact k)
  obtain ⟨T41, X41, e41, st41⟩ := getF X36 hx hZ hown (host := "") (Or.inl (hw _ (List.mem_of_getElem? (i := 18) rfl))) Via.refl e36 f37_2 (g := (mkF m 90 #[vR a0, vR a1, vR a2, vI p3, vI (0 : Int32), vJ v28, .second, vI (2 : Int32)] [(.ref a0)])) rfl rfl (hb hby d5_90)
  have pre41 : Go p.tables e below S0 T41 (mkF m 93 #[vR a0, vR a1, vR a2, vI p3, vI (0 : Int32), vJ v28, .second, vI (2 : Int32)] [(.ref aw)]) := fun t k => pre40 t (st41 t k)
  have pre42 : Go p.tables e below S0 T41 (mkF m 95 #[vR a0, vR a1, vR a2, vI p3, vI (0 : Int32), vJ v28, .second, vI (2 : Int32)] [(.int (2 : Int32)), (.ref aw)]) := fun t k => pre41 t (by
    refine XS.iload X41.here hx rfl (hb hby d5_93) rfl ?_
    exact k)
  obtain ⟨cl43, Ar43, q43, S43, M43, H43, G43⟩ := id f37_4
  have in43 : ¬ ((2 : Int32) < 0 ∨ cl43.slots.size ≤ ((2 : Int32)).toNatClampNeg) := inb_of S43 ⟨by decide, by decide⟩
  have at43 : cl43.slots[((2 : Int32)).toNatClampNeg]? = some (.int (1 : Int32)) := H43.at in43 rfl
  have pre44 : Go p.tables e below S0 T41 (mkF m 106 #[vR a0, vR a1, vR a2, vI p3, vI (1 : Int32), vJ (0 : Int64), .second, vI (2 : Int32)] [(.int (2 : Int32)), (.ref a1), (.long (0 : Int64))]) := fun t k => pre42 t (by
    refine X41.iaload hx (j := (2 : Int32)) (v := (.int (1 : Int32))) (by rw [e41]; exact Ar43.1) (State.isArrayOf_alike hZ.alike Ar43.2.1) Ar43.2.2 in43 at43 (g := (mkF m 95 #[vR a0, vR a1, vR a2, vI p3, vI (0 : Int32), vJ v28, .second, vI (2 : Int32)] [(.int (2 : Int32)), (.ref aw)])) rfl rfl (hb hby d5_95) _ ?_
    refine XS.istore X41.here hx rfl (hb hby d5_96) rfl (l' := #[vR a0, vR a1, vR a2, vI p3, vI (1 : Int32), vJ v28, .second, vI (2 : Int32)]) rfl ?_
    refine XS.lconst X41.here hx rfl (hb hby d5_98) ?_
    show Steps p.tables e below (T41.setTop (mkF m 99 #[vR a0, vR a1, vR a2, vI p3, vI (1 : Int32), vJ v28, .second, vI (2 : Int32)] [(.long (0 : Int64))])) _
    refine XS.lstore X41.here hx rfl (hb hby d5_99) rfl (l' := #[vR a0, vR a1, vR a2, vI p3, vI (1 : Int32), vJ (0 : Int64), .second, vI (2 : Int32)]) rfl ?_
    refine XS.lload X41.here hx rfl (hb hby d5_101) rfl ?_
    refine XS.aloadN X41.here hx rfl (hb hby d5_103) rfl rfl ?_
    show Steps p.tables e below (T41.setTop (mkF m 104 #[vR a0, vR a1, vR a2, vI p3, vI (1 : Int32), vJ (0 : Int64), .second, vI (2 : Int32)] [(.ref a1), (.long (0 : Int64))])) _
    refine XS.iload X41.here hx rfl (hb hby d5_104) rfl ?_
    exact k)
  obtain ⟨cl45, Ar45, q45, S45, M45, H45, G45⟩ := id f37_6
  have in45 : ¬ ((2 : Int32) < 0 ∨ cl45.slots.size ≤ ((2 : Int32)).toNatClampNeg) := inb_of S45 ⟨by decide, by decide⟩
  have at45 : cl45.slots[((2 : Int32)).toNatClampNeg]? = some (.int y2) := H45.at in45 rfl
  have pre46 : Go p.tables e below S0 T41 (mkF m 109 #[vR a0, vR a1, vR a2, vI p3, vI (1 : Int32), vJ (0 : Int64), .second, vI (2 : Int32)] [(.ref a0), (.long (y2.toInt64)), (.long (0 : Int64))]) := fun t k => pre44 t (by
    refine X41.iaload hx (j := (2 : Int32)) (v := (.int y2)) (by rw [e41]; exact Ar45.1) (State.isArrayOf_alike hZ.alike Ar45.2.1) Ar45.2.2 in45 at45 (g := (mkF m 106 #[vR a0, vR a1, vR a2, vI p3, vI (1 : Int32), vJ (0 : Int64), .second, vI (2 : Int32)] [(.int (2 : Int32)), (.ref a1), (.long (0 : Int64))])) rfl rfl (hb hby d5_106) _ ?_
    refine XS.i2l X41.here hx rfl (hb hby d5_107) rfl ?_
    refine XS.aloadN X41.here hx rfl (hb hby d5_108) rfl rfl ?_
    show Steps p.tables e below (T41.setTop (mkF m 109 #[vR a0, vR a1, vR a2, vI p3, vI (1 : Int32), vJ (0 : Int64), .second, vI (2 : Int32)] [(.ref a0), (.long (y2.toInt64)), (.long (0 : Int64))])) _
    exact k)
  obtain ⟨T47, X47, e47, st47⟩ := getF X41 hx hZ hown (host := "") (Or.inl (hw _ (List.mem_of_getElem? (i := 20) rfl))) Via.refl e41 f37_3 (g := (mkF m 109 #[vR a0, vR a1, vR a2, vI p3, vI (1 : Int32), vJ (0 : Int64), .second, vI (2 : Int32)] [(.ref a0), (.long (y2.toInt64)), (.long (0 : Int64))])) rfl rfl (hb hby d5_109)
  have pre47 : Go p.tables e below S0 T47 (mkF m 112 #[vR a0, vR a1, vR a2, vI p3, vI (1 : Int32), vJ (0 : Int64), .second, vI (2 : Int32)] [(.ref as), (.long (y2.toInt64)), (.long (0 : Int64))]) := fun t k => pre46 t (st47 t k)
  have pre48 : Go p.tables e below S0 T47 (mkF m 114 #[vR a0, vR a1, vR a2, vI p3, vI (1 : Int32), vJ (0 : Int64), .second, vI (2 : Int32)] [(.int (2 : Int32)), (.ref as), (.long (y2.toInt64)), (.long (0 : Int64))]) := fun t k => pre47 t (by
    refine XS.iload X47.here hx rfl (hb hby d5_112) rfl ?_
    exact k)
  obtain ⟨cl49, Ar49, q49, S49, M49, H49, G49⟩ := id f37_5
  have in49 : ¬ ((2 : Int32) < 0 ∨ cl49.slots.size ≤ ((2 : Int32)).toNatClampNeg) := inb_of S49 ⟨by decide, by decide⟩
  have at49 : cl49.slots[((2 : Int32)).toNatClampNeg]? = some (.int u2) := H49.at in49 rfl
  obtain ⟨v50, hv50, pre50⟩ : ∃ z : Int64, z = ((0 : Int64) ||| ((y2.toInt64) <<< (u2 &&& 0x3f).toInt64)) ∧ Go p.tables e below S0 T47 (mkF m 119 #[vR a0, vR a1, vR a2, vI p3, vI (1 : Int32), vJ z, .second, vI (2 : Int32)] []) := ⟨_, rfl, fun t k => pre48 t (by
    refine X47.iaload hx (j := (2 : Int32)) (v := (.int u2)) (by rw [e47]; exact Ar49.1) (State.isArrayOf_alike hZ.alike Ar49.2.1) Ar49.2.2 in49 at49 (g := (mkF m 114 #[vR a0, vR a1, vR a2, vI p3, vI (1 : Int32), vJ (0 : Int64), .second, vI (2 : Int32)] [(.int (2 : Int32)), (.ref as), (.long (y2.toInt64)), (.long (0 : Int64))])) rfl rfl (hb hby d5_114) _ ?_
    refine XS.lshl X47.here hx rfl (hb hby d5_115) rfl ?_
    refine XS.lor X47.here hx rfl (hb hby d5_116) rfl ?_
    show Steps p.tables e below (T47.setTop (mkF m 117 #[vR a0, vR a1, vR a2, vI p3, vI (1 : Int32), vJ (0 : Int64), .second, vI (2 : Int32)] [(.long ((0 : Int64) ||| ((y2.toInt64) <<< (u2 &&& 0x3f).toInt64)))])) _
    refine XS.lstore X47.here hx rfl (hb hby d5_117) rfl (l' := #[vR a0, vR a1, vR a2, vI p3, vI (1 : Int32), vJ ((0 : Int64) ||| ((y2.toInt64) <<< (u2 &&& 0x3f).toInt64)), .second, vI (2 : Int32)]) rfl ?_
    exact k)⟩
  have pre51 : Go p.tables e below S0 T47 (mkF m 65 #[vR a0, vR a1, vR a2, vI p3, vI (1 : Int32), vJ v50, .second, vI (3 : Int32)] [(.ref a1), (.int (3 : Int32))]) := fun t k => pre50 t (by
    refine XS.iinc X47.here hx rfl (hb hby d5_119) rfl (l' := #[vR a0, vR a1, vR a2, vI p3, vI (1 : Int32), vJ v50, .second, vI (3 : Int32)]) rfl ?_
    refine XS.goto X47.here hx rfl (pc0 := 122) (pc' := 62) rfl (hb hby d5_122) (by decide) (by decide) ?_
    refine XS.iload X47.here hx rfl (hb hby d5_62) rfl ?_
    show Steps p.tables e below (T47.setTop (mkF m 64 #[vR a0, vR a1, vR a2, vI p3, vI (1 : Int32), vJ v50, .second, vI (3 : Int32)] [(.int (3 : Int32))])) _
    refine XS.aloadN X47.here hx rfl (hb hby d5_64) rfl rfl ?_
    exact k)
  obtain ⟨cl52, Ar52, q52, S52, M52, H52, G52⟩ := id f37_6
  have pre53 : Go p.tables e below S0 T47 (mkF m 70 #[vR a0, vR a1, vR a2, vI p3, vI (1 : Int32), vJ v50, .second, vI (3 : Int32)] [(.ref a0)]) := fun t k => pre51 t (by
    refine X47.arraylength hx (by rw [e47]; exact Ar52.1) (State.isArrayOf_alike hZ.alike Ar52.2.1) (g := (mkF m 65 #[vR a0, vR a1, vR a2, vI p3, vI (1 : Int32), vJ v50, .second, vI (3 : Int32)] [(.ref a1), (.int (3 : Int32))])) rfl rfl (hb hby d5_65) _ ?_
    rw [len_of S52 M52]
    refine XS.icmpNo X47.here hx rfl (hb hby d5_66) rfl (tlt (by decide : (3 : Int32) < (4 : Int32))).2.1 ?_
    refine XS.aloadN X47.here hx rfl (hb hby d5_69) rfl rfl ?_
    show Steps p.tables e below (T47.setTop (mkF m 70 #[vR a0, vR a1, vR a2, vI p3, vI (1 : Int32), vJ v50, .second, vI (3 : Int32)] [(.ref a0)])) _
    exact k)
  obtain ⟨T54, X54, e54, st54⟩ := getF X47 hx hZ hown (host := "") (Or.inl (hw _ (List.mem_of_getElem? (i := 18) rfl))) Via.refl e47 f37_2 (g := (mkF m 70 #[vR a0, vR a1, vR a2, vI p3, vI (1 : Int32), vJ v50, .second, vI (3 : Int32)] [(.ref a0)])) rfl rfl (hb hby d5_70)
  have pre54 : Go p.tables e below S0 T54 (mkF m 73 #[vR a0, vR a1, vR a2, vI p3, vI (1 : Int32), vJ v50, .second, vI (3 : Int32)] [(.ref aw)]) := fun t k => pre53 t (st54 t k)
  have pre55 : Go p.tables e below S0 T54 (mkF m 75 #[vR a0, vR a1, vR a2, vI p3, vI (1 : Int32), vJ v50, .second, vI (3 : Int32)] [(.int (3 : Int32)), (.ref aw)]) := fun t k => pre54 t (by
    refine XS.iload X54.here hx rfl (hb hby d5_73) rfl ?_
    exact k)
  obtain ⟨cl56, Ar56, q56, S56, M56, H56, G56⟩ := id f37_4
  have in56 : ¬ ((3 : Int32) < 0 ∨ cl56.slots.size ≤ ((3 : Int32)).toNatClampNeg) := inb_of S56 ⟨by decide, by decide⟩
  have at56 : cl56.slots[((3 : Int32)).toNatClampNeg]? = some (.int (1 : Int32)) := H56.at in56 rfl
  have pre57 : Go p.tables e below S0 T54 (mkF m 106 #[vR a0, vR a1, vR a2, vI p3, vI (1 : Int32), vJ v50, .second, vI (3 : Int32)] [(.int (3 : Int32)), (.ref a1), (.long v50)]) := fun t k => pre55 t (by
    refine X54.iaload hx (j := (3 : Int32)) (v := (.int (1 : Int32))) (by rw [e54]; exact Ar56.1) (State.isArrayOf_alike hZ.alike Ar56.2.1) Ar56.2.2 in56 at56 (g := (mkF m 75 #[vR a0, vR a1, vR a2, vI p3, vI (1 : Int32), vJ v50, .second, vI (3 : Int32)] [(.int (3 : Int32)), (.ref aw)])) rfl rfl (hb hby d5_75) _ ?_
    refine XS.iload X54.here hx rfl (hb hby d5_76) rfl ?_
    refine XS.icmpYes X54.here hx rfl (pc0 := 78) (pc' := 101) rfl (hb hby d5_78) rfl (teq (rfl : (1 : Int32) = (1 : Int32))).1 (by decide) (by decide) ?_
    show Steps p.tables e below (T54.setTop (mkF m 101 #[vR a0, vR a1, vR a2, vI p3, vI (1 : Int32), vJ v50, .second, vI (3 : Int32)] [])) _
    refine XS.lload X54.here hx rfl (hb hby d5_101) rfl ?_
    refine XS.aloadN X54.here hx rfl (hb hby d5_103) rfl rfl ?_
    refine XS.iload X54.here hx rfl (hb hby d5_104) rfl ?_
    show Steps p.tables e below (T54.setTop (mkF m 106 #[vR a0, vR a1, vR a2, vI p3, vI (1 : Int32), vJ v50, .second, vI (3 : Int32)] [(.int (3 : Int32)), (.ref a1), (.long v50)])) _
    exact k)
  obtain ⟨cl58, Ar58, q58, S58, M58, H58, G58⟩ := id f37_6
  have in58 : ¬ ((3 : Int32) < 0 ∨ cl58.slots.size ≤ ((3 : Int32)).toNatClampNeg) := inb_of S58 ⟨by decide, by decide⟩
  have at58 : cl58.slots[((3 : Int32)).toNatClampNeg]? = some (.int y3) := H58.at in58 rfl
  have pre59 : Go p.tables e below S0 T54 (mkF m 109 #[vR a0, vR a1, vR a2, vI p3, vI (1 : Int32), vJ v50, .second, vI (3 : Int32)] [(.ref a0), (.long (y3.toInt64)), (.long v50)]) := fun t k => pre57 t (by
    refine X54.iaload hx (j := (3 : Int32)) (v := (.int y3)) (by rw [e54]; exact Ar58.1) (State.isArrayOf_alike hZ.alike Ar58.2.1) Ar58.2.2 in58 at58 (g := (mkF m 106 #[vR a0, vR a1, vR a2, vI p3, vI (1 : Int32), vJ v50, .second, vI (3 : Int32)] [(.int (3 : Int32)), (.ref a1), (.long v50)])) rfl rfl (hb hby d5_106) _ ?_
    refine XS.i2l X54.here hx rfl (hb hby d5_107) rfl ?_
    refine XS.aloadN X54.here hx rfl (hb hby d5_108) rfl rfl ?_
    show Steps p.tables e below (T54.setTop (mkF m 109 #[vR a0, vR a1, vR a2, vI p3, vI (1 : Int32), vJ v50, .second, vI (3 : Int32)] [(.ref a0), (.long (y3.toInt64)), (.long v50)])) _
    exact k)
  obtain ⟨T60, X60, e60, st60⟩ := getF X54 hx hZ hown (host := "") (Or.inl (hw _ (List.mem_of_getElem? (i := 20) rfl))) Via.refl e54 f37_3 (g := (mkF m 109 #[vR a0, vR a1, vR a2, vI p3, vI (1 : Int32), vJ v50, .second, vI (3 : Int32)] [(.ref a0), (.long (y3.toInt64)), (.long v50)])) rfl rfl (hb hby d5_109)
  have pre60 : Go p.tables e below S0 T60 (mkF m 112 #[vR a0, vR a1, vR a2, vI p3, vI (1 : Int32), vJ v50, .second, vI (3 : Int32)] [(.ref as), (.long (y3.toInt64)), (.long v50)]) := fun t k => pre59 t (st60 t k)
  have pre61 : Go p.tables e below S0 T60 (mkF m 114 #[vR a0, vR a1, vR a2, vI p3, vI (1 : Int32), vJ v50, .second, vI (3 : Int32)] [(.int (3 : Int32)), (.ref as), (.long (y3.toInt64)), (.long v50)]) := fun t k => pre60 t (by
    refine XS.iload X60.here hx rfl (hb hby d5_112) rfl ?_
    exact k)
  obtain ⟨cl62, Ar62, q62, S62, M62, H62, G62⟩ := id f37_5
  have in62 : ¬ ((3 : Int32) < 0 ∨ cl62.slots.size ≤ ((3 : Int32)).toNatClampNeg) := inb_of S62 ⟨by decide, by decide⟩
  have at62 : cl62.slots[((3 : Int32)).toNatClampNeg]? = some (.int u3) := H62.at in62 rfl
  obtain ⟨v63, hv63, pre63⟩ : ∃ z : Int64, z = (v50 ||| ((y3.toInt64) <<< (u3 &&& 0x3f).toInt64)) ∧ Go p.tables e below S0 T60 (mkF m 119 #[vR a0, vR a1, vR a2, vI p3, vI (1 : Int32), vJ z, .second, vI (3 : Int32)] []) := ⟨_, rfl, fun t k => pre61 t (by
    refine X60.iaload hx (j := (3 : Int32)) (v := (.int u3)) (by rw [e60]; exact Ar62.1) (State.isArrayOf_alike hZ.alike Ar62.2.1) Ar62.2.2 in62 at62 (g := (mkF m 114 #[vR a0, vR a1, vR a2, vI p3, vI (1 : Int32), vJ v50, .second, vI (3 : Int32)] [(.int (3 : Int32)), (.ref as), (.long (y3.toInt64)), (.long v50)])) rfl rfl (hb hby d5_114) _ ?_
    refine XS.lshl X60.here hx rfl (hb hby d5_115) rfl ?_
    refine XS.lor X60.here hx rfl (hb hby d5_116) rfl ?_
    show Steps p.tables e below (T60.setTop (mkF m 117 #[vR a0, vR a1, vR a2, vI p3, vI (1 : Int32), vJ v50, .second, vI (3 : Int32)] [(.long (v50 ||| ((y3.toInt64) <<< (u3 &&& 0x3f).toInt64)))])) _
    refine XS.lstore X60.here hx rfl (hb hby d5_117) rfl (l' := #[vR a0, vR a1, vR a2, vI p3, vI (1 : Int32), vJ (v50 ||| ((y3.toInt64) <<< (u3 &&& 0x3f).toInt64)), .second, vI (3 : Int32)]) rfl ?_
    exact k)⟩
  have pre64 : Go p.tables e below S0 T60 (mkF m 65 #[vR a0, vR a1, vR a2, vI p3, vI (1 : Int32), vJ v63, .second, vI (4 : Int32)] [(.ref a1), (.int (4 : Int32))]) := fun t k => pre63 t (by
    refine XS.iinc X60.here hx rfl (hb hby d5_119) rfl (l' := #[vR a0, vR a1, vR a2, vI p3, vI (1 : Int32), vJ v63, .second, vI (4 : Int32)]) rfl ?_
    refine XS.goto X60.here hx rfl (pc0 := 122) (pc' := 62) rfl (hb hby d5_122) (by decide) (by decide) ?_
    refine XS.iload X60.here hx rfl (hb hby d5_62) rfl ?_
    show Steps p.tables e below (T60.setTop (mkF m 64 #[vR a0, vR a1, vR a2, vI p3, vI (1 : Int32), vJ v63, .second, vI (4 : Int32)] [(.int (4 : Int32))])) _
    refine XS.aloadN X60.here hx rfl (hb hby d5_64) rfl rfl ?_
    exact k)
  obtain ⟨cl65, Ar65, q65, S65, M65, H65, G65⟩ := id f37_6
  have pre66 : Go p.tables e below S0 T60 (mkF m 132 #[vR a0, vR a1, vR a2, vI p3, vI (1 : Int32), vJ v63, .second, vI (4 : Int32)] [(.long v63), (.int (p3 + (1 : Int32))), (.ref a2)]) := fun t k => pre64 t (by
    refine X60.arraylength hx (by rw [e60]; exact Ar65.1) (State.isArrayOf_alike hZ.alike Ar65.2.1) (g := (mkF m 65 #[vR a0, vR a1, vR a2, vI p3, vI (1 : Int32), vJ v63, .second, vI (4 : Int32)] [(.ref a1), (.int (4 : Int32))])) rfl rfl (hb hby d5_65) _ ?_
    rw [len_of S65 M65]
    refine XS.icmpYes X60.here hx rfl (pc0 := 66) (pc' := 125) rfl (hb hby d5_66) rfl (flt (by decide : ¬ ((4 : Int32) < (4 : Int32)))).2.1 (by decide) (by decide) ?_
    refine XS.aloadN X60.here hx rfl (hb hby d5_125) rfl rfl ?_
    show Steps p.tables e below (T60.setTop (mkF m 126 #[vR a0, vR a1, vR a2, vI p3, vI (1 : Int32), vJ v63, .second, vI (4 : Int32)] [(.ref a2)])) _
    refine XS.iloadN X60.here hx rfl (hb hby d5_126) rfl ?_
    refine XS.iload X60.here hx rfl (hb hby d5_127) rfl ?_
    refine XS.iadd X60.here hx rfl (hb hby d5_129) rfl ?_
    show Steps p.tables e below (T60.setTop (mkF m 130 #[vR a0, vR a1, vR a2, vI p3, vI (1 : Int32), vJ v63, .second, vI (4 : Int32)] [(.int (p3 + (1 : Int32))), (.ref a2)])) _
    refine XS.lload X60.here hx rfl (hb hby d5_130) rfl ?_
    exact k)
  obtain ⟨cl67, Ar67, q67, S67, M67, H67, G67⟩ := id av36
  have in67 : ¬ ((p3 + (1 : Int32)) < 0 ∨ cl67.slots.size ≤ ((p3 + (1 : Int32))).toNatClampNeg) := inb_of S67 hin1
  obtain ⟨T67, h67, X67, e67, W67, st67⟩ := stJ X60 hx hZ e60 Ar67 (j := (p3 + (1 : Int32))) in67 (g := (mkF m 132 #[vR a0, vR a1, vR a2, vI p3, vI (1 : Int32), vJ v63, .second, vI (4 : Int32)] [(.long v63), (.int (p3 + (1 : Int32))), (.ref a2)])) rfl rfl (hb hby d5_132)
  have pre67 : Go p.tables e below S0 T67 (mkF m 133 #[vR a0, vR a1, vR a2, vI p3, vI (1 : Int32), vJ v63, .second, vI (4 : Int32)] []) := fun t k => pre66 t (st67 t k)
  obtain ⟨lo67, N67, X67⟩ : ∃ lo, Fr n0 lo ∧ Stand p l e ({ frames := 0, cells := 0, slots := 0, locals := 0 } : Room) s m #[(.ref a0), (.ref a1), (.ref a2), (.int p3)] below meth c T67 lo 0 0 := ⟨_, Fr.snoc X67 N36 g0, X67⟩
  have av67 : Arv Z h67 a2 k2 .long (2 : Int32) [(.long (own_putL (p3 + (1 : Int32)) (0 : Int32) v63 (own_putL (p3 + (0 : Int32)) (0 : Int32) v28 x0))), (.long (own_putL (p3 + (1 : Int32)) (1 : Int32) v63 (own_putL (p3 + (0 : Int32)) (1 : Int32) v28 x1)))] (.long (0 : Int64)) := by
    have q := Arv.set Ar67 q67 S67 M67 H67 G67 rfl W67 _ rfl (own_setJ2 (w := 0) (x0 := 0) (x1 := 0) hin1).1
    rw [(own_setJ2 hin1).2] at q
    exact q
  have f68_1 := Fld.other W67 f37_1 (Or.inl xe0)
  have f68_2 := Fld.other W67 f37_2 (Or.inl xe0)
  have f68_3 := Fld.other W67 f37_3 (Or.inl xe0)
  have f68_4 := f37_4.other W67 xe1
  have f68_5 := f37_5.other W67 xe2
  have f68_6 := f37_6.other W67 xe3
  have zz69 : n0 ≤ h67.size := Nat.le_trans zz38 (Keep.of_wr W67).1
  have kp70 : Keep h0 h67 [a2] := kp39.wr W67 (Or.inl (List.mem_of_getElem? (i := 0) rfl))
  obtain ⟨fs, hr, hrun, hended, hW, hsame⟩ := X67.leave (v := none) (fun _ => rfl)
  exact ⟨_, _, pre67.fin hS0 (X67.returnOut hx Bd.returns (hb hby d5_133) hr), hrun, hended, _, _, rfl, (by
    show Q5_0011 Z a0 a1 a2 p3 aw as kw ks k1 k2 u0 u1 u2 u3 y0 y1 y2 y3 x0 x1 h0 n0 _ T67.heap _
    rw [e67]
    subst hv63 hv50 hv28 hv15
    exact ⟨rfl, N67, _, _, ⟨rfl, rfl⟩, kp70, av67⟩), ⟨_, rfl⟩, hW, hsame.mono (by decide) (by decide)⟩
theorem own_one {b0 : Int32} (h : 1 ≤ b0.toInt ∧ b0.toInt ≤ 31) : ((0 : Int32) + b0).toInt = b0.toInt := by rw [Int32.zero_add]
theorem own_geo {b0 b1 b2 b3 c2 u2 c3 u3 : Int32} (hb0 : 1 ≤ b0.toInt ∧ b0.toInt ≤ 31) (hb1 : 1 ≤ b1.toInt ∧ b1.toInt ≤ 31) (hb2 : 1 ≤ b2.toInt ∧ b2.toInt ≤ 31) (hb3 : 1 ≤ b3.toInt ∧ b3.toInt ≤ 31) (e2 : c2 = own_cur (0 : Int32) (((0 : Int32) + b0) + b1) b2 ∧ u2 = own_u0 (((0 : Int32) + b0) + b1) b2) (e3 : c3 = own_cur c2 (u2 + b2) b3 ∧ u3 = own_u0 (u2 + b2) b3) : ((0 ≤ (0 : Int32).toInt ∧ (0 : Int32).toInt < 64) ∧ (0 : Int32).toInt + b0.toInt ≤ 64) ∧ ((0 ≤ ((0 : Int32) + b0).toInt ∧ ((0 : Int32) + b0).toInt < 64) ∧ ((0 : Int32) + b0).toInt + b1.toInt ≤ 64) ∧ ((0 ≤ u2.toInt ∧ u2.toInt < 64) ∧ u2.toInt + b2.toInt ≤ 64) ∧ ((0 ≤ u3.toInt ∧ u3.toInt < 64) ∧ u3.toInt + b3.toInt ≤ 64) ∧ ((0 : Int32).toInt + b0.toInt ≤ ((0 : Int32) + b0).toInt) ∧ (c2 = (0 : Int32) → (0 : Int32).toInt + b0.toInt ≤ u2.toInt) ∧ (c2 = (0 : Int32) → ((0 : Int32) + b0).toInt + b1.toInt ≤ u2.toInt) ∧ (c3 = (0 : Int32) → (0 : Int32).toInt + b0.toInt ≤ u3.toInt) ∧ (c3 = (0 : Int32) → ((0 : Int32) + b0).toInt + b1.toInt ≤ u3.toInt) ∧ (c2 = c3 → u2.toInt + b2.toInt ≤ u3.toInt) := by
  have z : (0 : Int32).toInt = 0 := rfl
  have o := own_one hb0
  have t := own_two (w0 := b0) (w1 := b1) (by omega) (by omega)
  have n1 : ¬ ((0 : Int32) + (1 : Int32)) = (0 : Int32) := by decide
  have n2 : ¬ (((0 : Int32) + (1 : Int32)) + (1 : Int32)) = (0 : Int32) := by decide
  have n3 : ¬ (0 : Int32) = ((0 : Int32) + (1 : Int32)) := by decide
  have n4 : ¬ ((0 : Int32) + (1 : Int32)) = (((0 : Int32) + (1 : Int32)) + (1 : Int32)) := by decide
  rcases own_st (by omega) (by omega) e2 with ⟨a, rfl, rfl⟩ | ⟨a, rfl, rfl⟩
  · have s2 := own_sum (w := b2) (u := ((0 : Int32) + b0) + b1) (by omega) (by omega)
    rcases own_st (by omega) (by omega) e3 with ⟨b, rfl, rfl⟩ | ⟨b, rfl, rfl⟩
    · refine ⟨?_, ?_, ?_, ?_, ?_, fun _ => ?_, fun _ => ?_, fun _ => ?_, fun _ => ?_, fun _ => ?_⟩ <;> omega
    · refine ⟨?_, ?_, ?_, ?_, ?_, fun _ => ?_, fun _ => ?_, fun q => absurd q n1, fun q => absurd q n1, fun q => absurd q n3⟩ <;> omega
  · have s2 := own_sum (w := b2) (u := (0 : Int32)) (by omega) (by decide)
    rcases own_st (by omega) (by omega) e3 with ⟨b, rfl, rfl⟩ | ⟨b, rfl, rfl⟩
    · refine ⟨?_, ?_, ?_, ?_, ?_, fun q => absurd q n1, fun q => absurd q n1, fun q => absurd q n1, fun q => absurd q n1, fun _ => ?_⟩ <;> omega
    · exfalso; omega
theorem own_pk0 {b0 b1 b2 b3 c2 c3 u2 u3 x0 x1 x2 x3 : Int32} {z0 z1 : Int64} (h2 : c2 = (0 : Int32)) (h3 : c3 = (0 : Int32)) (g0 : (0 ≤ (0 : Int32).toInt ∧ (0 : Int32).toInt < 64) ∧ (0 : Int32).toInt + b0.toInt ≤ 64) (g1 : (0 ≤ ((0 : Int32) + b0).toInt ∧ ((0 : Int32) + b0).toInt < 64) ∧ ((0 : Int32) + b0).toInt + b1.toInt ≤ 64) (g2 : (0 ≤ u2.toInt ∧ u2.toInt < 64) ∧ u2.toInt + b2.toInt ≤ 64) (g3 : (0 ≤ u3.toInt ∧ u3.toInt < 64) ∧ u3.toInt + b3.toInt ≤ 64) (d01 : (0 : Int32).toInt + b0.toInt ≤ ((0 : Int32) + b0).toInt) (d02 : c2 = (0 : Int32) → (0 : Int32).toInt + b0.toInt ≤ u2.toInt) (d12 : c2 = (0 : Int32) → ((0 : Int32) + b0).toInt + b1.toInt ≤ u2.toInt) (d03 : c3 = (0 : Int32) → (0 : Int32).toInt + b0.toInt ≤ u3.toInt) (d13 : c3 = (0 : Int32) → ((0 : Int32) + b0).toInt + b1.toInt ≤ u3.toInt) (d23 : c2 = c3 → u2.toInt + b2.toInt ≤ u3.toInt) (X0 : own_V b0 x0) (X1 : own_V b1 x1) (X2 : own_V b2 x2) (X3 : own_V b3 x3) (hz : z0 = own_putL (0 : Int32) (0 : Int32) (((((0 : Int64) ||| ((x0.toInt64) <<< ((0 : Int32) &&& 0x3f).toInt64)) ||| ((x1.toInt64) <<< (((0 : Int32) + b0) &&& 0x3f).toInt64)) ||| ((x2.toInt64) <<< (u2 &&& 0x3f).toInt64)) ||| ((x3.toInt64) <<< (u3 &&& 0x3f).toInt64)) ((0 : Int64)) ∧ z1 = own_putL (0 : Int32) (1 : Int32) (((((0 : Int64) ||| ((x0.toInt64) <<< ((0 : Int32) &&& 0x3f).toInt64)) ||| ((x1.toInt64) <<< (((0 : Int32) + b0) &&& 0x3f).toInt64)) ||| ((x2.toInt64) <<< (u2 &&& 0x3f).toInt64)) ||| ((x3.toInt64) <<< (u3 &&& 0x3f).toInt64)) ((0 : Int64))) : own_H ([z0, z1].getD ((0 : Int32)).toNatClampNeg 0) (0 : Int32) b0 x0 ∧ own_H ([z0, z1].getD ((0 : Int32)).toNatClampNeg 0) ((0 : Int32) + b0) b1 x1 ∧ own_H ([z0, z1].getD (c2).toNatClampNeg 0) u2 b2 x2 ∧ own_H ([z0, z1].getD (c3).toNatClampNeg 0) u3 b3 x3 := by
  subst h2 h3
  obtain ⟨rfl, rfl⟩ := hz
  exact ⟨(own_Hl (own_Hl (own_Hl (own_Hr g0.1 g0.2 (own_Z0 _ _)) (own_ZA g0.1.1 g1.1 X1 (Or.inl d01))) (own_ZA g0.1.1 g2.1 X2 (Or.inl (d02 rfl)))) (own_ZA g0.1.1 g3.1 X3 (Or.inl (d03 rfl)))), (own_Hl (own_Hl (own_Hr g1.1 g1.2 (own_Zor (own_Z0 _ _) (own_ZA g1.1.1 g0.1 X0 (Or.inr d01)))) (own_ZA g1.1.1 g2.1 X2 (Or.inl (d12 rfl)))) (own_ZA g1.1.1 g3.1 X3 (Or.inl (d13 rfl)))), (own_Hl (own_Hr g2.1 g2.2 (own_Zor (own_Zor (own_Z0 _ _) (own_ZA g2.1.1 g0.1 X0 (Or.inr (d02 rfl)))) (own_ZA g2.1.1 g1.1 X1 (Or.inr (d12 rfl))))) (own_ZA g2.1.1 g3.1 X3 (Or.inl (d23 rfl)))), (own_Hr g3.1 g3.2 (own_Zor (own_Zor (own_Zor (own_Z0 _ _) (own_ZA g3.1.1 g0.1 X0 (Or.inr (d03 rfl)))) (own_ZA g3.1.1 g1.1 X1 (Or.inr (d13 rfl)))) (own_ZA g3.1.1 g2.1 X2 (Or.inr (d23 rfl)))))⟩
theorem own_pk1 {b0 b1 b2 b3 c2 c3 u2 u3 x0 x1 x2 x3 : Int32} {z0 z1 : Int64} (h2 : c2 = (0 : Int32)) (h3 : c3 = (1 : Int32)) (g0 : (0 ≤ (0 : Int32).toInt ∧ (0 : Int32).toInt < 64) ∧ (0 : Int32).toInt + b0.toInt ≤ 64) (g1 : (0 ≤ ((0 : Int32) + b0).toInt ∧ ((0 : Int32) + b0).toInt < 64) ∧ ((0 : Int32) + b0).toInt + b1.toInt ≤ 64) (g2 : (0 ≤ u2.toInt ∧ u2.toInt < 64) ∧ u2.toInt + b2.toInt ≤ 64) (g3 : (0 ≤ u3.toInt ∧ u3.toInt < 64) ∧ u3.toInt + b3.toInt ≤ 64) (d01 : (0 : Int32).toInt + b0.toInt ≤ ((0 : Int32) + b0).toInt) (d02 : c2 = (0 : Int32) → (0 : Int32).toInt + b0.toInt ≤ u2.toInt) (d12 : c2 = (0 : Int32) → ((0 : Int32) + b0).toInt + b1.toInt ≤ u2.toInt) (d03 : c3 = (0 : Int32) → (0 : Int32).toInt + b0.toInt ≤ u3.toInt) (d13 : c3 = (0 : Int32) → ((0 : Int32) + b0).toInt + b1.toInt ≤ u3.toInt) (d23 : c2 = c3 → u2.toInt + b2.toInt ≤ u3.toInt) (X0 : own_V b0 x0) (X1 : own_V b1 x1) (X2 : own_V b2 x2) (X3 : own_V b3 x3) (hz : z0 = own_putL ((0 : Int32) + (1 : Int32)) (0 : Int32) ((0 : Int64) ||| ((x3.toInt64) <<< (u3 &&& 0x3f).toInt64)) (own_putL ((0 : Int32) + (0 : Int32)) (0 : Int32) ((((0 : Int64) ||| ((x0.toInt64) <<< ((0 : Int32) &&& 0x3f).toInt64)) ||| ((x1.toInt64) <<< (((0 : Int32) + b0) &&& 0x3f).toInt64)) ||| ((x2.toInt64) <<< (u2 &&& 0x3f).toInt64)) ((0 : Int64))) ∧ z1 = own_putL ((0 : Int32) + (1 : Int32)) (1 : Int32) ((0 : Int64) ||| ((x3.toInt64) <<< (u3 &&& 0x3f).toInt64)) (own_putL ((0 : Int32) + (0 : Int32)) (1 : Int32) ((((0 : Int64) ||| ((x0.toInt64) <<< ((0 : Int32) &&& 0x3f).toInt64)) ||| ((x1.toInt64) <<< (((0 : Int32) + b0) &&& 0x3f).toInt64)) ||| ((x2.toInt64) <<< (u2 &&& 0x3f).toInt64)) ((0 : Int64)))) : own_H ([z0, z1].getD ((0 : Int32)).toNatClampNeg 0) (0 : Int32) b0 x0 ∧ own_H ([z0, z1].getD ((0 : Int32)).toNatClampNeg 0) ((0 : Int32) + b0) b1 x1 ∧ own_H ([z0, z1].getD (c2).toNatClampNeg 0) u2 b2 x2 ∧ own_H ([z0, z1].getD (c3).toNatClampNeg 0) u3 b3 x3 := by
  subst h2 h3
  obtain ⟨rfl, rfl⟩ := hz
  exact ⟨(own_Hl (own_Hl (own_Hr g0.1 g0.2 (own_Z0 _ _)) (own_ZA g0.1.1 g1.1 X1 (Or.inl d01))) (own_ZA g0.1.1 g2.1 X2 (Or.inl (d02 rfl)))), (own_Hl (own_Hr g1.1 g1.2 (own_Zor (own_Z0 _ _) (own_ZA g1.1.1 g0.1 X0 (Or.inr d01)))) (own_ZA g1.1.1 g2.1 X2 (Or.inl (d12 rfl)))), (own_Hr g2.1 g2.2 (own_Zor (own_Zor (own_Z0 _ _) (own_ZA g2.1.1 g0.1 X0 (Or.inr (d02 rfl)))) (own_ZA g2.1.1 g1.1 X1 (Or.inr (d12 rfl))))), (own_Hr g3.1 g3.2 (own_Z0 _ _))⟩
theorem own_pk2 {b0 b1 b2 b3 c2 c3 u2 u3 x0 x1 x2 x3 : Int32} {z0 z1 : Int64} (h2 : c2 = (1 : Int32)) (h3 : c3 = (1 : Int32)) (g0 : (0 ≤ (0 : Int32).toInt ∧ (0 : Int32).toInt < 64) ∧ (0 : Int32).toInt + b0.toInt ≤ 64) (g1 : (0 ≤ ((0 : Int32) + b0).toInt ∧ ((0 : Int32) + b0).toInt < 64) ∧ ((0 : Int32) + b0).toInt + b1.toInt ≤ 64) (g2 : (0 ≤ u2.toInt ∧ u2.toInt < 64) ∧ u2.toInt + b2.toInt ≤ 64) (g3 : (0 ≤ u3.toInt ∧ u3.toInt < 64) ∧ u3.toInt + b3.toInt ≤ 64) (d01 : (0 : Int32).toInt + b0.toInt ≤ ((0 : Int32) + b0).toInt) (d02 : c2 = (0 : Int32) → (0 : Int32).toInt + b0.toInt ≤ u2.toInt) (d12 : c2 = (0 : Int32) → ((0 : Int32) + b0).toInt + b1.toInt ≤ u2.toInt) (d03 : c3 = (0 : Int32) → (0 : Int32).toInt + b0.toInt ≤ u3.toInt) (d13 : c3 = (0 : Int32) → ((0 : Int32) + b0).toInt + b1.toInt ≤ u3.toInt) (d23 : c2 = c3 → u2.toInt + b2.toInt ≤ u3.toInt) (X0 : own_V b0 x0) (X1 : own_V b1 x1) (X2 : own_V b2 x2) (X3 : own_V b3 x3) (hz : z0 = own_putL ((0 : Int32) + (1 : Int32)) (0 : Int32) (((0 : Int64) ||| ((x2.toInt64) <<< (u2 &&& 0x3f).toInt64)) ||| ((x3.toInt64) <<< (u3 &&& 0x3f).toInt64)) (own_putL ((0 : Int32) + (0 : Int32)) (0 : Int32) (((0 : Int64) ||| ((x0.toInt64) <<< ((0 : Int32) &&& 0x3f).toInt64)) ||| ((x1.toInt64) <<< (((0 : Int32) + b0) &&& 0x3f).toInt64)) ((0 : Int64))) ∧ z1 = own_putL ((0 : Int32) + (1 : Int32)) (1 : Int32) (((0 : Int64) ||| ((x2.toInt64) <<< (u2 &&& 0x3f).toInt64)) ||| ((x3.toInt64) <<< (u3 &&& 0x3f).toInt64)) (own_putL ((0 : Int32) + (0 : Int32)) (1 : Int32) (((0 : Int64) ||| ((x0.toInt64) <<< ((0 : Int32) &&& 0x3f).toInt64)) ||| ((x1.toInt64) <<< (((0 : Int32) + b0) &&& 0x3f).toInt64)) ((0 : Int64)))) : own_H ([z0, z1].getD ((0 : Int32)).toNatClampNeg 0) (0 : Int32) b0 x0 ∧ own_H ([z0, z1].getD ((0 : Int32)).toNatClampNeg 0) ((0 : Int32) + b0) b1 x1 ∧ own_H ([z0, z1].getD (c2).toNatClampNeg 0) u2 b2 x2 ∧ own_H ([z0, z1].getD (c3).toNatClampNeg 0) u3 b3 x3 := by
  subst h2 h3
  obtain ⟨rfl, rfl⟩ := hz
  exact ⟨(own_Hl (own_Hr g0.1 g0.2 (own_Z0 _ _)) (own_ZA g0.1.1 g1.1 X1 (Or.inl d01))), (own_Hr g1.1 g1.2 (own_Zor (own_Z0 _ _) (own_ZA g1.1.1 g0.1 X0 (Or.inr d01)))), (own_Hl (own_Hr g2.1 g2.2 (own_Z0 _ _)) (own_ZA g2.1.1 g3.1 X3 (Or.inl (d23 rfl)))), (own_Hr g3.1 g3.2 (own_Zor (own_Z0 _ _) (own_ZA g3.1.1 g2.1 X2 (Or.inr (d23 rfl)))))⟩
theorem own_k1 {z0 z1 : Int64} {cs us bs xs v : Int32} (hc : cs = (0 : Int32) ∨ cs = (1 : Int32)) (hu : 0 ≤ us.toInt ∧ us.toInt < 64) (hb : 1 ≤ bs.toInt ∧ bs.toInt ≤ 31) (h64 : us.toInt + bs.toInt ≤ 64) (V : own_V bs v) (X : own_V bs xs) (H : own_H ([z0, z1].getD (cs).toNatClampNeg 0) us bs xs) :
    [own_putL cs (0 : Int32) (own_N ([z0, z1].getD (cs).toNatClampNeg 0) v bs us) z0, own_putL cs (1 : Int32) (own_N ([z0, z1].getD (cs).toNatClampNeg 0) v bs us) z1].getD (cs).toNatClampNeg 0 = ([z0, z1].getD (cs).toNatClampNeg 0) ^^^ ((xs ^^^ v).toInt64 <<< (us &&& 0x3f).toInt64) := by
  have e := own_NX hu (by omega) h64 V X H
  rcases hc with rfl | rfl
  · exact e
  · exact e
theorem own_k2 {z0 z1 N : Int64} {cs : Int32} (hc : cs = (0 : Int32) ∨ cs = (1 : Int32)) : [own_putL cs (0 : Int32) N z0, own_putL cs (1 : Int32) N z1].getD ((1 : Int32) - cs).toNatClampNeg 0 = [z0, z1].getD ((1 : Int32) - cs).toNatClampNeg 0 := by
  rcases hc with rfl | rfl
  · rfl
  · rfl
theorem own_k3 {z0 z1 : Int64} {cs us bs v : Int32} (hc : cs = (0 : Int32) ∨ cs = (1 : Int32)) (hu : 0 ≤ us.toInt ∧ us.toInt < 64) (hb : 1 ≤ bs.toInt ∧ bs.toInt ≤ 31) (h64 : us.toInt + bs.toInt ≤ 64) (V : own_V bs v) :
    (((([own_putL cs (0 : Int32) (own_N ([z0, z1].getD (cs).toNatClampNeg 0) v bs us) z0, own_putL cs (1 : Int32) (own_N ([z0, z1].getD (cs).toNatClampNeg 0) v bs us) z1].getD ((0 : Int32) + cs).toNatClampNeg 0).toUInt64 >>> (us &&& 0x3f).toInt64.toUInt64).toInt64) &&& (((1 : Int64) <<< (bs &&& 0x3f).toInt64) - (1 : Int64))).toInt32 = v := by
  have e := own_get hu (by omega) V (own_NH (B := [z0, z1].getD (cs).toNatClampNeg 0) (v := v) hu (by omega) h64)
  rcases hc with rfl | rfl
  · exact e
  · exact e
theorem own_k4 {z0 z1 : Int64} {cs us bs v c u b x : Int32} (hc : cs = (0 : Int32) ∨ cs = (1 : Int32)) (hc' : c = (0 : Int32) ∨ c = (1 : Int32)) (hu : 0 ≤ us.toInt ∧ us.toInt < 64) (hb : 1 ≤ bs.toInt ∧ bs.toInt ≤ 31) (V : own_V bs v) (g : (0 ≤ u.toInt ∧ u.toInt < 64) ∧ u.toInt + b.toInt ≤ 64) (hb' : 1 ≤ b.toInt ∧ b.toInt ≤ 31) (X : own_V b x)
    (d : cs = c → us.toInt + bs.toInt ≤ u.toInt ∨ u.toInt + b.toInt ≤ us.toInt) (H : own_H ([z0, z1].getD (c).toNatClampNeg 0) u b x) :
    (((([own_putL cs (0 : Int32) (own_N ([z0, z1].getD (cs).toNatClampNeg 0) v bs us) z0, own_putL cs (1 : Int32) (own_N ([z0, z1].getD (cs).toNatClampNeg 0) v bs us) z1].getD ((0 : Int32) + c).toNatClampNeg 0).toUInt64 >>> (u &&& 0x3f).toInt64.toUInt64).toInt64) &&& (((1 : Int64) <<< (b &&& 0x3f).toInt64) - (1 : Int64))).toInt32 = x := by
  rcases hc with rfl | rfl <;> rcases hc' with rfl | rfl
  · exact own_get g.1 (by omega) X (own_NHo hu (by omega) V g.1.1 g.2 (d rfl) H)
  · exact own_get g.1 (by omega) X H
  · exact own_get g.1 (by omega) X H
  · exact own_get g.1 (by omega) X (own_NHo hu (by omega) V g.1.1 g.2 (d rfl) H)
theorem own_m3 {b0 b1 b2 b3 c2 c3 u2 u3 x0 x1 x2 x3 s v w r0 r1 r2 r3 : Int32} {z0 z1 n0 n1 d : Int64} (hs : s = (0 : Int32) ∨ s = (1 : Int32) ∨ s = (2 : Int32) ∨ s = (3 : Int32)) (hc2 : c2 = (0 : Int32) ∨ c2 = (1 : Int32)) (hc3 : c3 = (0 : Int32) ∨ c3 = (1 : Int32)) (hb0 : 1 ≤ b0.toInt ∧ b0.toInt ≤ 31) (hb1 : 1 ≤ b1.toInt ∧ b1.toInt ≤ 31) (hb2 : 1 ≤ b2.toInt ∧ b2.toInt ≤ 31) (hb3 : 1 ≤ b3.toInt ∧ b3.toInt ≤ 31) (g0 : (0 ≤ (0 : Int32).toInt ∧ (0 : Int32).toInt < 64) ∧ (0 : Int32).toInt + b0.toInt ≤ 64) (g1 : (0 ≤ ((0 : Int32) + b0).toInt ∧ ((0 : Int32) + b0).toInt < 64) ∧ ((0 : Int32) + b0).toInt + b1.toInt ≤ 64) (g2 : (0 ≤ u2.toInt ∧ u2.toInt < 64) ∧ u2.toInt + b2.toInt ≤ 64) (g3 : (0 ≤ u3.toInt ∧ u3.toInt < 64) ∧ u3.toInt + b3.toInt ≤ 64) (d01 : (0 : Int32).toInt + b0.toInt ≤ ((0 : Int32) + b0).toInt) (d02 : c2 = (0 : Int32) → (0 : Int32).toInt + b0.toInt ≤ u2.toInt) (d12 : c2 = (0 : Int32) → ((0 : Int32) + b0).toInt + b1.toInt ≤ u2.toInt) (d03 : c3 = (0 : Int32) → (0 : Int32).toInt + b0.toInt ≤ u3.toInt) (d13 : c3 = (0 : Int32) → ((0 : Int32) + b0).toInt + b1.toInt ≤ u3.toInt) (d23 : c2 = c3 → u2.toInt + b2.toInt ≤ u3.toInt) (X0 : own_V b0 x0) (X1 : own_V b1 x1) (X2 : own_V b2 x2) (X3 : own_V b3 x3)
    (Vv : own_V ([b0, b1, b2, b3].getD (s).toNatClampNeg 0) v) (H : own_H ([z0, z1].getD ((0 : Int32)).toNatClampNeg 0) (0 : Int32) b0 x0 ∧ own_H ([z0, z1].getD ((0 : Int32)).toNatClampNeg 0) ((0 : Int32) + b0) b1 x1 ∧ own_H ([z0, z1].getD (c2).toNatClampNeg 0) u2 b2 x2 ∧ own_H ([z0, z1].getD (c3).toNatClampNeg 0) u3 b3 x3)
    (hn : n0 = own_putL ([(0 : Int32), (0 : Int32), c2, c3].getD (s).toNatClampNeg 0) (0 : Int32) ((([z0, z1].getD (([(0 : Int32), (0 : Int32), c2, c3].getD (s).toNatClampNeg 0)).toNatClampNeg 0) &&& ([(((((1 : Int64) <<< (b0 &&& 0x3f).toInt64) - (1 : Int64)) <<< ((0 : Int32) &&& 0x3f).toInt64) ^^^ (-1 : Int64)), (((((1 : Int64) <<< (b1 &&& 0x3f).toInt64) - (1 : Int64)) <<< (((0 : Int32) + b0) &&& 0x3f).toInt64) ^^^ (-1 : Int64)), (((((1 : Int64) <<< (b2 &&& 0x3f).toInt64) - (1 : Int64)) <<< (u2 &&& 0x3f).toInt64) ^^^ (-1 : Int64)), (((((1 : Int64) <<< (b3 &&& 0x3f).toInt64) - (1 : Int64)) <<< (u3 &&& 0x3f).toInt64) ^^^ (-1 : Int64))].getD (s).toNatClampNeg 0)) ||| ((v.toInt64) <<< (([(0 : Int32), ((0 : Int32) + b0), u2, u3].getD (s).toNatClampNeg 0) &&& 0x3f).toInt64)) z0 ∧ n1 = own_putL ([(0 : Int32), (0 : Int32), c2, c3].getD (s).toNatClampNeg 0) (1 : Int32) ((([z0, z1].getD (([(0 : Int32), (0 : Int32), c2, c3].getD (s).toNatClampNeg 0)).toNatClampNeg 0) &&& ([(((((1 : Int64) <<< (b0 &&& 0x3f).toInt64) - (1 : Int64)) <<< ((0 : Int32) &&& 0x3f).toInt64) ^^^ (-1 : Int64)), (((((1 : Int64) <<< (b1 &&& 0x3f).toInt64) - (1 : Int64)) <<< (((0 : Int32) + b0) &&& 0x3f).toInt64) ^^^ (-1 : Int64)), (((((1 : Int64) <<< (b2 &&& 0x3f).toInt64) - (1 : Int64)) <<< (u2 &&& 0x3f).toInt64) ^^^ (-1 : Int64)), (((((1 : Int64) <<< (b3 &&& 0x3f).toInt64) - (1 : Int64)) <<< (u3 &&& 0x3f).toInt64) ^^^ (-1 : Int64))].getD (s).toNatClampNeg 0)) ||| ((v.toInt64) <<< (([(0 : Int32), ((0 : Int32) + b0), u2, u3].getD (s).toNatClampNeg 0) &&& 0x3f).toInt64)) z1) (hw : w = ([(0 : Int32), (0 : Int32), c2, c3].getD (s).toNatClampNeg 0)) (hd : d = ((([x0, x1, x2, x3].getD (s).toNatClampNeg 0) ^^^ v).toInt64) <<< (([(0 : Int32), ((0 : Int32) + b0), u2, u3].getD (s).toNatClampNeg 0) &&& 0x3f).toInt64)
    (hr : r0 = ((((([n0, n1].getD ((0 : Int32) + (0 : Int32)).toNatClampNeg 0).toUInt64 >>> ((0 : Int32) &&& 0x3f).toInt64.toUInt64).toInt64) &&& (((1 : Int64) <<< (b0 &&& 0x3f).toInt64) - (1 : Int64))).toInt32) ∧ r1 = ((((([n0, n1].getD ((0 : Int32) + (0 : Int32)).toNatClampNeg 0).toUInt64 >>> (((0 : Int32) + b0) &&& 0x3f).toInt64.toUInt64).toInt64) &&& (((1 : Int64) <<< (b1 &&& 0x3f).toInt64) - (1 : Int64))).toInt32) ∧ r2 = ((((([n0, n1].getD ((0 : Int32) + c2).toNatClampNeg 0).toUInt64 >>> (u2 &&& 0x3f).toInt64.toUInt64).toInt64) &&& (((1 : Int64) <<< (b2 &&& 0x3f).toInt64) - (1 : Int64))).toInt32) ∧ r3 = ((((([n0, n1].getD ((0 : Int32) + c3).toNatClampNeg 0).toUInt64 >>> (u3 &&& 0x3f).toInt64.toUInt64).toInt64) &&& (((1 : Int64) <<< (b3 &&& 0x3f).toInt64) - (1 : Int64))).toInt32)) : [n0, n1].getD (w).toNatClampNeg 0 = ([z0, z1].getD (w).toNatClampNeg 0 ^^^ d) ∧ [n0, n1].getD ((1 : Int32) - w).toNatClampNeg 0 = [z0, z1].getD ((1 : Int32) - w).toNatClampNeg 0 ∧ r0 = own_put s (0 : Int32) v x0 ∧ r1 = own_put s (1 : Int32) v x1 ∧ r2 = own_put s (2 : Int32) v x2 ∧ r3 = own_put s (3 : Int32) v x3 := by
  obtain ⟨rfl, rfl⟩ := hn
  obtain ⟨rfl, rfl, rfl, rfl⟩ := hr
  subst hw hd
  rcases hs with rfl | rfl | rfl | rfl
  · exact ⟨own_k1 (Or.inl rfl) g0.1 hb0 g0.2 Vv X0 H.1, own_k2 (Or.inl rfl), (own_k3 (Or.inl rfl) g0.1 hb0 g0.2 Vv), (own_k4 (Or.inl rfl) (Or.inl rfl) g0.1 hb0 Vv g1 hb1 X1 (fun _ => Or.inl d01) H.2.1), (own_k4 (Or.inl rfl) hc2 g0.1 hb0 Vv g2 hb2 X2 (fun q => Or.inl (d02 q.symm)) H.2.2.1), (own_k4 (Or.inl rfl) hc3 g0.1 hb0 Vv g3 hb3 X3 (fun q => Or.inl (d03 q.symm)) H.2.2.2)⟩
  · exact ⟨own_k1 (Or.inl rfl) g1.1 hb1 g1.2 Vv X1 H.2.1, own_k2 (Or.inl rfl), (own_k4 (Or.inl rfl) (Or.inl rfl) g1.1 hb1 Vv g0 hb0 X0 (fun _ => Or.inr d01) H.1), (own_k3 (Or.inl rfl) g1.1 hb1 g1.2 Vv), (own_k4 (Or.inl rfl) hc2 g1.1 hb1 Vv g2 hb2 X2 (fun q => Or.inl (d12 q.symm)) H.2.2.1), (own_k4 (Or.inl rfl) hc3 g1.1 hb1 Vv g3 hb3 X3 (fun q => Or.inl (d13 q.symm)) H.2.2.2)⟩
  · exact ⟨own_k1 hc2 g2.1 hb2 g2.2 Vv X2 H.2.2.1, own_k2 hc2, (own_k4 hc2 (Or.inl rfl) g2.1 hb2 Vv g0 hb0 X0 (fun q => Or.inr (d02 q)) H.1), (own_k4 hc2 (Or.inl rfl) g2.1 hb2 Vv g1 hb1 X1 (fun q => Or.inr (d12 q)) H.2.1), (own_k3 hc2 g2.1 hb2 g2.2 Vv), (own_k4 hc2 hc3 g2.1 hb2 Vv g3 hb3 X3 (fun q => Or.inl (d23 q)) H.2.2.2)⟩
  · exact ⟨own_k1 hc3 g3.1 hb3 g3.2 Vv X3 H.2.2.2, own_k2 hc3, (own_k4 hc3 (Or.inl rfl) g3.1 hb3 Vv g0 hb0 X0 (fun q => Or.inr (d03 q)) H.1), (own_k4 hc3 (Or.inl rfl) g3.1 hb3 Vv g1 hb1 X1 (fun q => Or.inr (d13 q)) H.2.1), (own_k4 hc3 hc2 g3.1 hb3 Vv g2 hb2 X2 (fun q => Or.inr (d23 q.symm)) H.2.2.1), (own_k3 hc3 g3.1 hb3 g3.2 Vv)⟩
theorem own_w {p s w : Int32} (h : w = own_width p s) : 1 ≤ w.toInt ∧ w.toInt ≤ 31 := by
  have a := c_and ((p.toUInt32 >>> (((5 : Int32) * s) &&& 31).toUInt32).toInt32) (31 : Int32) (by decide)
  have b := (c_iremV (((p.toUInt32 >>> (((5 : Int32) * s) &&& 31).toUInt32).toInt32) &&& (31 : Int32)) (31 : Int32)).1 a.1 (by decide)
  have c := c_iadd ((((p.toUInt32 >>> (((5 : Int32) * s) &&& 31).toUInt32).toInt32) &&& (31 : Int32)) % (31 : Int32)) (1 : Int32)
  have d := rng32 w
  have e : w = ((((p.toUInt32 >>> (((5 : Int32) * s) &&& 31).toUInt32).toInt32) &&& (31 : Int32)) % (31 : Int32)) + (1 : Int32) := h
  rw [← e] at c
  have t : (31 : Int32).toInt = 31 := rfl
  have t1 : (1 : Int32).toInt = 1 := rfl
  omega
theorem own_w0 {w : Int32} (h : 1 ≤ w.toInt ∧ w.toInt ≤ 31) : 0 ≤ w.toInt ∧ w.toInt ≤ 31 := ⟨by omega, h.2⟩
theorem own_s {p s : Int32} (h : s = ((p.toUInt32 >>> ((20 : Int32) &&& 31).toUInt32).toInt32) &&& (3 : Int32)) : s = (0 : Int32) ∨ s = (1 : Int32) ∨ s = (2 : Int32) ∨ s = (3 : Int32) := by
  have h0 := c_and ((p.toUInt32 >>> ((20 : Int32) &&& 31).toUInt32).toInt32) (3 : Int32) (by decide)
  rw [← h] at h0
  simp only [← Int32.toInt_inj, Int32.reduceToInt] at *
  omega
theorem own_s4 {s : Int32} (h : s = (0 : Int32) ∨ s = (1 : Int32) ∨ s = (2 : Int32) ∨ s = (3 : Int32)) : ¬ s < 0 ∧ s < (4 : Int32) := by
  rcases h with rfl | rfl | rfl | rfl <;> decide
theorem own_gb {s b0 b1 b2 b3 : Int32} (h : s = (0 : Int32) ∨ s = (1 : Int32) ∨ s = (2 : Int32) ∨ s = (3 : Int32)) (hb0 : 1 ≤ b0.toInt ∧ b0.toInt ≤ 31) (hb1 : 1 ≤ b1.toInt ∧ b1.toInt ≤ 31) (hb2 : 1 ≤ b2.toInt ∧ b2.toInt ≤ 31) (hb3 : 1 ≤ b3.toInt ∧ b3.toInt ≤ 31) : 0 ≤ ([b0, b1, b2, b3].getD (s).toNatClampNeg 0).toInt ∧ ([b0, b1, b2, b3].getD (s).toNatClampNeg 0).toInt ≤ 31 := by
  rcases h with rfl | rfl | rfl | rfl
  · exact own_w0 hb0
  · exact own_w0 hb1
  · exact own_w0 hb2
  · exact own_w0 hb3
theorem own_c01 {s c2 c3 : Int32} (h : s = (0 : Int32) ∨ s = (1 : Int32) ∨ s = (2 : Int32) ∨ s = (3 : Int32)) (hc2 : c2 = (0 : Int32) ∨ c2 = (1 : Int32)) (hc3 : c3 = (0 : Int32) ∨ c3 = (1 : Int32)) : ([(0 : Int32), (0 : Int32), c2, c3].getD (s).toNatClampNeg 0) = (0 : Int32) ∨ ([(0 : Int32), (0 : Int32), c2, c3].getD (s).toNatClampNeg 0) = (1 : Int32) := by
  rcases h with rfl | rfl | rfl | rfl
  · exact Or.inl rfl
  · exact Or.inl rfl
  · exact hc2
  · exact hc3
theorem own_W2 {w : Int32} (h : w = (0 : Int32) ∨ w = (1 : Int32)) : (¬ w < 0 ∧ w < (2 : Int32)) ∧ (¬ ((1 : Int32) - w) < 0 ∧ ((1 : Int32) - w) < (2 : Int32)) ∧ (¬ ((0 : Int32) + w) < 0 ∧ ((0 : Int32) + w) < (2 : Int32)) := by
  rcases h with rfl | rfl <;> decide
theorem own_lv {x w : Int32} (h : 0 ≤ w.toInt ∧ w.toInt ≤ 31) : own_V w (own_low x w) := own_lowV h
theorem ef_0 (m : MethodId) (x0 : Int32) (x1 : Int32) (x2 : Int32) (x3 : Int32) (x4 : Int32) (x5 : Int32) : entryFrame m #[(.int x0), (.int x1), (.int x2), (.int x3), (.int x4), (.int x5)] maxLocals = mkF m 0 #[.val (.int x0), .val (.int x1), .val (.int x2), .val (.int x3), .val (.int x4), .val (.int x5), .unset, .unset, .unset, .unset, .unset, .unset, .unset, .unset, .unset, .unset, .unset, .unset, .unset, .unset, .unset, .unset, .unset] [] := by first | (simp [entryFrame, mkF, argsToLocals, Value.category, maxLocals]; done) | rfl
theorem pd_0 : parseMethodDescriptor "(II)I" = some ⟨[.int, .int], some .int⟩ := by decide +kernel
theorem pd_1 : parseMethodDescriptor "([I)V" = some ⟨[(.array .int)], none⟩ := by decide +kernel
theorem pd_2 : parseMethodDescriptor "([I[JI)V" = some ⟨[(.array .int), (.array .long), .int], none⟩ := by decide +kernel
theorem pd_3 : parseMethodDescriptor "(I)I" = some ⟨[.int], some .int⟩ := by decide +kernel
theorem pd_4 : parseMethodDescriptor "(III)J" = some ⟨[.int, .int, .int], some .long⟩ := by decide +kernel
theorem pd_5 : parseMethodDescriptor "([JII)V" = some ⟨[(.array .long), .int, .int], none⟩ := by decide +kernel
theorem pd_6 : parseMethodDescriptor "([JI[I)V" = some ⟨[(.array .long), .int, (.array .int)], none⟩ := by decide +kernel
def Q0 (Z : State) (p0 p1 p2 p3 p4 p5 : Int32) (h0 : Heap) (n0 : Nat) (v : Option Value) (h : Heap) (L : List Loc) : Prop := v = some (.int 1) ∧ Fr n0 L
set_option maxRecDepth 65536 in
set_option maxHeartbeats 40000000 in
theorem rm0 (l : Launch) (Z : State) (A0 : Array Value) (hw : ∀ d ∈ tables_1, d.before A0 Z = true) (ws : List Jvm.Cond) (p0 : Int32) (p1 : Int32) (p2 : Int32) (p3 : Int32) (p4 : Int32) (p5 : Int32)  (h0 : Heap) (n0 : Nat) (Z0 : n0 ≤ h0.size)  :
    MetFree l x (head1 (Jvm.Cond.code x code maxLocals ret :: ws) room_1) (fun a U => a = #[(.int p0), (.int p1), (.int p2), (.int p3), (.int p4), (.int p5)] ∧ Z.Warmed39 U.vm ∧ U.heap = h0) (fun _ _ _ _ _ => True) (fun _ U o U' => ∃ v L, o = .returned v ∧ Q0 Z p0 p1 p2 p3 p4 p5 h0 n0 v U'.heap L ∧ FrameEnd U o U' L 11 42) := by
  refine MetFree.of_bodySF (plainFor_of_name pn_0) hisR ?_
  intro p e s m args below meth c s₁ Bd hml0 hP hK
  obtain ⟨rfl, hZ, hh⟩ := hP
  have hx := Bd.exec
  have hby := Bd.bytes
  have hml : c.maxLocals = 23 := hml0
  have hown : s.vm.findClass "com/example/garantia/garantia/engine/StateLayoutSetPinLaw" = some m.cls := findClass_of_methodNamed Bd.named
  have hnm := (name_of_methodNamed Bd.named Bd.method).1
  have X0 : Stand p l e room_1 s m #[(.int p0), (.int p1), (.int p2), (.int p3), (.int p4), (.int p5)] below meth c s₁ [] 0 0 := Stand.of_body Bd
  have e0 : s₁.heap = h0 := by rw [← hh, Bd.state]; rfl
  have N0 := Fr.nil n0
  obtain ⟨S0, hS0⟩ : ∃ z, z = s₁.setTop (entryFrame m #[(.int p0), (.int p1), (.int p2), (.int p3), (.int p4), (.int p5)] maxLocals) := ⟨_, rfl⟩
  have pre0 : Go p.tables e below S0 s₁ (mkF m 0 #[vI p0, vI p1, vI p2, vI p3, vI p4, vI p5, .unset, .unset, .unset, .unset, .unset, .unset, .unset, .unset, .unset, .unset, .unset, .unset, .unset, .unset, .unset, .unset, .unset] []) := fun t k => by rw [hS0]; exact castTop (ef_0 m p0 p1 p2 p3 p4 p5) k
  have pre1 : Go p.tables e below S0 s₁ (mkF m 2 #[vI p0, vI p1, vI p2, vI p3, vI p4, vI p5, .unset, .unset, .unset, .unset, .unset, .unset, .unset, .unset, .unset, .unset, .unset, .unset, .unset, .unset, .unset, .unset, .unset] [(.int (0 : Int32)), (.int p0)]) := fun t k => pre0 t (by
    refine XS.iloadN X0.here hx rfl (hb hby at_0) rfl ?_
    refine XS.iconst X0.here hx rfl (hb hby at_1) ?_
    exact k)
  obtain ⟨_, _, ⟨T2, qL2, qk2, qn2⟩, -, X2, ⟨Lc2, hQ2, ql2, qy2, qz2⟩, st2⟩ := Jvm.LawKit.callS X0 hx (y := (⟨"com/example/garantia/garantia/engine/StateLayoutSetPinLaw", "width", "(II)I"⟩ : MethodName)) hown (mvT hZ (hw _ (List.mem_of_getElem? (i := 0) rfl))) (mvT hZ (hw _ (List.mem_of_getElem? (i := 1) rfl))) (mvT hZ (hw _ (List.mem_of_getElem? (i := 2) rfl))) (mvT hZ (hw _ (List.mem_of_getElem? (i := 3) rfl))) (by decide) (backOf (W := 0) (rm1 l Z A0 hw [] p0 (0 : Int32) h0 n0 Z0) hZ (hw _ (List.mem_of_getElem? (i := 3) rfl)) (hw _ (List.mem_of_getElem? (i := 2) rfl)) (by decide) (by decide)) (g := (mkF m 2 #[vI p0, vI p1, vI p2, vI p3, vI p4, vI p5, .unset, .unset, .unset, .unset, .unset, .unset, .unset, .unset, .unset, .unset, .unset, .unset, .unset, .unset, .unset, .unset, .unset] [(.int (0 : Int32)), (.int p0)])) rfl (by rw [hml]; rfl) (argsL := [(.int p0), (.int (0 : Int32))]) (rest := []) (lenOf pd_0 rfl) rfl (by show 2 * 0 + _ ≤ _; exact Nat.le_of_eq rfl) (hb hby at_2) (fun _ _ => ⟨rfl, e0, (by decide : 0 + 0 ≤ _), (by decide : 0 + 0 ≤ _)⟩)
  dsimp only [Pt.U, Pt.locs, Pt.cells, Pt.slots] at X2 ql2 qy2 qz2 st2 hQ2
  replace X2 := X2.more (Nat.le_of_eq qy2) (Nat.le_of_eq qz2)
  obtain ⟨rfl, Nq2, eq2⟩ := hQ2
  have N2 : Fr n0 qL2 := by rw [ql2]; exact Fr.app N0 Nq2
  have pre2 : Go p.tables e below S0 T2 (mkF m 5 #[vI p0, vI p1, vI p2, vI p3, vI p4, vI p5, .unset, .unset, .unset, .unset, .unset, .unset, .unset, .unset, .unset, .unset, .unset, .unset, .unset, .unset, .unset, .unset, .unset] [(.int (own_width p0 (0 : Int32)))]) := fun t k => pre1 t (st2 t k)
  obtain ⟨v3, hv3, pre3⟩ : ∃ z : Int32, z = (own_width p0 (0 : Int32)) ∧ Go p.tables e below S0 T2 (mkF m 7 #[vI p0, vI p1, vI p2, vI p3, vI p4, vI p5, vI z, .unset, .unset, .unset, .unset, .unset, .unset, .unset, .unset, .unset, .unset, .unset, .unset, .unset, .unset, .unset, .unset] []) := ⟨_, rfl, fun t k => pre2 t (by
    refine XS.istore X2.here hx rfl (hb hby at_5) rfl (l' := #[vI p0, vI p1, vI p2, vI p3, vI p4, vI p5, vI (own_width p0 (0 : Int32)), .unset, .unset, .unset, .unset, .unset, .unset, .unset, .unset, .unset, .unset, .unset, .unset, .unset, .unset, .unset, .unset]) rfl ?_
    exact k)⟩
  have hb0 := own_w hv3
  have hw0 := own_w0 hb0
  have pre4 : Go p.tables e below S0 T2 (mkF m 9 #[vI p0, vI p1, vI p2, vI p3, vI p4, vI p5, vI v3, .unset, .unset, .unset, .unset, .unset, .unset, .unset, .unset, .unset, .unset, .unset, .unset, .unset, .unset, .unset, .unset] [(.int (1 : Int32)), (.int p0)]) := fun t k => pre3 t (by
    refine XS.iloadN X2.here hx rfl (hb hby at_7) rfl ?_
    refine XS.iconst X2.here hx rfl (hb hby at_8) ?_
    exact k)
  obtain ⟨_, _, ⟨T5, qL5, qk5, qn5⟩, -, X5, ⟨Lc5, hQ5, ql5, qy5, qz5⟩, st5⟩ := Jvm.LawKit.callS X2 hx (y := (⟨"com/example/garantia/garantia/engine/StateLayoutSetPinLaw", "width", "(II)I"⟩ : MethodName)) hown (mvT hZ (hw _ (List.mem_of_getElem? (i := 0) rfl))) (mvT hZ (hw _ (List.mem_of_getElem? (i := 1) rfl))) (mvT hZ (hw _ (List.mem_of_getElem? (i := 2) rfl))) (mvT hZ (hw _ (List.mem_of_getElem? (i := 3) rfl))) (by decide) (backOf (W := 0) (rm1 l Z A0 hw [] p0 (1 : Int32) h0 n0 Z0) hZ (hw _ (List.mem_of_getElem? (i := 3) rfl)) (hw _ (List.mem_of_getElem? (i := 2) rfl)) (by decide) (by decide)) (g := (mkF m 9 #[vI p0, vI p1, vI p2, vI p3, vI p4, vI p5, vI v3, .unset, .unset, .unset, .unset, .unset, .unset, .unset, .unset, .unset, .unset, .unset, .unset, .unset, .unset, .unset, .unset] [(.int (1 : Int32)), (.int p0)])) rfl (by rw [hml]; rfl) (argsL := [(.int p0), (.int (1 : Int32))]) (rest := []) (lenOf pd_0 rfl) rfl (by show 2 * 0 + _ ≤ _; exact Nat.le_of_eq rfl) (hb hby at_9) (fun _ _ => ⟨rfl, eq2, (by decide : 0 + 0 ≤ _), (by decide : 0 + 0 ≤ _)⟩)
  dsimp only [Pt.U, Pt.locs, Pt.cells, Pt.slots] at X5 ql5 qy5 qz5 st5 hQ5
  replace X5 := X5.more (Nat.le_of_eq qy5) (Nat.le_of_eq qz5)
  obtain ⟨rfl, Nq5, eq5⟩ := hQ5
  have N5 : Fr n0 qL5 := by rw [ql5]; exact Fr.app N2 Nq5
  have pre5 : Go p.tables e below S0 T5 (mkF m 12 #[vI p0, vI p1, vI p2, vI p3, vI p4, vI p5, vI v3, .unset, .unset, .unset, .unset, .unset, .unset, .unset, .unset, .unset, .unset, .unset, .unset, .unset, .unset, .unset, .unset] [(.int (own_width p0 (1 : Int32)))]) := fun t k => pre4 t (st5 t k)
  obtain ⟨v6, hv6, pre6⟩ : ∃ z : Int32, z = (own_width p0 (1 : Int32)) ∧ Go p.tables e below S0 T5 (mkF m 14 #[vI p0, vI p1, vI p2, vI p3, vI p4, vI p5, vI v3, vI z, .unset, .unset, .unset, .unset, .unset, .unset, .unset, .unset, .unset, .unset, .unset, .unset, .unset, .unset, .unset] []) := ⟨_, rfl, fun t k => pre5 t (by
    refine XS.istore X5.here hx rfl (hb hby at_12) rfl (l' := #[vI p0, vI p1, vI p2, vI p3, vI p4, vI p5, vI v3, vI (own_width p0 (1 : Int32)), .unset, .unset, .unset, .unset, .unset, .unset, .unset, .unset, .unset, .unset, .unset, .unset, .unset, .unset, .unset]) rfl ?_
    exact k)⟩
  have hb1 := own_w hv6
  have hw1 := own_w0 hb1
  have pre7 : Go p.tables e below S0 T5 (mkF m 16 #[vI p0, vI p1, vI p2, vI p3, vI p4, vI p5, vI v3, vI v6, .unset, .unset, .unset, .unset, .unset, .unset, .unset, .unset, .unset, .unset, .unset, .unset, .unset, .unset, .unset] [(.int (2 : Int32)), (.int p0)]) := fun t k => pre6 t (by
    refine XS.iloadN X5.here hx rfl (hb hby at_14) rfl ?_
    refine XS.iconst X5.here hx rfl (hb hby at_15) ?_
    exact k)
  obtain ⟨_, _, ⟨T8, qL8, qk8, qn8⟩, -, X8, ⟨Lc8, hQ8, ql8, qy8, qz8⟩, st8⟩ := Jvm.LawKit.callS X5 hx (y := (⟨"com/example/garantia/garantia/engine/StateLayoutSetPinLaw", "width", "(II)I"⟩ : MethodName)) hown (mvT hZ (hw _ (List.mem_of_getElem? (i := 0) rfl))) (mvT hZ (hw _ (List.mem_of_getElem? (i := 1) rfl))) (mvT hZ (hw _ (List.mem_of_getElem? (i := 2) rfl))) (mvT hZ (hw _ (List.mem_of_getElem? (i := 3) rfl))) (by decide) (backOf (W := 0) (rm1 l Z A0 hw [] p0 (2 : Int32) h0 n0 Z0) hZ (hw _ (List.mem_of_getElem? (i := 3) rfl)) (hw _ (List.mem_of_getElem? (i := 2) rfl)) (by decide) (by decide)) (g := (mkF m 16 #[vI p0, vI p1, vI p2, vI p3, vI p4, vI p5, vI v3, vI v6, .unset, .unset, .unset, .unset, .unset, .unset, .unset, .unset, .unset, .unset, .unset, .unset, .unset, .unset, .unset] [(.int (2 : Int32)), (.int p0)])) rfl (by rw [hml]; rfl) (argsL := [(.int p0), (.int (2 : Int32))]) (rest := []) (lenOf pd_0 rfl) rfl (by show 2 * 0 + _ ≤ _; exact Nat.le_of_eq rfl) (hb hby at_16) (fun _ _ => ⟨rfl, eq5, (by decide : 0 + 0 ≤ _), (by decide : 0 + 0 ≤ _)⟩)
  dsimp only [Pt.U, Pt.locs, Pt.cells, Pt.slots] at X8 ql8 qy8 qz8 st8 hQ8
  replace X8 := X8.more (Nat.le_of_eq qy8) (Nat.le_of_eq qz8)
  obtain ⟨rfl, Nq8, eq8⟩ := hQ8
  have N8 : Fr n0 qL8 := by rw [ql8]; exact Fr.app N5 Nq8
  have pre8 : Go p.tables e below S0 T8 (mkF m 19 #[vI p0, vI p1, vI p2, vI p3, vI p4, vI p5, vI v3, vI v6, .unset, .unset, .unset, .unset, .unset, .unset, .unset, .unset, .unset, .unset, .unset, .unset, .unset, .unset, .unset] [(.int (own_width p0 (2 : Int32)))]) := fun t k => pre7 t (st8 t k)
  obtain ⟨v9, hv9, pre9⟩ : ∃ z : Int32, z = (own_width p0 (2 : Int32)) ∧ Go p.tables e below S0 T8 (mkF m 21 #[vI p0, vI p1, vI p2, vI p3, vI p4, vI p5, vI v3, vI v6, vI z, .unset, .unset, .unset, .unset, .unset, .unset, .unset, .unset, .unset, .unset, .unset, .unset, .unset, .unset] []) := ⟨_, rfl, fun t k => pre8 t (by
    refine XS.istore X8.here hx rfl (hb hby at_19) rfl (l' := #[vI p0, vI p1, vI p2, vI p3, vI p4, vI p5, vI v3, vI v6, vI (own_width p0 (2 : Int32)), .unset, .unset, .unset, .unset, .unset, .unset, .unset, .unset, .unset, .unset, .unset, .unset, .unset, .unset]) rfl ?_
    exact k)⟩
  have hb2 := own_w hv9
  have hw2 := own_w0 hb2
  have pre10 : Go p.tables e below S0 T8 (mkF m 23 #[vI p0, vI p1, vI p2, vI p3, vI p4, vI p5, vI v3, vI v6, vI v9, .unset, .unset, .unset, .unset, .unset, .unset, .unset, .unset, .unset, .unset, .unset, .unset, .unset, .unset] [(.int (3 : Int32)), (.int p0)]) := fun t k => pre9 t (by
    refine XS.iloadN X8.here hx rfl (hb hby at_21) rfl ?_
    refine XS.iconst X8.here hx rfl (hb hby at_22) ?_
    exact k)
  obtain ⟨_, _, ⟨T11, qL11, qk11, qn11⟩, -, X11, ⟨Lc11, hQ11, ql11, qy11, qz11⟩, st11⟩ := Jvm.LawKit.callS X8 hx (y := (⟨"com/example/garantia/garantia/engine/StateLayoutSetPinLaw", "width", "(II)I"⟩ : MethodName)) hown (mvT hZ (hw _ (List.mem_of_getElem? (i := 0) rfl))) (mvT hZ (hw _ (List.mem_of_getElem? (i := 1) rfl))) (mvT hZ (hw _ (List.mem_of_getElem? (i := 2) rfl))) (mvT hZ (hw _ (List.mem_of_getElem? (i := 3) rfl))) (by decide) (backOf (W := 0) (rm1 l Z A0 hw [] p0 (3 : Int32) h0 n0 Z0) hZ (hw _ (List.mem_of_getElem? (i := 3) rfl)) (hw _ (List.mem_of_getElem? (i := 2) rfl)) (by decide) (by decide)) (g := (mkF m 23 #[vI p0, vI p1, vI p2, vI p3, vI p4, vI p5, vI v3, vI v6, vI v9, .unset, .unset, .unset, .unset, .unset, .unset, .unset, .unset, .unset, .unset, .unset, .unset, .unset, .unset] [(.int (3 : Int32)), (.int p0)])) rfl (by rw [hml]; rfl) (argsL := [(.int p0), (.int (3 : Int32))]) (rest := []) (lenOf pd_0 rfl) rfl (by show 2 * 0 + _ ≤ _; exact Nat.le_of_eq rfl) (hb hby at_23) (fun _ _ => ⟨rfl, eq8, (by decide : 0 + 0 ≤ _), (by decide : 0 + 0 ≤ _)⟩)
  dsimp only [Pt.U, Pt.locs, Pt.cells, Pt.slots] at X11 ql11 qy11 qz11 st11 hQ11
  replace X11 := X11.more (Nat.le_of_eq qy11) (Nat.le_of_eq qz11)
  obtain ⟨rfl, Nq11, eq11⟩ := hQ11
  have N11 : Fr n0 qL11 := by rw [ql11]; exact Fr.app N8 Nq11
  have pre11 : Go p.tables e below S0 T11 (mkF m 26 #[vI p0, vI p1, vI p2, vI p3, vI p4, vI p5, vI v3, vI v6, vI v9, .unset, .unset, .unset, .unset, .unset, .unset, .unset, .unset, .unset, .unset, .unset, .unset, .unset, .unset] [(.int (own_width p0 (3 : Int32)))]) := fun t k => pre10 t (st11 t k)
  obtain ⟨v12, hv12, pre12⟩ : ∃ z : Int32, z = (own_width p0 (3 : Int32)) ∧ Go p.tables e below S0 T11 (mkF m 28 #[vI p0, vI p1, vI p2, vI p3, vI p4, vI p5, vI v3, vI v6, vI v9, vI z, .unset, .unset, .unset, .unset, .unset, .unset, .unset, .unset, .unset, .unset, .unset, .unset, .unset] []) := ⟨_, rfl, fun t k => pre11 t (by
    refine XS.istore X11.here hx rfl (hb hby at_26) rfl (l' := #[vI p0, vI p1, vI p2, vI p3, vI p4, vI p5, vI v3, vI v6, vI v9, vI (own_width p0 (3 : Int32)), .unset, .unset, .unset, .unset, .unset, .unset, .unset, .unset, .unset, .unset, .unset, .unset, .unset]) rfl ?_
    exact k)⟩
  have hb3 := own_w hv12
  have hw3 := own_w0 hb3
  have pre13 : Go p.tables e below S0 T11 (mkF m 29 #[vI p0, vI p1, vI p2, vI p3, vI p4, vI p5, vI v3, vI v6, vI v9, vI v12, .unset, .unset, .unset, .unset, .unset, .unset, .unset, .unset, .unset, .unset, .unset, .unset, .unset] [(.int (4 : Int32))]) := fun t k => pre12 t (by
    refine XS.iconst X11.here hx rfl (hb hby at_28) ?_
    exact k)
  obtain ⟨T14, h14, kA14, X14, e14, E14, A14, st14⟩ := newP X11 hx hZ (hw _ (List.mem_of_getElem? (i := 4) rfl)) eq11 (g := (mkF m 29 #[vI p0, vI p1, vI p2, vI p3, vI p4, vI p5, vI v3, vI v6, vI v9, vI v12, .unset, .unset, .unset, .unset, .unset, .unset, .unset, .unset, .unset, .unset, .unset, .unset, .unset] [(.int (4 : Int32))])) rfl (hb hby at_29) rfl (by decide) (cap := 4) (by decide) (by decide) (by decide) (by decide)
  obtain ⟨b14, g14⟩ : ∃ z, z = h0.size := ⟨_, rfl⟩
  rw [← g14] at A14 st14
  have pre14 : Go p.tables e below S0 T14 (mkF m 31 #[vI p0, vI p1, vI p2, vI p3, vI p4, vI p5, vI v3, vI v6, vI v9, vI v12, .unset, .unset, .unset, .unset, .unset, .unset, .unset, .unset, .unset, .unset, .unset, .unset, .unset] [(.ref b14)]) := fun t k => pre13 t (st14 t k)
  have bo14 : n0 ≤ b14 := Nat.le_trans Z0 (Nat.le_of_eq g14.symm)
  have zz16 : n0 ≤ h14.size := Nat.le_trans Z0 E14.1
  have av14 : Arv Z h14 b14 kA14 .int (4 : Int32) [(.int (0 : Int32)), (.int (0 : Int32)), (.int (0 : Int32)), (.int (0 : Int32))] (.int (0 : Int32)) := (Arv.new A14 (by decide)).pad (pad_rep [] (.int (0 : Int32)) 4)
  have pre17 : Go p.tables e below S0 T14 (mkF m 35 #[vI p0, vI p1, vI p2, vI p3, vI p4, vI p5, vI v3, vI v6, vI v9, vI v12, .unset, .unset, .unset, .unset, .unset, .unset, .unset, .unset, .unset, .unset, .unset, .unset, .unset] [(.int v3), (.int (0 : Int32)), (.ref b14), (.ref b14)]) := fun t k => pre14 t (by
    refine XS.dup X14.here hx rfl (hb hby at_31) rfl rfl ?_
    refine XS.iconst X14.here hx rfl (hb hby at_32) ?_
    refine XS.iload X14.here hx rfl (hb hby at_33) rfl ?_
    show Steps p.tables e below (T14.setTop (mkF m 35 #[vI p0, vI p1, vI p2, vI p3, vI p4, vI p5, vI v3, vI v6, vI v9, vI v12, .unset, .unset, .unset, .unset, .unset, .unset, .unset, .unset, .unset, .unset, .unset, .unset, .unset] [(.int v3), (.int (0 : Int32)), (.ref b14), (.ref b14)])) _
    exact k)
  obtain ⟨cl18, Ar18, q18, S18, M18, H18, G18⟩ := id av14
  have in18 : ¬ ((0 : Int32) < 0 ∨ cl18.slots.size ≤ ((0 : Int32)).toNatClampNeg) := inb_of S18 ⟨by decide, by decide⟩
  obtain ⟨T18, h18, X18, e18, W18, st18⟩ := stI X14 hx hZ e14 Ar18 (j := (0 : Int32)) in18 (g := (mkF m 35 #[vI p0, vI p1, vI p2, vI p3, vI p4, vI p5, vI v3, vI v6, vI v9, vI v12, .unset, .unset, .unset, .unset, .unset, .unset, .unset, .unset, .unset, .unset, .unset, .unset, .unset] [(.int v3), (.int (0 : Int32)), (.ref b14), (.ref b14)])) rfl rfl (hb hby at_35)
  have pre18 : Go p.tables e below S0 T18 (mkF m 36 #[vI p0, vI p1, vI p2, vI p3, vI p4, vI p5, vI v3, vI v6, vI v9, vI v12, .unset, .unset, .unset, .unset, .unset, .unset, .unset, .unset, .unset, .unset, .unset, .unset, .unset] [(.ref b14)]) := fun t k => pre17 t (st18 t k)
  obtain ⟨lo18, N18, X18⟩ : ∃ lo, Fr n0 lo ∧ Stand p l e room_1 s m #[(.int p0), (.int p1), (.int p2), (.int p3), (.int p4), (.int p5)] below meth c T18 lo 1 4 := ⟨_, Fr.snoc X18 N11 bo14, X18⟩
  have av18 : Arv Z h18 b14 kA14 .int (4 : Int32) [(.int v3), (.int (0 : Int32)), (.int (0 : Int32)), (.int (0 : Int32))] (.int (0 : Int32)) := Arv.set Ar18 q18 S18 M18 H18 G18 rfl W18 0 rfl (Nat.le_of_ble_eq_true rfl)
  have zz20 : n0 ≤ h18.size := Nat.le_trans zz16 (Keep.of_wr W18).1
  have pre21 : Go p.tables e below S0 T18 (mkF m 40 #[vI p0, vI p1, vI p2, vI p3, vI p4, vI p5, vI v3, vI v6, vI v9, vI v12, .unset, .unset, .unset, .unset, .unset, .unset, .unset, .unset, .unset, .unset, .unset, .unset, .unset] [(.int v6), (.int (1 : Int32)), (.ref b14), (.ref b14)]) := fun t k => pre18 t (by
    refine XS.dup X18.here hx rfl (hb hby at_36) rfl rfl ?_
    refine XS.iconst X18.here hx rfl (hb hby at_37) ?_
    refine XS.iload X18.here hx rfl (hb hby at_38) rfl ?_
    show Steps p.tables e below (T18.setTop (mkF m 40 #[vI p0, vI p1, vI p2, vI p3, vI p4, vI p5, vI v3, vI v6, vI v9, vI v12, .unset, .unset, .unset, .unset, .unset, .unset, .unset, .unset, .unset, .unset, .unset, .unset, .unset] [(.int v6), (.int (1 : Int32)), (.ref b14), (.ref b14)])) _
    exact k)
  obtain ⟨cl22, Ar22, q22, S22, M22, H22, G22⟩ := id av18
  have in22 : ¬ ((1 : Int32) < 0 ∨ cl22.slots.size ≤ ((1 : Int32)).toNatClampNeg) := inb_of S22 ⟨by decide, by decide⟩
  obtain ⟨T22, h22, X22, e22, W22, st22⟩ := stI X18 hx hZ e18 Ar22 (j := (1 : Int32)) in22 (g := (mkF m 40 #[vI p0, vI p1, vI p2, vI p3, vI p4, vI p5, vI v3, vI v6, vI v9, vI v12, .unset, .unset, .unset, .unset, .unset, .unset, .unset, .unset, .unset, .unset, .unset, .unset, .unset] [(.int v6), (.int (1 : Int32)), (.ref b14), (.ref b14)])) rfl rfl (hb hby at_40)
  have pre22 : Go p.tables e below S0 T22 (mkF m 41 #[vI p0, vI p1, vI p2, vI p3, vI p4, vI p5, vI v3, vI v6, vI v9, vI v12, .unset, .unset, .unset, .unset, .unset, .unset, .unset, .unset, .unset, .unset, .unset, .unset, .unset] [(.ref b14)]) := fun t k => pre21 t (st22 t k)
  obtain ⟨lo22, N22, X22⟩ : ∃ lo, Fr n0 lo ∧ Stand p l e room_1 s m #[(.int p0), (.int p1), (.int p2), (.int p3), (.int p4), (.int p5)] below meth c T22 lo 1 4 := ⟨_, Fr.snoc X22 N18 bo14, X22⟩
  have av22 : Arv Z h22 b14 kA14 .int (4 : Int32) [(.int v3), (.int v6), (.int (0 : Int32)), (.int (0 : Int32))] (.int (0 : Int32)) := Arv.set Ar22 q22 S22 M22 H22 G22 rfl W22 1 rfl (Nat.le_of_ble_eq_true rfl)
  have zz24 : n0 ≤ h22.size := Nat.le_trans zz20 (Keep.of_wr W22).1
  have pre25 : Go p.tables e below S0 T22 (mkF m 45 #[vI p0, vI p1, vI p2, vI p3, vI p4, vI p5, vI v3, vI v6, vI v9, vI v12, .unset, .unset, .unset, .unset, .unset, .unset, .unset, .unset, .unset, .unset, .unset, .unset, .unset] [(.int v9), (.int (2 : Int32)), (.ref b14), (.ref b14)]) := fun t k => pre22 t (by
    refine XS.dup X22.here hx rfl (hb hby at_41) rfl rfl ?_
    refine XS.iconst X22.here hx rfl (hb hby at_42) ?_
    refine XS.iload X22.here hx rfl (hb hby at_43) rfl ?_
    show Steps p.tables e below (T22.setTop (mkF m 45 #[vI p0, vI p1, vI p2, vI p3, vI p4, vI p5, vI v3, vI v6, vI v9, vI v12, .unset, .unset, .unset, .unset, .unset, .unset, .unset, .unset, .unset, .unset, .unset, .unset, .unset] [(.int v9), (.int (2 : Int32)), (.ref b14), (.ref b14)])) _
    exact k)
  obtain ⟨cl26, Ar26, q26, S26, M26, H26, G26⟩ := id av22
  have in26 : ¬ ((2 : Int32) < 0 ∨ cl26.slots.size ≤ ((2 : Int32)).toNatClampNeg) := inb_of S26 ⟨by decide, by decide⟩
  obtain ⟨T26, h26, X26, e26, W26, st26⟩ := stI X22 hx hZ e22 Ar26 (j := (2 : Int32)) in26 (g := (mkF m 45 #[vI p0, vI p1, vI p2, vI p3, vI p4, vI p5, vI v3, vI v6, vI v9, vI v12, .unset, .unset, .unset, .unset, .unset, .unset, .unset, .unset, .unset, .unset, .unset, .unset, .unset] [(.int v9), (.int (2 : Int32)), (.ref b14), (.ref b14)])) rfl rfl (hb hby at_45)
  have pre26 : Go p.tables e below S0 T26 (mkF m 46 #[vI p0, vI p1, vI p2, vI p3, vI p4, vI p5, vI v3, vI v6, vI v9, vI v12, .unset, .unset, .unset, .unset, .unset, .unset, .unset, .unset, .unset, .unset, .unset, .unset, .unset] [(.ref b14)]) := fun t k => pre25 t (st26 t k)
  obtain ⟨lo26, N26, X26⟩ : ∃ lo, Fr n0 lo ∧ Stand p l e room_1 s m #[(.int p0), (.int p1), (.int p2), (.int p3), (.int p4), (.int p5)] below meth c T26 lo 1 4 := ⟨_, Fr.snoc X26 N22 bo14, X26⟩
  have av26 : Arv Z h26 b14 kA14 .int (4 : Int32) [(.int v3), (.int v6), (.int v9), (.int (0 : Int32))] (.int (0 : Int32)) := Arv.set Ar26 q26 S26 M26 H26 G26 rfl W26 2 rfl (Nat.le_of_ble_eq_true rfl)
  have zz28 : n0 ≤ h26.size := Nat.le_trans zz24 (Keep.of_wr W26).1
  have pre29 : Go p.tables e below S0 T26 (mkF m 50 #[vI p0, vI p1, vI p2, vI p3, vI p4, vI p5, vI v3, vI v6, vI v9, vI v12, .unset, .unset, .unset, .unset, .unset, .unset, .unset, .unset, .unset, .unset, .unset, .unset, .unset] [(.int v12), (.int (3 : Int32)), (.ref b14), (.ref b14)]) := fun t k => pre26 t (by
    refine XS.dup X26.here hx rfl (hb hby at_46) rfl rfl ?_
    refine XS.iconst X26.here hx rfl (hb hby at_47) ?_
    refine XS.iload X26.here hx rfl (hb hby at_48) rfl ?_
    show Steps p.tables e below (T26.setTop (mkF m 50 #[vI p0, vI p1, vI p2, vI p3, vI p4, vI p5, vI v3, vI v6, vI v9, vI v12, .unset, .unset, .unset, .unset, .unset, .unset, .unset, .unset, .unset, .unset, .unset, .unset, .unset] [(.int v12), (.int (3 : Int32)), (.ref b14), (.ref b14)])) _
    exact k)
  obtain ⟨cl30, Ar30, q30, S30, M30, H30, G30⟩ := id av26
  have in30 : ¬ ((3 : Int32) < 0 ∨ cl30.slots.size ≤ ((3 : Int32)).toNatClampNeg) := inb_of S30 ⟨by decide, by decide⟩
  obtain ⟨T30, h30, X30, e30, W30, st30⟩ := stI X26 hx hZ e26 Ar30 (j := (3 : Int32)) in30 (g := (mkF m 50 #[vI p0, vI p1, vI p2, vI p3, vI p4, vI p5, vI v3, vI v6, vI v9, vI v12, .unset, .unset, .unset, .unset, .unset, .unset, .unset, .unset, .unset, .unset, .unset, .unset, .unset] [(.int v12), (.int (3 : Int32)), (.ref b14), (.ref b14)])) rfl rfl (hb hby at_50)
  have pre30 : Go p.tables e below S0 T30 (mkF m 51 #[vI p0, vI p1, vI p2, vI p3, vI p4, vI p5, vI v3, vI v6, vI v9, vI v12, .unset, .unset, .unset, .unset, .unset, .unset, .unset, .unset, .unset, .unset, .unset, .unset, .unset] [(.ref b14)]) := fun t k => pre29 t (st30 t k)
  obtain ⟨lo30, N30, X30⟩ : ∃ lo, Fr n0 lo ∧ Stand p l e room_1 s m #[(.int p0), (.int p1), (.int p2), (.int p3), (.int p4), (.int p5)] below meth c T30 lo 1 4 := ⟨_, Fr.snoc X30 N26 bo14, X30⟩
  have av30 : Arv Z h30 b14 kA14 .int (4 : Int32) [(.int v3), (.int v6), (.int v9), (.int v12)] (.int (0 : Int32)) := Arv.set Ar30 q30 S30 M30 H30 G30 rfl W30 3 rfl (Nat.le_of_ble_eq_true rfl)
  have zz32 : n0 ≤ h30.size := Nat.le_trans zz28 (Keep.of_wr W30).1
  obtain ⟨v33, hv33, pre33⟩ : ∃ z : Int32, z = (((p0.toUInt32 >>> ((20 : Int32) &&& 31).toUInt32).toInt32) &&& (3 : Int32)) ∧ Go p.tables e below S0 T30 (mkF m 61 #[vI p0, vI p1, vI p2, vI p3, vI p4, vI p5, vI v3, vI v6, vI v9, vI v12, vR b14, vI z, .unset, .unset, .unset, .unset, .unset, .unset, .unset, .unset, .unset, .unset, .unset] []) := ⟨_, rfl, fun t k => pre30 t (by
    refine XS.astore X30.here hx rfl (hb hby at_51) rfl rfl (l' := #[vI p0, vI p1, vI p2, vI p3, vI p4, vI p5, vI v3, vI v6, vI v9, vI v12, vR b14, .unset, .unset, .unset, .unset, .unset, .unset, .unset, .unset, .unset, .unset, .unset, .unset]) rfl ?_
    refine XS.iloadN X30.here hx rfl (hb hby at_53) rfl ?_
    refine XS.bipush X30.here hx rfl (hb hby at_54) ?_
    show Steps p.tables e below (T30.setTop (mkF m 56 #[vI p0, vI p1, vI p2, vI p3, vI p4, vI p5, vI v3, vI v6, vI v9, vI v12, vR b14, .unset, .unset, .unset, .unset, .unset, .unset, .unset, .unset, .unset, .unset, .unset, .unset] [(.int (20 : Int32)), (.int p0)])) _
    refine XS.iushr X30.here hx rfl (hb hby at_56) rfl ?_
    refine XS.iconst X30.here hx rfl (hb hby at_57) ?_
    refine XS.iand X30.here hx rfl (hb hby at_58) rfl ?_
    show Steps p.tables e below (T30.setTop (mkF m 59 #[vI p0, vI p1, vI p2, vI p3, vI p4, vI p5, vI v3, vI v6, vI v9, vI v12, vR b14, .unset, .unset, .unset, .unset, .unset, .unset, .unset, .unset, .unset, .unset, .unset, .unset] [(.int (((p0.toUInt32 >>> ((20 : Int32) &&& 31).toUInt32).toInt32) &&& (3 : Int32)))])) _
    refine XS.istore X30.here hx rfl (hb hby at_59) rfl (l' := #[vI p0, vI p1, vI p2, vI p3, vI p4, vI p5, vI v3, vI v6, vI v9, vI v12, vR b14, vI (((p0.toUInt32 >>> ((20 : Int32) &&& 31).toUInt32).toInt32) &&& (3 : Int32)), .unset, .unset, .unset, .unset, .unset, .unset, .unset, .unset, .unset, .unset, .unset]) rfl ?_
    exact k)⟩
  have hs := own_s hv33
  have hs4 := own_s4 hs
  have pre34 : Go p.tables e below S0 T30 (mkF m 62 #[vI p0, vI p1, vI p2, vI p3, vI p4, vI p5, vI v3, vI v6, vI v9, vI v12, vR b14, vI v33, .unset, .unset, .unset, .unset, .unset, .unset, .unset, .unset, .unset, .unset, .unset] [(.int (4 : Int32))]) := fun t k => pre33 t (by
    refine XS.iconst X30.here hx rfl (hb hby at_61) ?_
    exact k)
  obtain ⟨T35, h35, kA35, X35, e35, E35, A35, st35⟩ := newP X30 hx hZ (hw _ (List.mem_of_getElem? (i := 4) rfl)) e30 (g := (mkF m 62 #[vI p0, vI p1, vI p2, vI p3, vI p4, vI p5, vI v3, vI v6, vI v9, vI v12, vR b14, vI v33, .unset, .unset, .unset, .unset, .unset, .unset, .unset, .unset, .unset, .unset, .unset] [(.int (4 : Int32))])) rfl (hb hby at_62) rfl (by decide) (cap := 4) (by decide) (by decide) (by decide) (by decide)
  obtain ⟨b35, g35⟩ : ∃ z, z = h30.size := ⟨_, rfl⟩
  rw [← g35] at A35 st35
  have pre35 : Go p.tables e below S0 T35 (mkF m 64 #[vI p0, vI p1, vI p2, vI p3, vI p4, vI p5, vI v3, vI v6, vI v9, vI v12, vR b14, vI v33, .unset, .unset, .unset, .unset, .unset, .unset, .unset, .unset, .unset, .unset, .unset] [(.ref b35)]) := fun t k => pre34 t (st35 t k)
  have ne36 : b14 ≠ b35 := Nat.ne_of_lt (Nat.lt_of_lt_of_le av30.lt (Nat.le_of_eq g35.symm))
  have bo35 : n0 ≤ b35 := Nat.le_trans zz32 (Nat.le_of_eq g35.symm)
  have f37_1 := av30.ext E35
  have zz38 : n0 ≤ h35.size := Nat.le_trans zz32 E35.1
  have av35 : Arv Z h35 b35 kA35 .int (4 : Int32) [(.int (0 : Int32)), (.int (0 : Int32)), (.int (0 : Int32)), (.int (0 : Int32))] (.int (0 : Int32)) := (Arv.new A35 (by decide)).pad (pad_rep [] (.int (0 : Int32)) 4)
  have pre39 : Go p.tables e below S0 T35 (mkF m 69 #[vI p0, vI p1, vI p2, vI p3, vI p4, vI p5, vI v3, vI v6, vI v9, vI v12, vR b14, vI v33, .unset, .unset, .unset, .unset, .unset, .unset, .unset, .unset, .unset, .unset, .unset] [(.int v3), (.int p1), (.int (0 : Int32)), (.ref b35), (.ref b35)]) := fun t k => pre35 t (by
    refine XS.dup X35.here hx rfl (hb hby at_64) rfl rfl ?_
    refine XS.iconst X35.here hx rfl (hb hby at_65) ?_
    refine XS.iloadN X35.here hx rfl (hb hby at_66) rfl ?_
    show Steps p.tables e below (T35.setTop (mkF m 67 #[vI p0, vI p1, vI p2, vI p3, vI p4, vI p5, vI v3, vI v6, vI v9, vI v12, vR b14, vI v33, .unset, .unset, .unset, .unset, .unset, .unset, .unset, .unset, .unset, .unset, .unset] [(.int p1), (.int (0 : Int32)), (.ref b35), (.ref b35)])) _
    refine XS.iload X35.here hx rfl (hb hby at_67) rfl ?_
    exact k)
  obtain ⟨_, _, ⟨T40, qL40, qk40, qn40⟩, -, X40, ⟨Lc40, hQ40, ql40, qy40, qz40⟩, st40⟩ := Jvm.LawKit.callS X35 hx (y := (⟨"com/example/garantia/garantia/engine/StateLayoutSetPinLaw", "low", "(II)I"⟩ : MethodName)) hown (mvT hZ (hw _ (List.mem_of_getElem? (i := 5) rfl))) (mvT hZ (hw _ (List.mem_of_getElem? (i := 6) rfl))) (mvT hZ (hw _ (List.mem_of_getElem? (i := 2) rfl))) (mvT hZ (hw _ (List.mem_of_getElem? (i := 7) rfl))) (by decide) (backOf (W := 3) (rm2 l Z A0 hw [] p1 v3 h35 n0 zz38) hZ (hw _ (List.mem_of_getElem? (i := 7) rfl)) (hw _ (List.mem_of_getElem? (i := 2) rfl)) (by decide) (by decide)) (g := (mkF m 69 #[vI p0, vI p1, vI p2, vI p3, vI p4, vI p5, vI v3, vI v6, vI v9, vI v12, vR b14, vI v33, .unset, .unset, .unset, .unset, .unset, .unset, .unset, .unset, .unset, .unset, .unset] [(.int v3), (.int p1), (.int (0 : Int32)), (.ref b35), (.ref b35)])) rfl (by rw [hml]; rfl) (argsL := [(.int p1), (.int v3)]) (rest := [(.int (0 : Int32)), (.ref b35), (.ref b35)]) (lenOf pd_0 rfl) rfl (by show 2 * 0 + _ ≤ _; exact Nat.le_of_eq rfl) (hb hby at_69) (fun _ _ => ⟨rfl, e35, (by decide : 2 + 0 ≤ _), (by decide : 8 + 0 ≤ _)⟩)
  dsimp only [Pt.U, Pt.locs, Pt.cells, Pt.slots] at X40 ql40 qy40 qz40 st40 hQ40
  replace X40 := X40.more (Nat.le_of_eq qy40) (Nat.le_of_eq qz40)
  obtain ⟨rfl, Nq40, eq40⟩ := hQ40
  have N40 : Fr n0 qL40 := by rw [ql40]; exact Fr.app N30 Nq40
  have pre40 : Go p.tables e below S0 T40 (mkF m 72 #[vI p0, vI p1, vI p2, vI p3, vI p4, vI p5, vI v3, vI v6, vI v9, vI v12, vR b14, vI v33, .unset, .unset, .unset, .unset, .unset, .unset, .unset, .unset, .unset, .unset, .unset] [(.int (own_low p1 v3)), (.int (0 : Int32)), (.ref b35), (.ref b35)]) := fun t k => pre39 t (st40 t k)
  obtain ⟨cl41, Ar41, q41, S41, M41, H41, G41⟩ := id av35
  have in41 : ¬ ((0 : Int32) < 0 ∨ cl41.slots.size ≤ ((0 : Int32)).toNatClampNeg) := inb_of S41 ⟨by decide, by decide⟩
  obtain ⟨T41, h41, X41, e41, W41, st41⟩ := stI X40 hx hZ eq40 Ar41 (j := (0 : Int32)) in41 (g := (mkF m 72 #[vI p0, vI p1, vI p2, vI p3, vI p4, vI p5, vI v3, vI v6, vI v9, vI v12, vR b14, vI v33, .unset, .unset, .unset, .unset, .unset, .unset, .unset, .unset, .unset, .unset, .unset] [(.int (own_low p1 v3)), (.int (0 : Int32)), (.ref b35), (.ref b35)])) rfl rfl (hb hby at_72)
  have pre41 : Go p.tables e below S0 T41 (mkF m 73 #[vI p0, vI p1, vI p2, vI p3, vI p4, vI p5, vI v3, vI v6, vI v9, vI v12, vR b14, vI v33, .unset, .unset, .unset, .unset, .unset, .unset, .unset, .unset, .unset, .unset, .unset] [(.ref b35)]) := fun t k => pre40 t (st41 t k)
  obtain ⟨lo41, N41, X41⟩ : ∃ lo, Fr n0 lo ∧ Stand p l e room_1 s m #[(.int p0), (.int p1), (.int p2), (.int p3), (.int p4), (.int p5)] below meth c T41 lo 2 8 := ⟨_, Fr.snoc X41 N40 bo35, X41⟩
  have av41 : Arv Z h41 b35 kA35 .int (4 : Int32) [(.int (own_low p1 v3)), (.int (0 : Int32)), (.int (0 : Int32)), (.int (0 : Int32))] (.int (0 : Int32)) := Arv.set Ar41 q41 S41 M41 H41 G41 rfl W41 0 rfl (Nat.le_of_ble_eq_true rfl)
  have f42_1 := f37_1.other W41 ne36
  have zz43 : n0 ≤ h41.size := Nat.le_trans zz38 (Keep.of_wr W41).1
  have pre44 : Go p.tables e below S0 T41 (mkF m 78 #[vI p0, vI p1, vI p2, vI p3, vI p4, vI p5, vI v3, vI v6, vI v9, vI v12, vR b14, vI v33, .unset, .unset, .unset, .unset, .unset, .unset, .unset, .unset, .unset, .unset, .unset] [(.int v6), (.int p2), (.int (1 : Int32)), (.ref b35), (.ref b35)]) := fun t k => pre41 t (by
    refine XS.dup X41.here hx rfl (hb hby at_73) rfl rfl ?_
    refine XS.iconst X41.here hx rfl (hb hby at_74) ?_
    refine XS.iloadN X41.here hx rfl (hb hby at_75) rfl ?_
    show Steps p.tables e below (T41.setTop (mkF m 76 #[vI p0, vI p1, vI p2, vI p3, vI p4, vI p5, vI v3, vI v6, vI v9, vI v12, vR b14, vI v33, .unset, .unset, .unset, .unset, .unset, .unset, .unset, .unset, .unset, .unset, .unset] [(.int p2), (.int (1 : Int32)), (.ref b35), (.ref b35)])) _
    refine XS.iload X41.here hx rfl (hb hby at_76) rfl ?_
    exact k)
  obtain ⟨_, _, ⟨T45, qL45, qk45, qn45⟩, -, X45, ⟨Lc45, hQ45, ql45, qy45, qz45⟩, st45⟩ := Jvm.LawKit.callS X41 hx (y := (⟨"com/example/garantia/garantia/engine/StateLayoutSetPinLaw", "low", "(II)I"⟩ : MethodName)) hown (mvT hZ (hw _ (List.mem_of_getElem? (i := 5) rfl))) (mvT hZ (hw _ (List.mem_of_getElem? (i := 6) rfl))) (mvT hZ (hw _ (List.mem_of_getElem? (i := 2) rfl))) (mvT hZ (hw _ (List.mem_of_getElem? (i := 7) rfl))) (by decide) (backOf (W := 3) (rm2 l Z A0 hw [] p2 v6 h41 n0 zz43) hZ (hw _ (List.mem_of_getElem? (i := 7) rfl)) (hw _ (List.mem_of_getElem? (i := 2) rfl)) (by decide) (by decide)) (g := (mkF m 78 #[vI p0, vI p1, vI p2, vI p3, vI p4, vI p5, vI v3, vI v6, vI v9, vI v12, vR b14, vI v33, .unset, .unset, .unset, .unset, .unset, .unset, .unset, .unset, .unset, .unset, .unset] [(.int v6), (.int p2), (.int (1 : Int32)), (.ref b35), (.ref b35)])) rfl (by rw [hml]; rfl) (argsL := [(.int p2), (.int v6)]) (rest := [(.int (1 : Int32)), (.ref b35), (.ref b35)]) (lenOf pd_0 rfl) rfl (by show 2 * 0 + _ ≤ _; exact Nat.le_of_eq rfl) (hb hby at_78) (fun _ _ => ⟨rfl, e41, (by decide : 2 + 0 ≤ _), (by decide : 8 + 0 ≤ _)⟩)
  dsimp only [Pt.U, Pt.locs, Pt.cells, Pt.slots] at X45 ql45 qy45 qz45 st45 hQ45
  replace X45 := X45.more (Nat.le_of_eq qy45) (Nat.le_of_eq qz45)
  obtain ⟨rfl, Nq45, eq45⟩ := hQ45
  have N45 : Fr n0 qL45 := by rw [ql45]; exact Fr.app N41 Nq45
  have pre45 : Go p.tables e below S0 T45 (mkF m 81 #[vI p0, vI p1, vI p2, vI p3, vI p4, vI p5, vI v3, vI v6, vI v9, vI v12, vR b14, vI v33, .unset, .unset, .unset, .unset, .unset, .unset, .unset, .unset, .unset, .unset, .unset] [(.int (own_low p2 v6)), (.int (1 : Int32)), (.ref b35), (.ref b35)]) := fun t k => pre44 t (st45 t k)
  obtain ⟨cl46, Ar46, q46, S46, M46, H46, G46⟩ := id av41
  have in46 : ¬ ((1 : Int32) < 0 ∨ cl46.slots.size ≤ ((1 : Int32)).toNatClampNeg) := inb_of S46 ⟨by decide, by decide⟩
  obtain ⟨T46, h46, X46, e46, W46, st46⟩ := stI X45 hx hZ eq45 Ar46 (j := (1 : Int32)) in46 (g := (mkF m 81 #[vI p0, vI p1, vI p2, vI p3, vI p4, vI p5, vI v3, vI v6, vI v9, vI v12, vR b14, vI v33, .unset, .unset, .unset, .unset, .unset, .unset, .unset, .unset, .unset, .unset, .unset] [(.int (own_low p2 v6)), (.int (1 : Int32)), (.ref b35), (.ref b35)])) rfl rfl (hb hby at_81)
  have pre46 : Go p.tables e below S0 T46 (mkF m 82 #[vI p0, vI p1, vI p2, vI p3, vI p4, vI p5, vI v3, vI v6, vI v9, vI v12, vR b14, vI v33, .unset, .unset, .unset, .unset, .unset, .unset, .unset, .unset, .unset, .unset, .unset] [(.ref b35)]) := fun t k => pre45 t (st46 t k)
  obtain ⟨lo46, N46, X46⟩ : ∃ lo, Fr n0 lo ∧ Stand p l e room_1 s m #[(.int p0), (.int p1), (.int p2), (.int p3), (.int p4), (.int p5)] below meth c T46 lo 2 8 := ⟨_, Fr.snoc X46 N45 bo35, X46⟩
  have av46 : Arv Z h46 b35 kA35 .int (4 : Int32) [(.int (own_low p1 v3)), (.int (own_low p2 v6)), (.int (0 : Int32)), (.int (0 : Int32))] (.int (0 : Int32)) := Arv.set Ar46 q46 S46 M46 H46 G46 rfl W46 1 rfl (Nat.le_of_ble_eq_true rfl)
  have f47_1 := f42_1.other W46 ne36
  have zz48 : n0 ≤ h46.size := Nat.le_trans zz43 (Keep.of_wr W46).1
  have pre49 : Go p.tables e below S0 T46 (mkF m 87 #[vI p0, vI p1, vI p2, vI p3, vI p4, vI p5, vI v3, vI v6, vI v9, vI v12, vR b14, vI v33, .unset, .unset, .unset, .unset, .unset, .unset, .unset, .unset, .unset, .unset, .unset] [(.int v9), (.int p3), (.int (2 : Int32)), (.ref b35), (.ref b35)]) := fun t k => pre46 t (by
    refine XS.dup X46.here hx rfl (hb hby at_82) rfl rfl ?_
    refine XS.iconst X46.here hx rfl (hb hby at_83) ?_
    refine XS.iloadN X46.here hx rfl (hb hby at_84) rfl ?_
    show Steps p.tables e below (T46.setTop (mkF m 85 #[vI p0, vI p1, vI p2, vI p3, vI p4, vI p5, vI v3, vI v6, vI v9, vI v12, vR b14, vI v33, .unset, .unset, .unset, .unset, .unset, .unset, .unset, .unset, .unset, .unset, .unset] [(.int p3), (.int (2 : Int32)), (.ref b35), (.ref b35)])) _
    refine XS.iload X46.here hx rfl (hb hby at_85) rfl ?_
    exact k)
  obtain ⟨_, _, ⟨T50, qL50, qk50, qn50⟩, -, X50, ⟨Lc50, hQ50, ql50, qy50, qz50⟩, st50⟩ := Jvm.LawKit.callS X46 hx (y := (⟨"com/example/garantia/garantia/engine/StateLayoutSetPinLaw", "low", "(II)I"⟩ : MethodName)) hown (mvT hZ (hw _ (List.mem_of_getElem? (i := 5) rfl))) (mvT hZ (hw _ (List.mem_of_getElem? (i := 6) rfl))) (mvT hZ (hw _ (List.mem_of_getElem? (i := 2) rfl))) (mvT hZ (hw _ (List.mem_of_getElem? (i := 7) rfl))) (by decide) (backOf (W := 3) (rm2 l Z A0 hw [] p3 v9 h46 n0 zz48) hZ (hw _ (List.mem_of_getElem? (i := 7) rfl)) (hw _ (List.mem_of_getElem? (i := 2) rfl)) (by decide) (by decide)) (g := (mkF m 87 #[vI p0, vI p1, vI p2, vI p3, vI p4, vI p5, vI v3, vI v6, vI v9, vI v12, vR b14, vI v33, .unset, .unset, .unset, .unset, .unset, .unset, .unset, .unset, .unset, .unset, .unset] [(.int v9), (.int p3), (.int (2 : Int32)), (.ref b35), (.ref b35)])) rfl (by rw [hml]; rfl) (argsL := [(.int p3), (.int v9)]) (rest := [(.int (2 : Int32)), (.ref b35), (.ref b35)]) (lenOf pd_0 rfl) rfl (by show 2 * 0 + _ ≤ _; exact Nat.le_of_eq rfl) (hb hby at_87) (fun _ _ => ⟨rfl, e46, (by decide : 2 + 0 ≤ _), (by decide : 8 + 0 ≤ _)⟩)
  dsimp only [Pt.U, Pt.locs, Pt.cells, Pt.slots] at X50 ql50 qy50 qz50 st50 hQ50
  replace X50 := X50.more (Nat.le_of_eq qy50) (Nat.le_of_eq qz50)
  obtain ⟨rfl, Nq50, eq50⟩ := hQ50
  have N50 : Fr n0 qL50 := by rw [ql50]; exact Fr.app N46 Nq50
  have pre50 : Go p.tables e below S0 T50 (mkF m 90 #[vI p0, vI p1, vI p2, vI p3, vI p4, vI p5, vI v3, vI v6, vI v9, vI v12, vR b14, vI v33, .unset, .unset, .unset, .unset, .unset, .unset, .unset, .unset, .unset, .unset, .unset] [(.int (own_low p3 v9)), (.int (2 : Int32)), (.ref b35), (.ref b35)]) := fun t k => pre49 t (st50 t k)
  obtain ⟨cl51, Ar51, q51, S51, M51, H51, G51⟩ := id av46
  have in51 : ¬ ((2 : Int32) < 0 ∨ cl51.slots.size ≤ ((2 : Int32)).toNatClampNeg) := inb_of S51 ⟨by decide, by decide⟩
  obtain ⟨T51, h51, X51, e51, W51, st51⟩ := stI X50 hx hZ eq50 Ar51 (j := (2 : Int32)) in51 (g := (mkF m 90 #[vI p0, vI p1, vI p2, vI p3, vI p4, vI p5, vI v3, vI v6, vI v9, vI v12, vR b14, vI v33, .unset, .unset, .unset, .unset, .unset, .unset, .unset, .unset, .unset, .unset, .unset] [(.int (own_low p3 v9)), (.int (2 : Int32)), (.ref b35), (.ref b35)])) rfl rfl (hb hby at_90)
  have pre51 : Go p.tables e below S0 T51 (mkF m 91 #[vI p0, vI p1, vI p2, vI p3, vI p4, vI p5, vI v3, vI v6, vI v9, vI v12, vR b14, vI v33, .unset, .unset, .unset, .unset, .unset, .unset, .unset, .unset, .unset, .unset, .unset] [(.ref b35)]) := fun t k => pre50 t (st51 t k)
  obtain ⟨lo51, N51, X51⟩ : ∃ lo, Fr n0 lo ∧ Stand p l e room_1 s m #[(.int p0), (.int p1), (.int p2), (.int p3), (.int p4), (.int p5)] below meth c T51 lo 2 8 := ⟨_, Fr.snoc X51 N50 bo35, X51⟩
  have av51 : Arv Z h51 b35 kA35 .int (4 : Int32) [(.int (own_low p1 v3)), (.int (own_low p2 v6)), (.int (own_low p3 v9)), (.int (0 : Int32))] (.int (0 : Int32)) := Arv.set Ar51 q51 S51 M51 H51 G51 rfl W51 2 rfl (Nat.le_of_ble_eq_true rfl)
  have f52_1 := f47_1.other W51 ne36
  have zz53 : n0 ≤ h51.size := Nat.le_trans zz48 (Keep.of_wr W51).1
  have pre54 : Go p.tables e below S0 T51 (mkF m 97 #[vI p0, vI p1, vI p2, vI p3, vI p4, vI p5, vI v3, vI v6, vI v9, vI v12, vR b14, vI v33, .unset, .unset, .unset, .unset, .unset, .unset, .unset, .unset, .unset, .unset, .unset] [(.int v12), (.int p4), (.int (3 : Int32)), (.ref b35), (.ref b35)]) := fun t k => pre51 t (by
    refine XS.dup X51.here hx rfl (hb hby at_91) rfl rfl ?_
    refine XS.iconst X51.here hx rfl (hb hby at_92) ?_
    refine XS.iload X51.here hx rfl (hb hby at_93) rfl ?_
    show Steps p.tables e below (T51.setTop (mkF m 95 #[vI p0, vI p1, vI p2, vI p3, vI p4, vI p5, vI v3, vI v6, vI v9, vI v12, vR b14, vI v33, .unset, .unset, .unset, .unset, .unset, .unset, .unset, .unset, .unset, .unset, .unset] [(.int p4), (.int (3 : Int32)), (.ref b35), (.ref b35)])) _
    refine XS.iload X51.here hx rfl (hb hby at_95) rfl ?_
    exact k)
  obtain ⟨_, _, ⟨T55, qL55, qk55, qn55⟩, -, X55, ⟨Lc55, hQ55, ql55, qy55, qz55⟩, st55⟩ := Jvm.LawKit.callS X51 hx (y := (⟨"com/example/garantia/garantia/engine/StateLayoutSetPinLaw", "low", "(II)I"⟩ : MethodName)) hown (mvT hZ (hw _ (List.mem_of_getElem? (i := 5) rfl))) (mvT hZ (hw _ (List.mem_of_getElem? (i := 6) rfl))) (mvT hZ (hw _ (List.mem_of_getElem? (i := 2) rfl))) (mvT hZ (hw _ (List.mem_of_getElem? (i := 7) rfl))) (by decide) (backOf (W := 3) (rm2 l Z A0 hw [] p4 v12 h51 n0 zz53) hZ (hw _ (List.mem_of_getElem? (i := 7) rfl)) (hw _ (List.mem_of_getElem? (i := 2) rfl)) (by decide) (by decide)) (g := (mkF m 97 #[vI p0, vI p1, vI p2, vI p3, vI p4, vI p5, vI v3, vI v6, vI v9, vI v12, vR b14, vI v33, .unset, .unset, .unset, .unset, .unset, .unset, .unset, .unset, .unset, .unset, .unset] [(.int v12), (.int p4), (.int (3 : Int32)), (.ref b35), (.ref b35)])) rfl (by rw [hml]; rfl) (argsL := [(.int p4), (.int v12)]) (rest := [(.int (3 : Int32)), (.ref b35), (.ref b35)]) (lenOf pd_0 rfl) rfl (by show 2 * 0 + _ ≤ _; exact Nat.le_of_eq rfl) (hb hby at_97) (fun _ _ => ⟨rfl, e51, (by decide : 2 + 0 ≤ _), (by decide : 8 + 0 ≤ _)⟩)
  dsimp only [Pt.U, Pt.locs, Pt.cells, Pt.slots] at X55 ql55 qy55 qz55 st55 hQ55
  replace X55 := X55.more (Nat.le_of_eq qy55) (Nat.le_of_eq qz55)
  obtain ⟨rfl, Nq55, eq55⟩ := hQ55
  have N55 : Fr n0 qL55 := by rw [ql55]; exact Fr.app N51 Nq55
  have pre55 : Go p.tables e below S0 T55 (mkF m 100 #[vI p0, vI p1, vI p2, vI p3, vI p4, vI p5, vI v3, vI v6, vI v9, vI v12, vR b14, vI v33, .unset, .unset, .unset, .unset, .unset, .unset, .unset, .unset, .unset, .unset, .unset] [(.int (own_low p4 v12)), (.int (3 : Int32)), (.ref b35), (.ref b35)]) := fun t k => pre54 t (st55 t k)
  obtain ⟨cl56, Ar56, q56, S56, M56, H56, G56⟩ := id av51
  have in56 : ¬ ((3 : Int32) < 0 ∨ cl56.slots.size ≤ ((3 : Int32)).toNatClampNeg) := inb_of S56 ⟨by decide, by decide⟩
  obtain ⟨T56, h56, X56, e56, W56, st56⟩ := stI X55 hx hZ eq55 Ar56 (j := (3 : Int32)) in56 (g := (mkF m 100 #[vI p0, vI p1, vI p2, vI p3, vI p4, vI p5, vI v3, vI v6, vI v9, vI v12, vR b14, vI v33, .unset, .unset, .unset, .unset, .unset, .unset, .unset, .unset, .unset, .unset, .unset] [(.int (own_low p4 v12)), (.int (3 : Int32)), (.ref b35), (.ref b35)])) rfl rfl (hb hby at_100)
  have pre56 : Go p.tables e below S0 T56 (mkF m 101 #[vI p0, vI p1, vI p2, vI p3, vI p4, vI p5, vI v3, vI v6, vI v9, vI v12, vR b14, vI v33, .unset, .unset, .unset, .unset, .unset, .unset, .unset, .unset, .unset, .unset, .unset] [(.ref b35)]) := fun t k => pre55 t (st56 t k)
  obtain ⟨lo56, N56, X56⟩ : ∃ lo, Fr n0 lo ∧ Stand p l e room_1 s m #[(.int p0), (.int p1), (.int p2), (.int p3), (.int p4), (.int p5)] below meth c T56 lo 2 8 := ⟨_, Fr.snoc X56 N55 bo35, X56⟩
  have av56 : Arv Z h56 b35 kA35 .int (4 : Int32) [(.int (own_low p1 v3)), (.int (own_low p2 v6)), (.int (own_low p3 v9)), (.int (own_low p4 v12))] (.int (0 : Int32)) := Arv.set Ar56 q56 S56 M56 H56 G56 rfl W56 3 rfl (Nat.le_of_ble_eq_true rfl)
  have f57_1 := f52_1.other W56 ne36
  have zz58 : n0 ≤ h56.size := Nat.le_trans zz53 (Keep.of_wr W56).1
  have pre59 : Go p.tables e below S0 T56 (mkF m 109 #[vI p0, vI p1, vI p2, vI p3, vI p4, vI p5, vI v3, vI v6, vI v9, vI v12, vR b14, vI v33, vR b35, .unset, .unset, .unset, .unset, .unset, .unset, .unset, .unset, .unset, .unset] [(.int v33), (.ref b14), (.int p5)]) := fun t k => pre56 t (by
    refine XS.astore X56.here hx rfl (hb hby at_101) rfl rfl (l' := #[vI p0, vI p1, vI p2, vI p3, vI p4, vI p5, vI v3, vI v6, vI v9, vI v12, vR b14, vI v33, vR b35, .unset, .unset, .unset, .unset, .unset, .unset, .unset, .unset, .unset, .unset]) rfl ?_
    refine XS.iload X56.here hx rfl (hb hby at_103) rfl ?_
    refine XS.aload X56.here hx rfl (hb hby at_105) rfl rfl ?_
    show Steps p.tables e below (T56.setTop (mkF m 107 #[vI p0, vI p1, vI p2, vI p3, vI p4, vI p5, vI v3, vI v6, vI v9, vI v12, vR b14, vI v33, vR b35, .unset, .unset, .unset, .unset, .unset, .unset, .unset, .unset, .unset, .unset] [(.ref b14), (.int p5)])) _
    refine XS.iload X56.here hx rfl (hb hby at_107) rfl ?_
    exact k)
  obtain ⟨cl60, Ar60, q60, S60, M60, H60, G60⟩ := id f57_1
  have in60 : ¬ (v33 < 0 ∨ cl60.slots.size ≤ (v33).toNatClampNeg) := inb_of S60 hs4
  have at60 : cl60.slots[(v33).toNatClampNeg]? = some (.int ([v3, v6, v9, v12].getD (v33).toNatClampNeg 0)) := H60.at in60 (own_getI [v3, v6, v9, v12] _)
  have pre61 : Go p.tables e below S0 T56 (mkF m 110 #[vI p0, vI p1, vI p2, vI p3, vI p4, vI p5, vI v3, vI v6, vI v9, vI v12, vR b14, vI v33, vR b35, .unset, .unset, .unset, .unset, .unset, .unset, .unset, .unset, .unset, .unset] [(.int ([v3, v6, v9, v12].getD (v33).toNatClampNeg 0)), (.int p5)]) := fun t k => pre59 t (by
    refine X56.iaload hx (j := v33) (v := (.int ([v3, v6, v9, v12].getD (v33).toNatClampNeg 0))) (by rw [e56]; exact Ar60.1) (State.isArrayOf_alike hZ.alike Ar60.2.1) Ar60.2.2 in60 at60 (g := (mkF m 109 #[vI p0, vI p1, vI p2, vI p3, vI p4, vI p5, vI v3, vI v6, vI v9, vI v12, vR b14, vI v33, vR b35, .unset, .unset, .unset, .unset, .unset, .unset, .unset, .unset, .unset, .unset] [(.int v33), (.ref b14), (.int p5)])) rfl rfl (hb hby at_109) _ ?_
    exact k)
  obtain ⟨_, _, ⟨T62, qL62, qk62, qn62⟩, -, X62, ⟨Lc62, hQ62, ql62, qy62, qz62⟩, st62⟩ := Jvm.LawKit.callS X56 hx (y := (⟨"com/example/garantia/garantia/engine/StateLayoutSetPinLaw", "low", "(II)I"⟩ : MethodName)) hown (mvT hZ (hw _ (List.mem_of_getElem? (i := 5) rfl))) (mvT hZ (hw _ (List.mem_of_getElem? (i := 6) rfl))) (mvT hZ (hw _ (List.mem_of_getElem? (i := 2) rfl))) (mvT hZ (hw _ (List.mem_of_getElem? (i := 7) rfl))) (by decide) (backOf (W := 0) (rm2 l Z A0 hw [] p5 ([v3, v6, v9, v12].getD (v33).toNatClampNeg 0) h56 n0 zz58) hZ (hw _ (List.mem_of_getElem? (i := 7) rfl)) (hw _ (List.mem_of_getElem? (i := 2) rfl)) (by decide) (by decide)) (g := (mkF m 110 #[vI p0, vI p1, vI p2, vI p3, vI p4, vI p5, vI v3, vI v6, vI v9, vI v12, vR b14, vI v33, vR b35, .unset, .unset, .unset, .unset, .unset, .unset, .unset, .unset, .unset, .unset] [(.int ([v3, v6, v9, v12].getD (v33).toNatClampNeg 0)), (.int p5)])) rfl (by rw [hml]; rfl) (argsL := [(.int p5), (.int ([v3, v6, v9, v12].getD (v33).toNatClampNeg 0))]) (rest := []) (lenOf pd_0 rfl) rfl (by show 2 * 0 + _ ≤ _; exact Nat.le_of_eq rfl) (hb hby at_110) (fun _ _ => ⟨rfl, e56, (by decide : 2 + 0 ≤ _), (by decide : 8 + 0 ≤ _)⟩)
  dsimp only [Pt.U, Pt.locs, Pt.cells, Pt.slots] at X62 ql62 qy62 qz62 st62 hQ62
  replace X62 := X62.more (Nat.le_of_eq qy62) (Nat.le_of_eq qz62)
  obtain ⟨rfl, Nq62, eq62⟩ := hQ62
  have N62 : Fr n0 qL62 := by rw [ql62]; exact Fr.app N56 Nq62
  have pre62 : Go p.tables e below S0 T62 (mkF m 113 #[vI p0, vI p1, vI p2, vI p3, vI p4, vI p5, vI v3, vI v6, vI v9, vI v12, vR b14, vI v33, vR b35, .unset, .unset, .unset, .unset, .unset, .unset, .unset, .unset, .unset, .unset] [(.int (own_low p5 ([v3, v6, v9, v12].getD (v33).toNatClampNeg 0)))]) := fun t k => pre61 t (st62 t k)
  obtain ⟨v63, hv63, pre63⟩ : ∃ z : Int32, z = (own_low p5 ([v3, v6, v9, v12].getD (v33).toNatClampNeg 0)) ∧ Go p.tables e below S0 T62 (mkF m 115 #[vI p0, vI p1, vI p2, vI p3, vI p4, vI p5, vI v3, vI v6, vI v9, vI v12, vR b14, vI v33, vR b35, vI z, .unset, .unset, .unset, .unset, .unset, .unset, .unset, .unset, .unset] []) := ⟨_, rfl, fun t k => pre62 t (by
    refine XS.istore X62.here hx rfl (hb hby at_113) rfl (l' := #[vI p0, vI p1, vI p2, vI p3, vI p4, vI p5, vI v3, vI v6, vI v9, vI v12, vR b14, vI v33, vR b35, vI (own_low p5 ([v3, v6, v9, v12].getD (v33).toNatClampNeg 0)), .unset, .unset, .unset, .unset, .unset, .unset, .unset, .unset, .unset]) rfl ?_
    exact k)⟩
  have Vv : own_V ([v3, v6, v9, v12].getD (v33).toNatClampNeg 0) v63 := by rw [hv63]; exact own_lv (own_gb hs hb0 hb1 hb2 hb3)
  have pre64 : Go p.tables e below S0 T62 (mkF m 116 #[vI p0, vI p1, vI p2, vI p3, vI p4, vI p5, vI v3, vI v6, vI v9, vI v12, vR b14, vI v33, vR b35, vI v63, .unset, .unset, .unset, .unset, .unset, .unset, .unset, .unset, .unset] [(.int (4 : Int32))]) := fun t k => pre63 t (by
    refine XS.iconst X62.here hx rfl (hb hby at_115) ?_
    exact k)
  obtain ⟨T65, h65, kA65, X65, e65, E65, A65, st65⟩ := newP X62 hx hZ (hw _ (List.mem_of_getElem? (i := 4) rfl)) eq62 (g := (mkF m 116 #[vI p0, vI p1, vI p2, vI p3, vI p4, vI p5, vI v3, vI v6, vI v9, vI v12, vR b14, vI v33, vR b35, vI v63, .unset, .unset, .unset, .unset, .unset, .unset, .unset, .unset, .unset] [(.int (4 : Int32))])) rfl (hb hby at_116) rfl (by decide) (cap := 4) (by decide) (by decide) (by decide) (by decide)
  obtain ⟨b65, g65⟩ : ∃ z, z = h56.size := ⟨_, rfl⟩
  rw [← g65] at A65 st65
  have pre65 : Go p.tables e below S0 T65 (mkF m 118 #[vI p0, vI p1, vI p2, vI p3, vI p4, vI p5, vI v3, vI v6, vI v9, vI v12, vR b14, vI v33, vR b35, vI v63, .unset, .unset, .unset, .unset, .unset, .unset, .unset, .unset, .unset] [(.ref b65)]) := fun t k => pre64 t (st65 t k)
  have ne66 : b14 ≠ b65 := Nat.ne_of_lt (Nat.lt_of_lt_of_le f57_1.lt (Nat.le_of_eq g65.symm))
  have ne67 : b35 ≠ b65 := Nat.ne_of_lt (Nat.lt_of_lt_of_le av56.lt (Nat.le_of_eq g65.symm))
  have bo65 : n0 ≤ b65 := Nat.le_trans zz58 (Nat.le_of_eq g65.symm)
  have f68_1 := f57_1.ext E65
  have f68_2 := av56.ext E65
  have zz69 : n0 ≤ h65.size := Nat.le_trans zz58 E65.1
  have av65 : Arv Z h65 b65 kA65 .int (4 : Int32) [(.int (0 : Int32)), (.int (0 : Int32)), (.int (0 : Int32)), (.int (0 : Int32))] (.int (0 : Int32)) := (Arv.new A65 (by decide)).pad (pad_rep [] (.int (0 : Int32)) 4)
  have pre70 : Go p.tables e below S0 T65 (mkF m 123 #[vI p0, vI p1, vI p2, vI p3, vI p4, vI p5, vI v3, vI v6, vI v9, vI v12, vR b14, vI v33, vR b35, vI v63, .unset, .unset, .unset, .unset, .unset, .unset, .unset, .unset, .unset] [(.int (0 : Int32)), (.ref b35), (.int (0 : Int32)), (.ref b65), (.ref b65)]) := fun t k => pre65 t (by
    refine XS.dup X65.here hx rfl (hb hby at_118) rfl rfl ?_
    refine XS.iconst X65.here hx rfl (hb hby at_119) ?_
    refine XS.aload X65.here hx rfl (hb hby at_120) rfl rfl ?_
    show Steps p.tables e below (T65.setTop (mkF m 122 #[vI p0, vI p1, vI p2, vI p3, vI p4, vI p5, vI v3, vI v6, vI v9, vI v12, vR b14, vI v33, vR b35, vI v63, .unset, .unset, .unset, .unset, .unset, .unset, .unset, .unset, .unset] [(.ref b35), (.int (0 : Int32)), (.ref b65), (.ref b65)])) _
    refine XS.iconst X65.here hx rfl (hb hby at_122) ?_
    exact k)
  obtain ⟨cl71, Ar71, q71, S71, M71, H71, G71⟩ := id f68_2
  have in71 : ¬ ((0 : Int32) < 0 ∨ cl71.slots.size ≤ ((0 : Int32)).toNatClampNeg) := inb_of S71 ⟨by decide, by decide⟩
  have at71 : cl71.slots[((0 : Int32)).toNatClampNeg]? = some (.int (own_low p1 v3)) := H71.at in71 rfl
  have pre72 : Go p.tables e below S0 T65 (mkF m 124 #[vI p0, vI p1, vI p2, vI p3, vI p4, vI p5, vI v3, vI v6, vI v9, vI v12, vR b14, vI v33, vR b35, vI v63, .unset, .unset, .unset, .unset, .unset, .unset, .unset, .unset, .unset] [(.int (own_low p1 v3)), (.int (0 : Int32)), (.ref b65), (.ref b65)]) := fun t k => pre70 t (by
    refine X65.iaload hx (j := (0 : Int32)) (v := (.int (own_low p1 v3))) (by rw [e65]; exact Ar71.1) (State.isArrayOf_alike hZ.alike Ar71.2.1) Ar71.2.2 in71 at71 (g := (mkF m 123 #[vI p0, vI p1, vI p2, vI p3, vI p4, vI p5, vI v3, vI v6, vI v9, vI v12, vR b14, vI v33, vR b35, vI v63, .unset, .unset, .unset, .unset, .unset, .unset, .unset, .unset, .unset] [(.int (0 : Int32)), (.ref b35), (.int (0 : Int32)), (.ref b65), (.ref b65)])) rfl rfl (hb hby at_123) _ ?_
    exact k)
  obtain ⟨cl73, Ar73, q73, S73, M73, H73, G73⟩ := id av65
  have in73 : ¬ ((0 : Int32) < 0 ∨ cl73.slots.size ≤ ((0 : Int32)).toNatClampNeg) := inb_of S73 ⟨by decide, by decide⟩
  obtain ⟨T73, h73, X73, e73, W73, st73⟩ := stI X65 hx hZ e65 Ar73 (j := (0 : Int32)) in73 (g := (mkF m 124 #[vI p0, vI p1, vI p2, vI p3, vI p4, vI p5, vI v3, vI v6, vI v9, vI v12, vR b14, vI v33, vR b35, vI v63, .unset, .unset, .unset, .unset, .unset, .unset, .unset, .unset, .unset] [(.int (own_low p1 v3)), (.int (0 : Int32)), (.ref b65), (.ref b65)])) rfl rfl (hb hby at_124)
  have pre73 : Go p.tables e below S0 T73 (mkF m 125 #[vI p0, vI p1, vI p2, vI p3, vI p4, vI p5, vI v3, vI v6, vI v9, vI v12, vR b14, vI v33, vR b35, vI v63, .unset, .unset, .unset, .unset, .unset, .unset, .unset, .unset, .unset] [(.ref b65)]) := fun t k => pre72 t (st73 t k)
  obtain ⟨lo73, N73, X73⟩ : ∃ lo, Fr n0 lo ∧ Stand p l e room_1 s m #[(.int p0), (.int p1), (.int p2), (.int p3), (.int p4), (.int p5)] below meth c T73 lo 3 12 := ⟨_, Fr.snoc X73 N62 bo65, X73⟩
  have av73 : Arv Z h73 b65 kA65 .int (4 : Int32) [(.int (own_low p1 v3)), (.int (0 : Int32)), (.int (0 : Int32)), (.int (0 : Int32))] (.int (0 : Int32)) := Arv.set Ar73 q73 S73 M73 H73 G73 rfl W73 0 rfl (Nat.le_of_ble_eq_true rfl)
  have f74_1 := f68_1.other W73 ne66
  have f74_2 := f68_2.other W73 ne67
  have zz75 : n0 ≤ h73.size := Nat.le_trans zz69 (Keep.of_wr W73).1
  have pre76 : Go p.tables e below S0 T73 (mkF m 130 #[vI p0, vI p1, vI p2, vI p3, vI p4, vI p5, vI v3, vI v6, vI v9, vI v12, vR b14, vI v33, vR b35, vI v63, .unset, .unset, .unset, .unset, .unset, .unset, .unset, .unset, .unset] [(.int (1 : Int32)), (.ref b35), (.int (1 : Int32)), (.ref b65), (.ref b65)]) := fun t k => pre73 t (by
    refine XS.dup X73.here hx rfl (hb hby at_125) rfl rfl ?_
    refine XS.iconst X73.here hx rfl (hb hby at_126) ?_
    refine XS.aload X73.here hx rfl (hb hby at_127) rfl rfl ?_
    show Steps p.tables e below (T73.setTop (mkF m 129 #[vI p0, vI p1, vI p2, vI p3, vI p4, vI p5, vI v3, vI v6, vI v9, vI v12, vR b14, vI v33, vR b35, vI v63, .unset, .unset, .unset, .unset, .unset, .unset, .unset, .unset, .unset] [(.ref b35), (.int (1 : Int32)), (.ref b65), (.ref b65)])) _
    refine XS.iconst X73.here hx rfl (hb hby at_129) ?_
    exact k)
  obtain ⟨cl77, Ar77, q77, S77, M77, H77, G77⟩ := id f74_2
  have in77 : ¬ ((1 : Int32) < 0 ∨ cl77.slots.size ≤ ((1 : Int32)).toNatClampNeg) := inb_of S77 ⟨by decide, by decide⟩
  have at77 : cl77.slots[((1 : Int32)).toNatClampNeg]? = some (.int (own_low p2 v6)) := H77.at in77 rfl
  have pre78 : Go p.tables e below S0 T73 (mkF m 131 #[vI p0, vI p1, vI p2, vI p3, vI p4, vI p5, vI v3, vI v6, vI v9, vI v12, vR b14, vI v33, vR b35, vI v63, .unset, .unset, .unset, .unset, .unset, .unset, .unset, .unset, .unset] [(.int (own_low p2 v6)), (.int (1 : Int32)), (.ref b65), (.ref b65)]) := fun t k => pre76 t (by
    refine X73.iaload hx (j := (1 : Int32)) (v := (.int (own_low p2 v6))) (by rw [e73]; exact Ar77.1) (State.isArrayOf_alike hZ.alike Ar77.2.1) Ar77.2.2 in77 at77 (g := (mkF m 130 #[vI p0, vI p1, vI p2, vI p3, vI p4, vI p5, vI v3, vI v6, vI v9, vI v12, vR b14, vI v33, vR b35, vI v63, .unset, .unset, .unset, .unset, .unset, .unset, .unset, .unset, .unset] [(.int (1 : Int32)), (.ref b35), (.int (1 : Int32)), (.ref b65), (.ref b65)])) rfl rfl (hb hby at_130) _ ?_
    exact k)
  obtain ⟨cl79, Ar79, q79, S79, M79, H79, G79⟩ := id av73
  have in79 : ¬ ((1 : Int32) < 0 ∨ cl79.slots.size ≤ ((1 : Int32)).toNatClampNeg) := inb_of S79 ⟨by decide, by decide⟩
  obtain ⟨T79, h79, X79, e79, W79, st79⟩ := stI X73 hx hZ e73 Ar79 (j := (1 : Int32)) in79 (g := (mkF m 131 #[vI p0, vI p1, vI p2, vI p3, vI p4, vI p5, vI v3, vI v6, vI v9, vI v12, vR b14, vI v33, vR b35, vI v63, .unset, .unset, .unset, .unset, .unset, .unset, .unset, .unset, .unset] [(.int (own_low p2 v6)), (.int (1 : Int32)), (.ref b65), (.ref b65)])) rfl rfl (hb hby at_131)
  have pre79 : Go p.tables e below S0 T79 (mkF m 132 #[vI p0, vI p1, vI p2, vI p3, vI p4, vI p5, vI v3, vI v6, vI v9, vI v12, vR b14, vI v33, vR b35, vI v63, .unset, .unset, .unset, .unset, .unset, .unset, .unset, .unset, .unset] [(.ref b65)]) := fun t k => pre78 t (st79 t k)
  obtain ⟨lo79, N79, X79⟩ : ∃ lo, Fr n0 lo ∧ Stand p l e room_1 s m #[(.int p0), (.int p1), (.int p2), (.int p3), (.int p4), (.int p5)] below meth c T79 lo 3 12 := ⟨_, Fr.snoc X79 N73 bo65, X79⟩
  have av79 : Arv Z h79 b65 kA65 .int (4 : Int32) [(.int (own_low p1 v3)), (.int (own_low p2 v6)), (.int (0 : Int32)), (.int (0 : Int32))] (.int (0 : Int32)) := Arv.set Ar79 q79 S79 M79 H79 G79 rfl W79 1 rfl (Nat.le_of_ble_eq_true rfl)
  have f80_1 := f74_1.other W79 ne66
  have f80_2 := f74_2.other W79 ne67
  have zz81 : n0 ≤ h79.size := Nat.le_trans zz75 (Keep.of_wr W79).1
  have pre82 : Go p.tables e below S0 T79 (mkF m 137 #[vI p0, vI p1, vI p2, vI p3, vI p4, vI p5, vI v3, vI v6, vI v9, vI v12, vR b14, vI v33, vR b35, vI v63, .unset, .unset, .unset, .unset, .unset, .unset, .unset, .unset, .unset] [(.int (2 : Int32)), (.ref b35), (.int (2 : Int32)), (.ref b65), (.ref b65)]) := fun t k => pre79 t (by
    refine XS.dup X79.here hx rfl (hb hby at_132) rfl rfl ?_
    refine XS.iconst X79.here hx rfl (hb hby at_133) ?_
    refine XS.aload X79.here hx rfl (hb hby at_134) rfl rfl ?_
    show Steps p.tables e below (T79.setTop (mkF m 136 #[vI p0, vI p1, vI p2, vI p3, vI p4, vI p5, vI v3, vI v6, vI v9, vI v12, vR b14, vI v33, vR b35, vI v63, .unset, .unset, .unset, .unset, .unset, .unset, .unset, .unset, .unset] [(.ref b35), (.int (2 : Int32)), (.ref b65), (.ref b65)])) _
    refine XS.iconst X79.here hx rfl (hb hby at_136) ?_
    exact k)
  obtain ⟨cl83, Ar83, q83, S83, M83, H83, G83⟩ := id f80_2
  have in83 : ¬ ((2 : Int32) < 0 ∨ cl83.slots.size ≤ ((2 : Int32)).toNatClampNeg) := inb_of S83 ⟨by decide, by decide⟩
  have at83 : cl83.slots[((2 : Int32)).toNatClampNeg]? = some (.int (own_low p3 v9)) := H83.at in83 rfl
  have pre84 : Go p.tables e below S0 T79 (mkF m 138 #[vI p0, vI p1, vI p2, vI p3, vI p4, vI p5, vI v3, vI v6, vI v9, vI v12, vR b14, vI v33, vR b35, vI v63, .unset, .unset, .unset, .unset, .unset, .unset, .unset, .unset, .unset] [(.int (own_low p3 v9)), (.int (2 : Int32)), (.ref b65), (.ref b65)]) := fun t k => pre82 t (by
    refine X79.iaload hx (j := (2 : Int32)) (v := (.int (own_low p3 v9))) (by rw [e79]; exact Ar83.1) (State.isArrayOf_alike hZ.alike Ar83.2.1) Ar83.2.2 in83 at83 (g := (mkF m 137 #[vI p0, vI p1, vI p2, vI p3, vI p4, vI p5, vI v3, vI v6, vI v9, vI v12, vR b14, vI v33, vR b35, vI v63, .unset, .unset, .unset, .unset, .unset, .unset, .unset, .unset, .unset] [(.int (2 : Int32)), (.ref b35), (.int (2 : Int32)), (.ref b65), (.ref b65)])) rfl rfl (hb hby at_137) _ ?_
    exact k)
  obtain ⟨cl85, Ar85, q85, S85, M85, H85, G85⟩ := id av79
  have in85 : ¬ ((2 : Int32) < 0 ∨ cl85.slots.size ≤ ((2 : Int32)).toNatClampNeg) := inb_of S85 ⟨by decide, by decide⟩
  obtain ⟨T85, h85, X85, e85, W85, st85⟩ := stI X79 hx hZ e79 Ar85 (j := (2 : Int32)) in85 (g := (mkF m 138 #[vI p0, vI p1, vI p2, vI p3, vI p4, vI p5, vI v3, vI v6, vI v9, vI v12, vR b14, vI v33, vR b35, vI v63, .unset, .unset, .unset, .unset, .unset, .unset, .unset, .unset, .unset] [(.int (own_low p3 v9)), (.int (2 : Int32)), (.ref b65), (.ref b65)])) rfl rfl (hb hby at_138)
  have pre85 : Go p.tables e below S0 T85 (mkF m 139 #[vI p0, vI p1, vI p2, vI p3, vI p4, vI p5, vI v3, vI v6, vI v9, vI v12, vR b14, vI v33, vR b35, vI v63, .unset, .unset, .unset, .unset, .unset, .unset, .unset, .unset, .unset] [(.ref b65)]) := fun t k => pre84 t (st85 t k)
  obtain ⟨lo85, N85, X85⟩ : ∃ lo, Fr n0 lo ∧ Stand p l e room_1 s m #[(.int p0), (.int p1), (.int p2), (.int p3), (.int p4), (.int p5)] below meth c T85 lo 3 12 := ⟨_, Fr.snoc X85 N79 bo65, X85⟩
  have av85 : Arv Z h85 b65 kA65 .int (4 : Int32) [(.int (own_low p1 v3)), (.int (own_low p2 v6)), (.int (own_low p3 v9)), (.int (0 : Int32))] (.int (0 : Int32)) := Arv.set Ar85 q85 S85 M85 H85 G85 rfl W85 2 rfl (Nat.le_of_ble_eq_true rfl)
  have f86_1 := f80_1.other W85 ne66
  have f86_2 := f80_2.other W85 ne67
  have zz87 : n0 ≤ h85.size := Nat.le_trans zz81 (Keep.of_wr W85).1
  have pre88 : Go p.tables e below S0 T85 (mkF m 144 #[vI p0, vI p1, vI p2, vI p3, vI p4, vI p5, vI v3, vI v6, vI v9, vI v12, vR b14, vI v33, vR b35, vI v63, .unset, .unset, .unset, .unset, .unset, .unset, .unset, .unset, .unset] [(.int (3 : Int32)), (.ref b35), (.int (3 : Int32)), (.ref b65), (.ref b65)]) := fun t k => pre85 t (by
    refine XS.dup X85.here hx rfl (hb hby at_139) rfl rfl ?_
    refine XS.iconst X85.here hx rfl (hb hby at_140) ?_
    refine XS.aload X85.here hx rfl (hb hby at_141) rfl rfl ?_
    show Steps p.tables e below (T85.setTop (mkF m 143 #[vI p0, vI p1, vI p2, vI p3, vI p4, vI p5, vI v3, vI v6, vI v9, vI v12, vR b14, vI v33, vR b35, vI v63, .unset, .unset, .unset, .unset, .unset, .unset, .unset, .unset, .unset] [(.ref b35), (.int (3 : Int32)), (.ref b65), (.ref b65)])) _
    refine XS.iconst X85.here hx rfl (hb hby at_143) ?_
    exact k)
  obtain ⟨cl89, Ar89, q89, S89, M89, H89, G89⟩ := id f86_2
  have in89 : ¬ ((3 : Int32) < 0 ∨ cl89.slots.size ≤ ((3 : Int32)).toNatClampNeg) := inb_of S89 ⟨by decide, by decide⟩
  have at89 : cl89.slots[((3 : Int32)).toNatClampNeg]? = some (.int (own_low p4 v12)) := H89.at in89 rfl
  have pre90 : Go p.tables e below S0 T85 (mkF m 145 #[vI p0, vI p1, vI p2, vI p3, vI p4, vI p5, vI v3, vI v6, vI v9, vI v12, vR b14, vI v33, vR b35, vI v63, .unset, .unset, .unset, .unset, .unset, .unset, .unset, .unset, .unset] [(.int (own_low p4 v12)), (.int (3 : Int32)), (.ref b65), (.ref b65)]) := fun t k => pre88 t (by
    refine X85.iaload hx (j := (3 : Int32)) (v := (.int (own_low p4 v12))) (by rw [e85]; exact Ar89.1) (State.isArrayOf_alike hZ.alike Ar89.2.1) Ar89.2.2 in89 at89 (g := (mkF m 144 #[vI p0, vI p1, vI p2, vI p3, vI p4, vI p5, vI v3, vI v6, vI v9, vI v12, vR b14, vI v33, vR b35, vI v63, .unset, .unset, .unset, .unset, .unset, .unset, .unset, .unset, .unset] [(.int (3 : Int32)), (.ref b35), (.int (3 : Int32)), (.ref b65), (.ref b65)])) rfl rfl (hb hby at_144) _ ?_
    exact k)
  obtain ⟨cl91, Ar91, q91, S91, M91, H91, G91⟩ := id av85
  have in91 : ¬ ((3 : Int32) < 0 ∨ cl91.slots.size ≤ ((3 : Int32)).toNatClampNeg) := inb_of S91 ⟨by decide, by decide⟩
  obtain ⟨T91, h91, X91, e91, W91, st91⟩ := stI X85 hx hZ e85 Ar91 (j := (3 : Int32)) in91 (g := (mkF m 145 #[vI p0, vI p1, vI p2, vI p3, vI p4, vI p5, vI v3, vI v6, vI v9, vI v12, vR b14, vI v33, vR b35, vI v63, .unset, .unset, .unset, .unset, .unset, .unset, .unset, .unset, .unset] [(.int (own_low p4 v12)), (.int (3 : Int32)), (.ref b65), (.ref b65)])) rfl rfl (hb hby at_145)
  have pre91 : Go p.tables e below S0 T91 (mkF m 146 #[vI p0, vI p1, vI p2, vI p3, vI p4, vI p5, vI v3, vI v6, vI v9, vI v12, vR b14, vI v33, vR b35, vI v63, .unset, .unset, .unset, .unset, .unset, .unset, .unset, .unset, .unset] [(.ref b65)]) := fun t k => pre90 t (st91 t k)
  obtain ⟨lo91, N91, X91⟩ : ∃ lo, Fr n0 lo ∧ Stand p l e room_1 s m #[(.int p0), (.int p1), (.int p2), (.int p3), (.int p4), (.int p5)] below meth c T91 lo 3 12 := ⟨_, Fr.snoc X91 N85 bo65, X91⟩
  have av91 : Arv Z h91 b65 kA65 .int (4 : Int32) [(.int (own_low p1 v3)), (.int (own_low p2 v6)), (.int (own_low p3 v9)), (.int (own_low p4 v12))] (.int (0 : Int32)) := Arv.set Ar91 q91 S91 M91 H91 G91 rfl W91 3 rfl (Nat.le_of_ble_eq_true rfl)
  have f92_1 := f86_1.other W91 ne66
  have f92_2 := f86_2.other W91 ne67
  have zz93 : n0 ≤ h91.size := Nat.le_trans zz87 (Keep.of_wr W91).1
  have pre94 : Go p.tables e below S0 T91 (mkF m 154 #[vI p0, vI p1, vI p2, vI p3, vI p4, vI p5, vI v3, vI v6, vI v9, vI v12, vR b14, vI v33, vR b35, vI v63, vR b65, .unset, .unset, .unset, .unset, .unset, .unset, .unset, .unset] [(.int v63), (.int v33), (.ref b65)]) := fun t k => pre91 t (by
    refine XS.astore X91.here hx rfl (hb hby at_146) rfl rfl (l' := #[vI p0, vI p1, vI p2, vI p3, vI p4, vI p5, vI v3, vI v6, vI v9, vI v12, vR b14, vI v33, vR b35, vI v63, vR b65, .unset, .unset, .unset, .unset, .unset, .unset, .unset, .unset]) rfl ?_
    refine XS.aload X91.here hx rfl (hb hby at_148) rfl rfl ?_
    refine XS.iload X91.here hx rfl (hb hby at_150) rfl ?_
    show Steps p.tables e below (T91.setTop (mkF m 152 #[vI p0, vI p1, vI p2, vI p3, vI p4, vI p5, vI v3, vI v6, vI v9, vI v12, vR b14, vI v33, vR b35, vI v63, vR b65, .unset, .unset, .unset, .unset, .unset, .unset, .unset, .unset] [(.int v33), (.ref b65)])) _
    refine XS.iload X91.here hx rfl (hb hby at_152) rfl ?_
    exact k)
  obtain ⟨cl95, Ar95, q95, S95, M95, H95, G95⟩ := id av91
  have in95 : ¬ (v33 < 0 ∨ cl95.slots.size ≤ (v33).toNatClampNeg) := inb_of S95 hs4
  obtain ⟨T95, h95, X95, e95, W95, st95⟩ := stI X91 hx hZ e91 Ar95 (j := v33) in95 (g := (mkF m 154 #[vI p0, vI p1, vI p2, vI p3, vI p4, vI p5, vI v3, vI v6, vI v9, vI v12, vR b14, vI v33, vR b35, vI v63, vR b65, .unset, .unset, .unset, .unset, .unset, .unset, .unset, .unset] [(.int v63), (.int v33), (.ref b65)])) rfl rfl (hb hby at_154)
  have pre95 : Go p.tables e below S0 T95 (mkF m 155 #[vI p0, vI p1, vI p2, vI p3, vI p4, vI p5, vI v3, vI v6, vI v9, vI v12, vR b14, vI v33, vR b35, vI v63, vR b65, .unset, .unset, .unset, .unset, .unset, .unset, .unset, .unset] []) := fun t k => pre94 t (st95 t k)
  obtain ⟨lo95, N95, X95⟩ : ∃ lo, Fr n0 lo ∧ Stand p l e room_1 s m #[(.int p0), (.int p1), (.int p2), (.int p3), (.int p4), (.int p5)] below meth c T95 lo 3 12 := ⟨_, Fr.snoc X95 N91 bo65, X95⟩
  have av95 : Arv Z h95 b65 kA65 .int (4 : Int32) [(.int (own_put v33 (0 : Int32) v63 (own_low p1 v3))), (.int (own_put v33 (1 : Int32) v63 (own_low p2 v6))), (.int (own_put v33 (2 : Int32) v63 (own_low p3 v9))), (.int (own_put v33 (3 : Int32) v63 (own_low p4 v12)))] (.int (0 : Int32)) := by
    have q := Arv.set Ar95 q95 S95 M95 H95 G95 rfl W95 _ rfl (own_setI4 (w := 0) (x0 := 0) (x1 := 0) (x2 := 0) (x3 := 0) hs4).1
    rw [(own_setI4 hs4).2] at q
    exact q
  have f96_1 := f92_1.other W95 ne66
  have f96_2 := f92_2.other W95 ne67
  have zz97 : n0 ≤ h95.size := Nat.le_trans zz93 (Keep.of_wr W95).1
  have pre98 : Go p.tables e below S0 T95 (mkF m 156 #[vI p0, vI p1, vI p2, vI p3, vI p4, vI p5, vI v3, vI v6, vI v9, vI v12, vR b14, vI v33, vR b35, vI v63, vR b65, .unset, .unset, .unset, .unset, .unset, .unset, .unset, .unset] [(.int (2 : Int32))]) := fun t k => pre95 t (by
    refine XS.iconst X95.here hx rfl (hb hby at_155) ?_
    exact k)
  obtain ⟨T99, h99, kA99, X99, e99, E99, A99, st99⟩ := newP X95 hx hZ (hw _ (List.mem_of_getElem? (i := 8) rfl)) e95 (g := (mkF m 156 #[vI p0, vI p1, vI p2, vI p3, vI p4, vI p5, vI v3, vI v6, vI v9, vI v12, vR b14, vI v33, vR b35, vI v63, vR b65, .unset, .unset, .unset, .unset, .unset, .unset, .unset, .unset] [(.int (2 : Int32))])) rfl (hb hby at_156) rfl (by decide) (cap := 2) (by decide) (by decide) (by decide) (by decide)
  obtain ⟨b99, g99⟩ : ∃ z, z = h95.size := ⟨_, rfl⟩
  rw [← g99] at A99 st99
  have pre99 : Go p.tables e below S0 T99 (mkF m 158 #[vI p0, vI p1, vI p2, vI p3, vI p4, vI p5, vI v3, vI v6, vI v9, vI v12, vR b14, vI v33, vR b35, vI v63, vR b65, .unset, .unset, .unset, .unset, .unset, .unset, .unset, .unset] [(.ref b99)]) := fun t k => pre98 t (st99 t k)
  have ne100 : b14 ≠ b99 := Nat.ne_of_lt (Nat.lt_of_lt_of_le f96_1.lt (Nat.le_of_eq g99.symm))
  have ne101 : b35 ≠ b99 := Nat.ne_of_lt (Nat.lt_of_lt_of_le f96_2.lt (Nat.le_of_eq g99.symm))
  have ne102 : b65 ≠ b99 := Nat.ne_of_lt (Nat.lt_of_lt_of_le av95.lt (Nat.le_of_eq g99.symm))
  have bo99 : n0 ≤ b99 := Nat.le_trans zz97 (Nat.le_of_eq g99.symm)
  have f103_1 := f96_1.ext E99
  have f103_2 := f96_2.ext E99
  have f103_3 := av95.ext E99
  have zz104 : n0 ≤ h99.size := Nat.le_trans zz97 E99.1
  have av99 : Arv Z h99 b99 kA99 .long (2 : Int32) [(.long (0 : Int64)), (.long (0 : Int64))] (.long (0 : Int64)) := (Arv.new A99 (by decide)).pad (pad_rep [] (.long (0 : Int64)) 2)
  have pre105 : Go p.tables e below S0 T99 (mkF m 161 #[vI p0, vI p1, vI p2, vI p3, vI p4, vI p5, vI v3, vI v6, vI v9, vI v12, vR b14, vI v33, vR b35, vI v63, vR b65, vR b99, .unset, .unset, .unset, .unset, .unset, .unset, .unset] [(.int (2 : Int32))]) := fun t k => pre99 t (by
    refine XS.astore X99.here hx rfl (hb hby at_158) rfl rfl (l' := #[vI p0, vI p1, vI p2, vI p3, vI p4, vI p5, vI v3, vI v6, vI v9, vI v12, vR b14, vI v33, vR b35, vI v63, vR b65, vR b99, .unset, .unset, .unset, .unset, .unset, .unset, .unset]) rfl ?_
    refine XS.iconst X99.here hx rfl (hb hby at_160) ?_
    exact k)
  obtain ⟨T106, h106, kA106, X106, e106, E106, A106, st106⟩ := newP X99 hx hZ (hw _ (List.mem_of_getElem? (i := 8) rfl)) e99 (g := (mkF m 161 #[vI p0, vI p1, vI p2, vI p3, vI p4, vI p5, vI v3, vI v6, vI v9, vI v12, vR b14, vI v33, vR b35, vI v63, vR b65, vR b99, .unset, .unset, .unset, .unset, .unset, .unset, .unset] [(.int (2 : Int32))])) rfl (hb hby at_161) rfl (by decide) (cap := 2) (by decide) (by decide) (by decide) (by decide)
  obtain ⟨b106, g106⟩ : ∃ z, z = h99.size := ⟨_, rfl⟩
  rw [← g106] at A106 st106
  have pre106 : Go p.tables e below S0 T106 (mkF m 163 #[vI p0, vI p1, vI p2, vI p3, vI p4, vI p5, vI v3, vI v6, vI v9, vI v12, vR b14, vI v33, vR b35, vI v63, vR b65, vR b99, .unset, .unset, .unset, .unset, .unset, .unset, .unset] [(.ref b106)]) := fun t k => pre105 t (st106 t k)
  have ne107 : b14 ≠ b106 := Nat.ne_of_lt (Nat.lt_of_lt_of_le f103_1.lt (Nat.le_of_eq g106.symm))
  have ne108 : b35 ≠ b106 := Nat.ne_of_lt (Nat.lt_of_lt_of_le f103_2.lt (Nat.le_of_eq g106.symm))
  have ne109 : b65 ≠ b106 := Nat.ne_of_lt (Nat.lt_of_lt_of_le f103_3.lt (Nat.le_of_eq g106.symm))
  have ne110 : b99 ≠ b106 := Nat.ne_of_lt (Nat.lt_of_lt_of_le av99.lt (Nat.le_of_eq g106.symm))
  have bo106 : n0 ≤ b106 := Nat.le_trans zz104 (Nat.le_of_eq g106.symm)
  have f111_1 := f103_1.ext E106
  have f111_2 := f103_2.ext E106
  have f111_3 := f103_3.ext E106
  have f111_4 := av99.ext E106
  have zz112 : n0 ≤ h106.size := Nat.le_trans zz104 E106.1
  have av106 : Arv Z h106 b106 kA106 .long (2 : Int32) [(.long (0 : Int64)), (.long (0 : Int64))] (.long (0 : Int64)) := (Arv.new A106 (by decide)).pad (pad_rep [] (.long (0 : Int64)) 2)
  have pre113 : Go p.tables e below S0 T106 (mkF m 166 #[vI p0, vI p1, vI p2, vI p3, vI p4, vI p5, vI v3, vI v6, vI v9, vI v12, vR b14, vI v33, vR b35, vI v63, vR b65, vR b99, vR b106, .unset, .unset, .unset, .unset, .unset, .unset] [(.int (4 : Int32))]) := fun t k => pre106 t (by
    refine XS.astore X106.here hx rfl (hb hby at_163) rfl rfl (l' := #[vI p0, vI p1, vI p2, vI p3, vI p4, vI p5, vI v3, vI v6, vI v9, vI v12, vR b14, vI v33, vR b35, vI v63, vR b65, vR b99, vR b106, .unset, .unset, .unset, .unset, .unset, .unset]) rfl ?_
    refine XS.iconst X106.here hx rfl (hb hby at_165) ?_
    exact k)
  obtain ⟨T114, h114, kA114, X114, e114, E114, A114, st114⟩ := newP X106 hx hZ (hw _ (List.mem_of_getElem? (i := 4) rfl)) e106 (g := (mkF m 166 #[vI p0, vI p1, vI p2, vI p3, vI p4, vI p5, vI v3, vI v6, vI v9, vI v12, vR b14, vI v33, vR b35, vI v63, vR b65, vR b99, vR b106, .unset, .unset, .unset, .unset, .unset, .unset] [(.int (4 : Int32))])) rfl (hb hby at_166) rfl (by decide) (cap := 4) (by decide) (by decide) (by decide) (by decide)
  obtain ⟨b114, g114⟩ : ∃ z, z = h106.size := ⟨_, rfl⟩
  rw [← g114] at A114 st114
  have pre114 : Go p.tables e below S0 T114 (mkF m 168 #[vI p0, vI p1, vI p2, vI p3, vI p4, vI p5, vI v3, vI v6, vI v9, vI v12, vR b14, vI v33, vR b35, vI v63, vR b65, vR b99, vR b106, .unset, .unset, .unset, .unset, .unset, .unset] [(.ref b114)]) := fun t k => pre113 t (st114 t k)
  have ne115 : b14 ≠ b114 := Nat.ne_of_lt (Nat.lt_of_lt_of_le f111_1.lt (Nat.le_of_eq g114.symm))
  have ne116 : b35 ≠ b114 := Nat.ne_of_lt (Nat.lt_of_lt_of_le f111_2.lt (Nat.le_of_eq g114.symm))
  have ne117 : b65 ≠ b114 := Nat.ne_of_lt (Nat.lt_of_lt_of_le f111_3.lt (Nat.le_of_eq g114.symm))
  have ne118 : b99 ≠ b114 := Nat.ne_of_lt (Nat.lt_of_lt_of_le f111_4.lt (Nat.le_of_eq g114.symm))
  have ne119 : b106 ≠ b114 := Nat.ne_of_lt (Nat.lt_of_lt_of_le av106.lt (Nat.le_of_eq g114.symm))
  have bo114 : n0 ≤ b114 := Nat.le_trans zz112 (Nat.le_of_eq g114.symm)
  have f120_1 := f111_1.ext E114
  have f120_2 := f111_2.ext E114
  have f120_3 := f111_3.ext E114
  have f120_4 := f111_4.ext E114
  have f120_5 := av106.ext E114
  have zz121 : n0 ≤ h114.size := Nat.le_trans zz112 E114.1
  have av114 : Arv Z h114 b114 kA114 .int (4 : Int32) [(.int (0 : Int32)), (.int (0 : Int32)), (.int (0 : Int32)), (.int (0 : Int32))] (.int (0 : Int32)) := (Arv.new A114 (by decide)).pad (pad_rep [] (.int (0 : Int32)) 4)
  have pre122 : Go p.tables e below S0 T114 (mkF m 170 #[vI p0, vI p1, vI p2, vI p3, vI p4, vI p5, vI v3, vI v6, vI v9, vI v12, vR b14, vI v33, vR b35, vI v63, vR b65, vR b99, vR b106, vR b114, .unset, .unset, .unset, .unset, .unset] []) := fun t k => pre114 t (by
    refine XS.astore X114.here hx rfl (hb hby at_168) rfl rfl (l' := #[vI p0, vI p1, vI p2, vI p3, vI p4, vI p5, vI v3, vI v6, vI v9, vI v12, vR b14, vI v33, vR b35, vI v63, vR b65, vR b99, vR b106, vR b114, .unset, .unset, .unset, .unset, .unset]) rfl ?_
    exact k)
  obtain ⟨T123, h123, X123, e123, E123, A123, D123, -, st123⟩ := newO X114 hx hZ hown (hw _ (List.mem_of_getElem? (i := 9) rfl)) (hw _ (List.mem_of_getElem? (i := 10) rfl)) (hw _ (List.mem_of_getElem? (i := 11) rfl)) e114 (g := (mkF m 170 #[vI p0, vI p1, vI p2, vI p3, vI p4, vI p5, vI v3, vI v6, vI v9, vI v12, vR b14, vI v33, vR b35, vI v63, vR b65, vR b99, vR b106, vR b114, .unset, .unset, .unset, .unset, .unset] [])) rfl (hb hby at_170) (by decide) (by decide)
  obtain ⟨b123, g123⟩ : ∃ z, z = h114.size := ⟨_, rfl⟩
  rw [← g123] at A123 D123 st123
  have pre123 : Go p.tables e below S0 T123 (mkF m 173 #[vI p0, vI p1, vI p2, vI p3, vI p4, vI p5, vI v3, vI v6, vI v9, vI v12, vR b14, vI v33, vR b35, vI v63, vR b65, vR b99, vR b106, vR b114, .unset, .unset, .unset, .unset, .unset] [(.ref b123)]) := fun t k => pre122 t (st123 t k)
  have ne124 : b14 ≠ b123 := Nat.ne_of_lt (Nat.lt_of_lt_of_le f120_1.lt (Nat.le_of_eq g123.symm))
  have ne125 : b35 ≠ b123 := Nat.ne_of_lt (Nat.lt_of_lt_of_le f120_2.lt (Nat.le_of_eq g123.symm))
  have ne126 : b65 ≠ b123 := Nat.ne_of_lt (Nat.lt_of_lt_of_le f120_3.lt (Nat.le_of_eq g123.symm))
  have ne127 : b99 ≠ b123 := Nat.ne_of_lt (Nat.lt_of_lt_of_le f120_4.lt (Nat.le_of_eq g123.symm))
  have ne128 : b106 ≠ b123 := Nat.ne_of_lt (Nat.lt_of_lt_of_le f120_5.lt (Nat.le_of_eq g123.symm))
  have ne129 : b114 ≠ b123 := Nat.ne_of_lt (Nat.lt_of_lt_of_le av114.lt (Nat.le_of_eq g123.symm))
  have bo123 : n0 ≤ b123 := Nat.le_trans zz121 (Nat.le_of_eq g123.symm)
  have f130_1 := f120_1.ext E123
  have f130_2 := f120_2.ext E123
  have f130_3 := f120_3.ext E123
  have f130_4 := f120_4.ext E123
  have f130_5 := f120_5.ext E123
  have f130_6 := av114.ext E123
  have zz131 : n0 ≤ h123.size := Nat.le_trans zz121 E123.1
  have fn123_word : Fld Z h123 b123 "com/example/garantia/garantia/engine/StateLayout" "word" "[I" .null := D123 (Or.inr (hw _ (List.mem_of_getElem? (i := 19) rfl))) (ty := (.array .int)) (by decide)
  have fn123_shift : Fld Z h123 b123 "com/example/garantia/garantia/engine/StateLayout" "shift" "[I" .null := D123 (Or.inr (hw _ (List.mem_of_getElem? (i := 21) rfl))) (ty := (.array .int)) (by decide)
  have fn123_mask : Fld Z h123 b123 "com/example/garantia/garantia/engine/StateLayout" "mask" "[J" .null := D123 (Or.inr (hw _ (List.mem_of_getElem? (i := 23) rfl))) (ty := (.array .long)) (by decide)
  have fn123_others : Fld Z h123 b123 "com/example/garantia/garantia/engine/StateLayout" "others" "[J" .null := D123 (Or.inr (hw _ (List.mem_of_getElem? (i := 25) rfl))) (ty := (.array .long)) (by decide)
  have fn123_words : Fld Z h123 b123 "com/example/garantia/garantia/engine/StateLayout" "words" "I" (.int (0 : Int32)) := D123 (Or.inr (hw _ (List.mem_of_getElem? (i := 28) rfl))) (ty := .int) (by decide)
  have fn123_narrow : Fld Z h123 b123 "com/example/garantia/garantia/engine/StateLayout" "narrow" "Z" (.int (0 : Int32)) := D123 (Or.inr (hw _ (List.mem_of_getElem? (i := 30) rfl))) (ty := .boolean) (by decide)
  have pre132 : Go p.tables e below S0 T123 (mkF m 176 #[vI p0, vI p1, vI p2, vI p3, vI p4, vI p5, vI v3, vI v6, vI v9, vI v12, vR b14, vI v33, vR b35, vI v63, vR b65, vR b99, vR b106, vR b114, .unset, .unset, .unset, .unset, .unset] [(.ref b14), (.ref b123), (.ref b123)]) := fun t k => pre123 t (by
    refine XS.dup X123.here hx rfl (hb hby at_173) rfl rfl ?_
    refine XS.aload X123.here hx rfl (hb hby at_174) rfl rfl ?_
    exact k)
  obtain ⟨_, _, ⟨T133, qL133, qk133, qn133⟩, -, X133, ⟨Lc133, hQ133, ql133, qy133, qz133⟩, st133⟩ := X123.specialBack hx (y := (⟨"com/example/garantia/garantia/engine/StateLayout", "<init>", "([I)V"⟩ : MethodName)) rfl hown (mvT hZ (hw _ (List.mem_of_getElem? (i := 12) rfl))) (mvT hZ (hw _ (List.mem_of_getElem? (i := 13) rfl))) (mvT hZ (hw _ (List.mem_of_getElem? (i := 14) rfl))) (by decide) (backOf (W := 1) (rm3 l Z A0 hw [] b123 b14 kA14 v3 v6 v9 v12 h123 n0 zz131 A123 fn123_word fn123_shift fn123_mask fn123_others fn123_words fn123_narrow f130_1 ne124 bo123 hw0 hw1 hw2 hw3) hZ (hw _ (List.mem_of_getElem? (i := 14) rfl)) (hw _ (List.mem_of_getElem? (i := 11) rfl)) (by decide) (by decide)) (g := (mkF m 176 #[vI p0, vI p1, vI p2, vI p3, vI p4, vI p5, vI v3, vI v6, vI v9, vI v12, vR b14, vI v33, vR b35, vI v63, vR b65, vR b99, vR b106, vR b114, .unset, .unset, .unset, .unset, .unset] [(.ref b14), (.ref b123), (.ref b123)])) rfl (by rw [hml]; rfl) (Steps.refl _) (a := b123) (argsL := [(.ref b14)]) (rest := [(.ref b123)]) (lenOf pd_1 rfl) rfl (by show 2 * 0 + _ ≤ _; exact Nat.le_of_eq rfl) (hb hby at_176) (fun _ _ => ⟨rfl, e123, (by decide : 7 + 4 ≤ _), (by decide : 26 + 16 ≤ _)⟩)
  dsimp only [Pt.U, Pt.locs, Pt.cells, Pt.slots] at X133 ql133 qy133 qz133 st133 hQ133
  replace X133 := X133.more (Nat.le_of_eq qy133) (Nat.le_of_eq qz133)
  obtain ⟨rfl, Nq133, aw_133, as_133, am_133, ao_133, kw_133, ks_133, km_133, ko_133, c2_133, u2_133, c3_133, u3_133, hq133, ho133, hn133, Kq133, nf133_0, nf133_1, nf133_2, nf133_3, nf133_4, nf133_5, nf133_6, nf133_7, nf133_8, nf133_9⟩ := hQ133
  have N133 : Fr n0 qL133 := by rw [ql133]; exact Fr.app N95 Nq133
  have pre133 : Go p.tables e below S0 T133 (mkF m 179 #[vI p0, vI p1, vI p2, vI p3, vI p4, vI p5, vI v3, vI v6, vI v9, vI v12, vR b14, vI v33, vR b35, vI v63, vR b65, vR b99, vR b106, vR b114, .unset, .unset, .unset, .unset, .unset] [(.ref b123)]) := fun t k => pre132 t (st133.trans k)
  have f134_1 := f130_1.keep Kq133 (ninS ne124 nin0)
  have f134_2 := f130_2.keep Kq133 (ninS ne125 nin0)
  have f134_3 := f130_3.keep Kq133 (ninS ne126 nin0)
  have f134_4 := f130_4.keep Kq133 (ninS ne127 nin0)
  have f134_5 := f130_5.keep Kq133 (ninS ne128 nin0)
  have f134_6 := f130_6.keep Kq133 (ninS ne129 nin0)
  have zz135 : n0 ≤ T133.heap.size := Nat.le_trans zz131 Kq133.1
  have bo133_0 : n0 ≤ aw_133 := Nat.le_trans zz131 ho133.1
  have nn133_0_0 : b14 ≠ aw_133 := Nat.ne_of_lt (Nat.lt_of_lt_of_le f130_1.lt ho133.1)
  have nn133_0_1 : b35 ≠ aw_133 := Nat.ne_of_lt (Nat.lt_of_lt_of_le f130_2.lt ho133.1)
  have nn133_0_2 : b65 ≠ aw_133 := Nat.ne_of_lt (Nat.lt_of_lt_of_le f130_3.lt ho133.1)
  have nn133_0_3 : b99 ≠ aw_133 := Nat.ne_of_lt (Nat.lt_of_lt_of_le f130_4.lt ho133.1)
  have nn133_0_4 : b106 ≠ aw_133 := Nat.ne_of_lt (Nat.lt_of_lt_of_le f130_5.lt ho133.1)
  have nn133_0_5 : b114 ≠ aw_133 := Nat.ne_of_lt (Nat.lt_of_lt_of_le f130_6.lt ho133.1)
  have nn133_0_6 : b123 ≠ aw_133 := Nat.ne_of_lt (Nat.lt_of_lt_of_le fn123_narrow.lt ho133.1)
  have bo133_1 : n0 ≤ as_133 := Nat.le_trans zz131 ho133.2.1
  have nn133_1_0 : b14 ≠ as_133 := Nat.ne_of_lt (Nat.lt_of_lt_of_le f130_1.lt ho133.2.1)
  have nn133_1_1 : b35 ≠ as_133 := Nat.ne_of_lt (Nat.lt_of_lt_of_le f130_2.lt ho133.2.1)
  have nn133_1_2 : b65 ≠ as_133 := Nat.ne_of_lt (Nat.lt_of_lt_of_le f130_3.lt ho133.2.1)
  have nn133_1_3 : b99 ≠ as_133 := Nat.ne_of_lt (Nat.lt_of_lt_of_le f130_4.lt ho133.2.1)
  have nn133_1_4 : b106 ≠ as_133 := Nat.ne_of_lt (Nat.lt_of_lt_of_le f130_5.lt ho133.2.1)
  have nn133_1_5 : b114 ≠ as_133 := Nat.ne_of_lt (Nat.lt_of_lt_of_le f130_6.lt ho133.2.1)
  have nn133_1_6 : b123 ≠ as_133 := Nat.ne_of_lt (Nat.lt_of_lt_of_le fn123_narrow.lt ho133.2.1)
  have bo133_2 : n0 ≤ am_133 := Nat.le_trans zz131 ho133.2.2.1
  have nn133_2_0 : b14 ≠ am_133 := Nat.ne_of_lt (Nat.lt_of_lt_of_le f130_1.lt ho133.2.2.1)
  have nn133_2_1 : b35 ≠ am_133 := Nat.ne_of_lt (Nat.lt_of_lt_of_le f130_2.lt ho133.2.2.1)
  have nn133_2_2 : b65 ≠ am_133 := Nat.ne_of_lt (Nat.lt_of_lt_of_le f130_3.lt ho133.2.2.1)
  have nn133_2_3 : b99 ≠ am_133 := Nat.ne_of_lt (Nat.lt_of_lt_of_le f130_4.lt ho133.2.2.1)
  have nn133_2_4 : b106 ≠ am_133 := Nat.ne_of_lt (Nat.lt_of_lt_of_le f130_5.lt ho133.2.2.1)
  have nn133_2_5 : b114 ≠ am_133 := Nat.ne_of_lt (Nat.lt_of_lt_of_le f130_6.lt ho133.2.2.1)
  have nn133_2_6 : b123 ≠ am_133 := Nat.ne_of_lt (Nat.lt_of_lt_of_le fn123_narrow.lt ho133.2.2.1)
  have bo133_3 : n0 ≤ ao_133 := Nat.le_trans zz131 ho133.2.2.2
  have nn133_3_0 : b14 ≠ ao_133 := Nat.ne_of_lt (Nat.lt_of_lt_of_le f130_1.lt ho133.2.2.2)
  have nn133_3_1 : b35 ≠ ao_133 := Nat.ne_of_lt (Nat.lt_of_lt_of_le f130_2.lt ho133.2.2.2)
  have nn133_3_2 : b65 ≠ ao_133 := Nat.ne_of_lt (Nat.lt_of_lt_of_le f130_3.lt ho133.2.2.2)
  have nn133_3_3 : b99 ≠ ao_133 := Nat.ne_of_lt (Nat.lt_of_lt_of_le f130_4.lt ho133.2.2.2)
  have nn133_3_4 : b106 ≠ ao_133 := Nat.ne_of_lt (Nat.lt_of_lt_of_le f130_5.lt ho133.2.2.2)
  have nn133_3_5 : b114 ≠ ao_133 := Nat.ne_of_lt (Nat.lt_of_lt_of_le f130_6.lt ho133.2.2.2)
  have nn133_3_6 : b123 ≠ ao_133 := Nat.ne_of_lt (Nat.lt_of_lt_of_le fn123_narrow.lt ho133.2.2.2)
  have pre136 : Go p.tables e below S0 T133 (mkF m 181 #[vI p0, vI p1, vI p2, vI p3, vI p4, vI p5, vI v3, vI v6, vI v9, vI v12, vR b14, vI v33, vR b35, vI v63, vR b65, vR b99, vR b106, vR b114, vR b123, .unset, .unset, .unset, .unset] []) := fun t k => pre133 t (by
    refine XS.astore X133.here hx rfl (hb hby at_179) rfl rfl (l' := #[vI p0, vI p1, vI p2, vI p3, vI p4, vI p5, vI v3, vI v6, vI v9, vI v12, vR b14, vI v33, vR b35, vI v63, vR b65, vR b99, vR b106, vR b114, vR b123, .unset, .unset, .unset, .unset]) rfl ?_
    exact k)
  obtain ⟨g0, g1, g2, g3, d01, d02, d12, d03, d13, d23⟩ := own_geo hb0 hb1 hb2 hb3 (hq133.1) (hq133.2)
  have hp := own_pat4 hw0 hw1 hw2 hw3 (hq133.1) (hq133.2)
  have hc2 : c2_133 = (0 : Int32) ∨ c2_133 = (1 : Int32) := by rcases hp with q | q | q <;> first | exact Or.inl q.1 | exact Or.inr q.1
  have hc3 : c3_133 = (0 : Int32) ∨ c3_133 = (1 : Int32) := by rcases hp with q | q | q <;> first | exact Or.inl q.2.1 | exact Or.inr q.2.1
  have hcs := own_c01 (s := v33) hs hc2 hc3
  have hW2 := (own_W2 hcs).1
  have X0 : own_V v3 (own_low p1 v3) := own_lv hw0
  have X1 : own_V v6 (own_low p2 v6) := own_lv hw1
  have X2 : own_V v9 (own_low p3 v9) := own_lv hw2
  have X3 : own_V v12 (own_low p4 v12) := own_lv hw3
  have pre137 : Go p.tables e below S0 T133 (mkF m 188 #[vI p0, vI p1, vI p2, vI p3, vI p4, vI p5, vI v3, vI v6, vI v9, vI v12, vR b14, vI v33, vR b35, vI v63, vR b65, vR b99, vR b106, vR b114, vR b123, .unset, .unset, .unset, .unset] [(.int (0 : Int32)), (.ref b99), (.ref b35), (.ref b123)]) := fun t k => pre136 t (by
    refine XS.aload X133.here hx rfl (hb hby at_181) rfl rfl ?_
    refine XS.aload X133.here hx rfl (hb hby at_183) rfl rfl ?_
    refine XS.aload X133.here hx rfl (hb hby at_185) rfl rfl ?_
    show Steps p.tables e below (T133.setTop (mkF m 187 #[vI p0, vI p1, vI p2, vI p3, vI p4, vI p5, vI v3, vI v6, vI v9, vI v12, vR b14, vI v33, vR b35, vI v63, vR b65, vR b99, vR b106, vR b114, vR b123, .unset, .unset, .unset, .unset] [(.ref b99), (.ref b35), (.ref b123)])) _
    refine XS.iconst X133.here hx rfl (hb hby at_187) ?_
    exact k)
  refine cps (A := ∃ (T147 : State) (Lo147 : List Loc) (h147 : Heap) (j191_a3_0_148 : Int64) (j191_a3_1_149 : Int64), (Stand p l e room_1 s m #[(.int p0), (.int p1), (.int p2), (.int p3), (.int p4), (.int p5)] below meth c T147 Lo147 11 42) ∧ (T147.heap = h147) ∧ (Fr n0 Lo147) ∧ (n0 ≤ h147.size) ∧ (Arv Z h147 b14 kA14 .int (4 : Int32) [(.int v3), (.int v6), (.int v9), (.int v12)] (.int (0 : Int32))) ∧ (Arv Z h147 b35 kA35 .int (4 : Int32) [(.int (own_low p1 v3)), (.int (own_low p2 v6)), (.int (own_low p3 v9)), (.int (own_low p4 v12))] (.int (0 : Int32))) ∧ (Arv Z h147 b65 kA65 .int (4 : Int32) [(.int (own_put v33 (0 : Int32) v63 (own_low p1 v3))), (.int (own_put v33 (1 : Int32) v63 (own_low p2 v6))), (.int (own_put v33 (2 : Int32) v63 (own_low p3 v9))), (.int (own_put v33 (3 : Int32) v63 (own_low p4 v12)))] (.int (0 : Int32))) ∧ (Arv Z h147 b99 kA99 .long (2 : Int32) [(.long j191_a3_0_148), (.long j191_a3_1_149)] (.long (0 : Int64))) ∧ (Arv Z h147 b106 kA106 .long (2 : Int32) [(.long (0 : Int64)), (.long (0 : Int64))] (.long (0 : Int64))) ∧ (Arv Z h147 b114 kA114 .int (4 : Int32) [(.int (0 : Int32)), (.int (0 : Int32)), (.int (0 : Int32)), (.int (0 : Int32))] (.int (0 : Int32))) ∧ (Exa Z h147 b123 "com/example/garantia/garantia/engine/StateLayout") ∧ (Fld Z h147 b123 "com/example/garantia/garantia/engine/StateLayout" "word" "[I" (.ref aw_133)) ∧ (Fld Z h147 b123 "com/example/garantia/garantia/engine/StateLayout" "shift" "[I" (.ref as_133)) ∧ (Fld Z h147 b123 "com/example/garantia/garantia/engine/StateLayout" "mask" "[J" (.ref am_133)) ∧ (Fld Z h147 b123 "com/example/garantia/garantia/engine/StateLayout" "others" "[J" (.ref ao_133)) ∧ (Fld Z h147 b123 "com/example/garantia/garantia/engine/StateLayout" "words" "I" (.int (c3_133 + (1 : Int32)))) ∧ (Arv Z h147 aw_133 kw_133 .int (4 : Int32) [(.int (0 : Int32)), (.int (0 : Int32)), (.int c2_133), (.int c3_133)] (.int (0 : Int32))) ∧ (Arv Z h147 as_133 ks_133 .int (4 : Int32) [(.int (0 : Int32)), (.int ((0 : Int32) + v3)), (.int u2_133), (.int u3_133)] (.int (0 : Int32))) ∧ (Arv Z h147 am_133 km_133 .long (4 : Int32) [(.long (((1 : Int64) <<< (v3 &&& 0x3f).toInt64) - (1 : Int64))), (.long (((1 : Int64) <<< (v6 &&& 0x3f).toInt64) - (1 : Int64))), (.long (((1 : Int64) <<< (v9 &&& 0x3f).toInt64) - (1 : Int64))), (.long (((1 : Int64) <<< (v12 &&& 0x3f).toInt64) - (1 : Int64)))] (.long (0 : Int64))) ∧ (Arv Z h147 ao_133 ko_133 .long (4 : Int32) [(.long (((((1 : Int64) <<< (v3 &&& 0x3f).toInt64) - (1 : Int64)) <<< ((0 : Int32) &&& 0x3f).toInt64) ^^^ (-1 : Int64))), (.long (((((1 : Int64) <<< (v6 &&& 0x3f).toInt64) - (1 : Int64)) <<< (((0 : Int32) + v3) &&& 0x3f).toInt64) ^^^ (-1 : Int64))), (.long (((((1 : Int64) <<< (v9 &&& 0x3f).toInt64) - (1 : Int64)) <<< (u2_133 &&& 0x3f).toInt64) ^^^ (-1 : Int64))), (.long (((((1 : Int64) <<< (v12 &&& 0x3f).toInt64) - (1 : Int64)) <<< (u3_133 &&& 0x3f).toInt64) ^^^ (-1 : Int64)))] (.long (0 : Int64))) ∧ (own_H ([j191_a3_0_148, j191_a3_1_149].getD ((0 : Int32)).toNatClampNeg 0) (0 : Int32) v3 (own_low p1 v3) ∧ own_H ([j191_a3_0_148, j191_a3_1_149].getD ((0 : Int32)).toNatClampNeg 0) ((0 : Int32) + v3) v6 (own_low p2 v6) ∧ own_H ([j191_a3_0_148, j191_a3_1_149].getD (c2_133).toNatClampNeg 0) u2_133 v9 (own_low p3 v9) ∧ own_H ([j191_a3_0_148, j191_a3_1_149].getD (c3_133).toNatClampNeg 0) u3_133 v12 (own_low p4 v12)) ∧ (Go p.tables e below S0 T147 (mkF m 191 #[vI p0, vI p1, vI p2, vI p3, vI p4, vI p5, vI v3, vI v6, vI v9, vI v12, vR b14, vI v33, vR b35, vI v63, vR b65, vR b99, vR b106, vR b114, vR b123, .unset, .unset, .unset, .unset] []))) (fun tail152 => ?_) ?_
  · skip
    rcases hp with ⟨h2, h3, -⟩ | ⟨h2, h3, -⟩ | ⟨h2, h3, -⟩
    · skip
      have Vl : Arv Z T133.heap aw_133 kw_133 .int (4 : Int32) [(.int (0 : Int32)), (.int (0 : Int32)), (.int (0 : Int32)), (.int (0 : Int32))] (.int (0 : Int32)) := by
        have q := nf133_6
        rw [h2, h3] at q
        exact q
      have Fl : Fld Z T133.heap b123 "com/example/garantia/garantia/engine/StateLayout" "words" "I" (.int (1 : Int32)) := by
        have q := nf133_5
        rw [h3] at q
        exact q
      obtain ⟨cq138, kq138, qa138, qb138, qc138⟩ := isOf hZ rfl nf133_0
      obtain ⟨_, _, ⟨T138, qL138, qk138, qn138⟩, -, X138, ⟨Lc138, hQ138, ql138, qy138, qz138⟩, st138⟩ := X133.virtualBack hx (y := (⟨"com/example/garantia/garantia/engine/StateLayout", "pack", "([I[JI)V"⟩ : MethodName)) (z := (⟨"com/example/garantia/garantia/engine/StateLayout", "pack", "([I[JI)V"⟩ : MethodName)) hown (mvT hZ (hw _ (List.mem_of_getElem? (i := 31) rfl))) (mvT hZ (hw _ (List.mem_of_getElem? (i := 32) rfl))) (notFace_of_selects (args := #[]) (mvT hZ (hw _ (List.mem_of_getElem? (i := 34) rfl)))) (mvT hZ (hw _ (List.mem_of_getElem? (i := 34) rfl))) (mvT hZ (hw _ (List.mem_of_getElem? (i := 33) rfl))) (by decide) (backOf (W := 0) (rm5_0000 l Z A0 hw [] b123 b35 b99 (0 : Int32) aw_133 as_133 kw_133 ks_133 kA35 kA99 (0 : Int32) ((0 : Int32) + v3) u2_133 u3_133 (own_low p1 v3) (own_low p2 v6) (own_low p3 v9) (own_low p4 v12) (0 : Int64) (0 : Int64) T133.heap n0 zz135 Fl nf133_1 nf133_2 Vl nf133_7 f134_2 f134_4 (Ne.symm ne127) (Ne.symm nn133_0_3) (Ne.symm nn133_1_3) ne101 bo99 (by decide)) hZ (hw _ (List.mem_of_getElem? (i := 35) rfl)) (hw _ (List.mem_of_getElem? (i := 11) rfl)) (by decide) (by decide)) qa138 qc138 (g := (mkF m 188 #[vI p0, vI p1, vI p2, vI p3, vI p4, vI p5, vI v3, vI v6, vI v9, vI v12, vR b14, vI v33, vR b35, vI v63, vR b65, vR b99, vR b106, vR b114, vR b123, .unset, .unset, .unset, .unset] [(.int (0 : Int32)), (.ref b99), (.ref b35), (.ref b123)])) rfl (by rw [hml]; rfl) (Steps.refl _) (argsL := [(.ref b35), (.ref b99), (.int (0 : Int32))]) (rest := []) (lenOf pd_2 rfl) rfl (by show 2 * 0 + _ ≤ _; exact Nat.le_of_eq rfl) (hb hby at_188) (fun _ _ => ⟨rfl, rfl, (by decide : 11 + 0 ≤ _), (by decide : 42 + 0 ≤ _)⟩)
      dsimp only [Pt.U, Pt.locs, Pt.cells, Pt.slots] at X138 ql138 qy138 qz138 st138 hQ138
      replace X138 := X138.more (Nat.le_of_eq qy138) (Nat.le_of_eq qz138)
      obtain ⟨rfl, Nq138, z138_0, z138_1, hZ138, Kq138, nf138_0⟩ := hQ138
      have N138 : Fr n0 qL138 := by rw [ql138]; exact Fr.app N133 Nq138
      have pre138 : Go p.tables e below S0 T138 (mkF m 191 #[vI p0, vI p1, vI p2, vI p3, vI p4, vI p5, vI v3, vI v6, vI v9, vI v12, vR b14, vI v33, vR b35, vI v63, vR b65, vR b99, vR b106, vR b114, vR b123, .unset, .unset, .unset, .unset] []) := fun t k => pre137 t (st138.trans k)
      have f139_1 := f134_1.keep Kq138 (ninS ne100 nin0)
      have f139_2 := f134_2.keep Kq138 (ninS ne101 nin0)
      have f139_3 := f134_3.keep Kq138 (ninS ne102 nin0)
      have f139_4 := f134_5.keep Kq138 (ninS (Ne.symm ne110) nin0)
      have f139_5 := f134_6.keep Kq138 (ninS (Ne.symm ne118) nin0)
      have f139_6 := Exa.keep nf133_0 Kq138
      have f139_7 := Fld.keep nf133_1 Kq138 (ninS (Ne.symm ne127) nin0)
      have f139_8 := Fld.keep nf133_2 Kq138 (ninS (Ne.symm ne127) nin0)
      have f139_9 := Fld.keep nf133_3 Kq138 (ninS (Ne.symm ne127) nin0)
      have f139_10 := Fld.keep nf133_4 Kq138 (ninS (Ne.symm ne127) nin0)
      have f139_11 := Fld.keep nf133_5 Kq138 (ninS (Ne.symm ne127) nin0)
      have f139_12 := nf133_6.keep Kq138 (ninS (Ne.symm nn133_0_3) nin0)
      have f139_13 := nf133_7.keep Kq138 (ninS (Ne.symm nn133_1_3) nin0)
      have f139_14 := nf133_8.keep Kq138 (ninS (Ne.symm nn133_2_3) nin0)
      have f139_15 := nf133_9.keep Kq138 (ninS (Ne.symm nn133_3_3) nin0)
      have zz140 : n0 ≤ T138.heap.size := Nat.le_trans zz135 Kq138.1
      exact tail152 ⟨T138, _, T138.heap, z138_0, z138_1, X138.more (by decide) (by decide), rfl, N138, zz140, f139_1, f139_2, f139_3, nf138_0, f139_4, f139_5, f139_6, f139_7, f139_8, f139_9, f139_10, f139_11, f139_12, f139_13, f139_14, f139_15, (by exact own_pk0 h2 h3 g0 g1 g2 g3 d01 d02 d12 d03 d13 d23 X0 X1 X2 X3 hZ138), pre138⟩
    · skip
      have Vl : Arv Z T133.heap aw_133 kw_133 .int (4 : Int32) [(.int (0 : Int32)), (.int (0 : Int32)), (.int (0 : Int32)), (.int (1 : Int32))] (.int (0 : Int32)) := by
        have q := nf133_6
        rw [h2, h3] at q
        exact q
      have Fl : Fld Z T133.heap b123 "com/example/garantia/garantia/engine/StateLayout" "words" "I" (.int (2 : Int32)) := by
        have q := nf133_5
        rw [h3] at q
        exact q
      obtain ⟨cq141, kq141, qa141, qb141, qc141⟩ := isOf hZ rfl nf133_0
      obtain ⟨_, _, ⟨T141, qL141, qk141, qn141⟩, -, X141, ⟨Lc141, hQ141, ql141, qy141, qz141⟩, st141⟩ := X133.virtualBack hx (y := (⟨"com/example/garantia/garantia/engine/StateLayout", "pack", "([I[JI)V"⟩ : MethodName)) (z := (⟨"com/example/garantia/garantia/engine/StateLayout", "pack", "([I[JI)V"⟩ : MethodName)) hown (mvT hZ (hw _ (List.mem_of_getElem? (i := 31) rfl))) (mvT hZ (hw _ (List.mem_of_getElem? (i := 32) rfl))) (notFace_of_selects (args := #[]) (mvT hZ (hw _ (List.mem_of_getElem? (i := 34) rfl)))) (mvT hZ (hw _ (List.mem_of_getElem? (i := 34) rfl))) (mvT hZ (hw _ (List.mem_of_getElem? (i := 33) rfl))) (by decide) (backOf (W := 0) (rm5_0001 l Z A0 hw [] b123 b35 b99 (0 : Int32) aw_133 as_133 kw_133 ks_133 kA35 kA99 (0 : Int32) ((0 : Int32) + v3) u2_133 u3_133 (own_low p1 v3) (own_low p2 v6) (own_low p3 v9) (own_low p4 v12) (0 : Int64) (0 : Int64) T133.heap n0 zz135 Fl nf133_1 nf133_2 Vl nf133_7 f134_2 f134_4 (Ne.symm ne127) (Ne.symm nn133_0_3) (Ne.symm nn133_1_3) ne101 bo99 (by decide) (by decide)) hZ (hw _ (List.mem_of_getElem? (i := 35) rfl)) (hw _ (List.mem_of_getElem? (i := 11) rfl)) (by decide) (by decide)) qa141 qc141 (g := (mkF m 188 #[vI p0, vI p1, vI p2, vI p3, vI p4, vI p5, vI v3, vI v6, vI v9, vI v12, vR b14, vI v33, vR b35, vI v63, vR b65, vR b99, vR b106, vR b114, vR b123, .unset, .unset, .unset, .unset] [(.int (0 : Int32)), (.ref b99), (.ref b35), (.ref b123)])) rfl (by rw [hml]; rfl) (Steps.refl _) (argsL := [(.ref b35), (.ref b99), (.int (0 : Int32))]) (rest := []) (lenOf pd_2 rfl) rfl (by show 2 * 0 + _ ≤ _; exact Nat.le_of_eq rfl) (hb hby at_188) (fun _ _ => ⟨rfl, rfl, (by decide : 11 + 0 ≤ _), (by decide : 42 + 0 ≤ _)⟩)
      dsimp only [Pt.U, Pt.locs, Pt.cells, Pt.slots] at X141 ql141 qy141 qz141 st141 hQ141
      replace X141 := X141.more (Nat.le_of_eq qy141) (Nat.le_of_eq qz141)
      obtain ⟨rfl, Nq141, z141_0, z141_1, hZ141, Kq141, nf141_0⟩ := hQ141
      have N141 : Fr n0 qL141 := by rw [ql141]; exact Fr.app N133 Nq141
      have pre141 : Go p.tables e below S0 T141 (mkF m 191 #[vI p0, vI p1, vI p2, vI p3, vI p4, vI p5, vI v3, vI v6, vI v9, vI v12, vR b14, vI v33, vR b35, vI v63, vR b65, vR b99, vR b106, vR b114, vR b123, .unset, .unset, .unset, .unset] []) := fun t k => pre137 t (st141.trans k)
      have f142_1 := f134_1.keep Kq141 (ninS ne100 nin0)
      have f142_2 := f134_2.keep Kq141 (ninS ne101 nin0)
      have f142_3 := f134_3.keep Kq141 (ninS ne102 nin0)
      have f142_4 := f134_5.keep Kq141 (ninS (Ne.symm ne110) nin0)
      have f142_5 := f134_6.keep Kq141 (ninS (Ne.symm ne118) nin0)
      have f142_6 := Exa.keep nf133_0 Kq141
      have f142_7 := Fld.keep nf133_1 Kq141 (ninS (Ne.symm ne127) nin0)
      have f142_8 := Fld.keep nf133_2 Kq141 (ninS (Ne.symm ne127) nin0)
      have f142_9 := Fld.keep nf133_3 Kq141 (ninS (Ne.symm ne127) nin0)
      have f142_10 := Fld.keep nf133_4 Kq141 (ninS (Ne.symm ne127) nin0)
      have f142_11 := Fld.keep nf133_5 Kq141 (ninS (Ne.symm ne127) nin0)
      have f142_12 := nf133_6.keep Kq141 (ninS (Ne.symm nn133_0_3) nin0)
      have f142_13 := nf133_7.keep Kq141 (ninS (Ne.symm nn133_1_3) nin0)
      have f142_14 := nf133_8.keep Kq141 (ninS (Ne.symm nn133_2_3) nin0)
      have f142_15 := nf133_9.keep Kq141 (ninS (Ne.symm nn133_3_3) nin0)
      have zz143 : n0 ≤ T141.heap.size := Nat.le_trans zz135 Kq141.1
      exact tail152 ⟨T141, _, T141.heap, z141_0, z141_1, X141.more (by decide) (by decide), rfl, N141, zz143, f142_1, f142_2, f142_3, nf141_0, f142_4, f142_5, f142_6, f142_7, f142_8, f142_9, f142_10, f142_11, f142_12, f142_13, f142_14, f142_15, (by exact own_pk1 h2 h3 g0 g1 g2 g3 d01 d02 d12 d03 d13 d23 X0 X1 X2 X3 hZ141), pre141⟩
    · skip
      have Vl : Arv Z T133.heap aw_133 kw_133 .int (4 : Int32) [(.int (0 : Int32)), (.int (0 : Int32)), (.int (1 : Int32)), (.int (1 : Int32))] (.int (0 : Int32)) := by
        have q := nf133_6
        rw [h2, h3] at q
        exact q
      have Fl : Fld Z T133.heap b123 "com/example/garantia/garantia/engine/StateLayout" "words" "I" (.int (2 : Int32)) := by
        have q := nf133_5
        rw [h3] at q
        exact q
      obtain ⟨cq144, kq144, qa144, qb144, qc144⟩ := isOf hZ rfl nf133_0
      obtain ⟨_, _, ⟨T144, qL144, qk144, qn144⟩, -, X144, ⟨Lc144, hQ144, ql144, qy144, qz144⟩, st144⟩ := X133.virtualBack hx (y := (⟨"com/example/garantia/garantia/engine/StateLayout", "pack", "([I[JI)V"⟩ : MethodName)) (z := (⟨"com/example/garantia/garantia/engine/StateLayout", "pack", "([I[JI)V"⟩ : MethodName)) hown (mvT hZ (hw _ (List.mem_of_getElem? (i := 31) rfl))) (mvT hZ (hw _ (List.mem_of_getElem? (i := 32) rfl))) (notFace_of_selects (args := #[]) (mvT hZ (hw _ (List.mem_of_getElem? (i := 34) rfl)))) (mvT hZ (hw _ (List.mem_of_getElem? (i := 34) rfl))) (mvT hZ (hw _ (List.mem_of_getElem? (i := 33) rfl))) (by decide) (backOf (W := 0) (rm5_0011 l Z A0 hw [] b123 b35 b99 (0 : Int32) aw_133 as_133 kw_133 ks_133 kA35 kA99 (0 : Int32) ((0 : Int32) + v3) u2_133 u3_133 (own_low p1 v3) (own_low p2 v6) (own_low p3 v9) (own_low p4 v12) (0 : Int64) (0 : Int64) T133.heap n0 zz135 Fl nf133_1 nf133_2 Vl nf133_7 f134_2 f134_4 (Ne.symm ne127) (Ne.symm nn133_0_3) (Ne.symm nn133_1_3) ne101 bo99 (by decide) (by decide)) hZ (hw _ (List.mem_of_getElem? (i := 35) rfl)) (hw _ (List.mem_of_getElem? (i := 11) rfl)) (by decide) (by decide)) qa144 qc144 (g := (mkF m 188 #[vI p0, vI p1, vI p2, vI p3, vI p4, vI p5, vI v3, vI v6, vI v9, vI v12, vR b14, vI v33, vR b35, vI v63, vR b65, vR b99, vR b106, vR b114, vR b123, .unset, .unset, .unset, .unset] [(.int (0 : Int32)), (.ref b99), (.ref b35), (.ref b123)])) rfl (by rw [hml]; rfl) (Steps.refl _) (argsL := [(.ref b35), (.ref b99), (.int (0 : Int32))]) (rest := []) (lenOf pd_2 rfl) rfl (by show 2 * 0 + _ ≤ _; exact Nat.le_of_eq rfl) (hb hby at_188) (fun _ _ => ⟨rfl, rfl, (by decide : 11 + 0 ≤ _), (by decide : 42 + 0 ≤ _)⟩)
      dsimp only [Pt.U, Pt.locs, Pt.cells, Pt.slots] at X144 ql144 qy144 qz144 st144 hQ144
      replace X144 := X144.more (Nat.le_of_eq qy144) (Nat.le_of_eq qz144)
      obtain ⟨rfl, Nq144, z144_0, z144_1, hZ144, Kq144, nf144_0⟩ := hQ144
      have N144 : Fr n0 qL144 := by rw [ql144]; exact Fr.app N133 Nq144
      have pre144 : Go p.tables e below S0 T144 (mkF m 191 #[vI p0, vI p1, vI p2, vI p3, vI p4, vI p5, vI v3, vI v6, vI v9, vI v12, vR b14, vI v33, vR b35, vI v63, vR b65, vR b99, vR b106, vR b114, vR b123, .unset, .unset, .unset, .unset] []) := fun t k => pre137 t (st144.trans k)
      have f145_1 := f134_1.keep Kq144 (ninS ne100 nin0)
      have f145_2 := f134_2.keep Kq144 (ninS ne101 nin0)
      have f145_3 := f134_3.keep Kq144 (ninS ne102 nin0)
      have f145_4 := f134_5.keep Kq144 (ninS (Ne.symm ne110) nin0)
      have f145_5 := f134_6.keep Kq144 (ninS (Ne.symm ne118) nin0)
      have f145_6 := Exa.keep nf133_0 Kq144
      have f145_7 := Fld.keep nf133_1 Kq144 (ninS (Ne.symm ne127) nin0)
      have f145_8 := Fld.keep nf133_2 Kq144 (ninS (Ne.symm ne127) nin0)
      have f145_9 := Fld.keep nf133_3 Kq144 (ninS (Ne.symm ne127) nin0)
      have f145_10 := Fld.keep nf133_4 Kq144 (ninS (Ne.symm ne127) nin0)
      have f145_11 := Fld.keep nf133_5 Kq144 (ninS (Ne.symm ne127) nin0)
      have f145_12 := nf133_6.keep Kq144 (ninS (Ne.symm nn133_0_3) nin0)
      have f145_13 := nf133_7.keep Kq144 (ninS (Ne.symm nn133_1_3) nin0)
      have f145_14 := nf133_8.keep Kq144 (ninS (Ne.symm nn133_2_3) nin0)
      have f145_15 := nf133_9.keep Kq144 (ninS (Ne.symm nn133_3_3) nin0)
      have zz146 : n0 ≤ T144.heap.size := Nat.le_trans zz135 Kq144.1
      exact tail152 ⟨T144, _, T144.heap, z144_0, z144_1, X144.more (by decide) (by decide), rfl, N144, zz146, f145_1, f145_2, f145_3, nf144_0, f145_4, f145_5, f145_6, f145_7, f145_8, f145_9, f145_10, f145_11, f145_12, f145_13, f145_14, f145_15, (by exact own_pk2 h2 h3 g0 g1 g2 g3 d01 d02 d12 d03 d13 d23 X0 X1 X2 X3 hZ144), pre144⟩
  rintro ⟨T147, Lo147, h147, j191_a3_0_148, j191_a3_1_149, X147, e147, N147, zz147, f147_0, f147_1, f147_2, f147_3, f147_4, f147_5, f147_6, f147_7, f147_8, f147_9, f147_10, f147_11, f147_12, f147_13, f147_14, f147_15, hj191_150, pre151⟩
  have pre153 : Go p.tables e below S0 T147 (mkF m 197 #[vI p0, vI p1, vI p2, vI p3, vI p4, vI p5, vI v3, vI v6, vI v9, vI v12, vR b14, vI v33, vR b35, vI v63, vR b65, vR b99, vR b106, vR b114, vR b123, .unset, .unset, .unset, .unset] [(.int (0 : Int32)), (.ref b99), (.int (0 : Int32)), (.ref b106)]) := fun t k => pre151 t (by
    refine XS.aload X147.here hx rfl (hb hby at_191) rfl rfl ?_
    refine XS.iconst X147.here hx rfl (hb hby at_193) ?_
    refine XS.aload X147.here hx rfl (hb hby at_194) rfl rfl ?_
    show Steps p.tables e below (T147.setTop (mkF m 196 #[vI p0, vI p1, vI p2, vI p3, vI p4, vI p5, vI v3, vI v6, vI v9, vI v12, vR b14, vI v33, vR b35, vI v63, vR b65, vR b99, vR b106, vR b114, vR b123, .unset, .unset, .unset, .unset] [(.ref b99), (.int (0 : Int32)), (.ref b106)])) _
    refine XS.iconst X147.here hx rfl (hb hby at_196) ?_
    exact k)
  obtain ⟨cl154, Ar154, q154, S154, M154, H154, G154⟩ := id f147_3
  have in154 : ¬ ((0 : Int32) < 0 ∨ cl154.slots.size ≤ ((0 : Int32)).toNatClampNeg) := inb_of S154 ⟨by decide, by decide⟩
  have at154 : cl154.slots[((0 : Int32)).toNatClampNeg]? = some (.long j191_a3_0_148) := H154.at in154 rfl
  have pre155 : Go p.tables e below S0 T147 (mkF m 198 #[vI p0, vI p1, vI p2, vI p3, vI p4, vI p5, vI v3, vI v6, vI v9, vI v12, vR b14, vI v33, vR b35, vI v63, vR b65, vR b99, vR b106, vR b114, vR b123, .unset, .unset, .unset, .unset] [(.long j191_a3_0_148), (.int (0 : Int32)), (.ref b106)]) := fun t k => pre153 t (by
    refine X147.laload hx (j := (0 : Int32)) (v := (.long j191_a3_0_148)) (by rw [e147]; exact Ar154.1) (State.isArrayOf_alike hZ.alike Ar154.2.1) Ar154.2.2 in154 at154 (g := (mkF m 197 #[vI p0, vI p1, vI p2, vI p3, vI p4, vI p5, vI v3, vI v6, vI v9, vI v12, vR b14, vI v33, vR b35, vI v63, vR b65, vR b99, vR b106, vR b114, vR b123, .unset, .unset, .unset, .unset] [(.int (0 : Int32)), (.ref b99), (.int (0 : Int32)), (.ref b106)])) rfl rfl (hb hby at_197) _ ?_
    exact k)
  obtain ⟨cl156, Ar156, q156, S156, M156, H156, G156⟩ := id f147_4
  have in156 : ¬ ((0 : Int32) < 0 ∨ cl156.slots.size ≤ ((0 : Int32)).toNatClampNeg) := inb_of S156 ⟨by decide, by decide⟩
  obtain ⟨T156, h156, X156, e156, W156, st156⟩ := stJ X147 hx hZ e147 Ar156 (j := (0 : Int32)) in156 (g := (mkF m 198 #[vI p0, vI p1, vI p2, vI p3, vI p4, vI p5, vI v3, vI v6, vI v9, vI v12, vR b14, vI v33, vR b35, vI v63, vR b65, vR b99, vR b106, vR b114, vR b123, .unset, .unset, .unset, .unset] [(.long j191_a3_0_148), (.int (0 : Int32)), (.ref b106)])) rfl rfl (hb hby at_198)
  have pre156 : Go p.tables e below S0 T156 (mkF m 199 #[vI p0, vI p1, vI p2, vI p3, vI p4, vI p5, vI v3, vI v6, vI v9, vI v12, vR b14, vI v33, vR b35, vI v63, vR b65, vR b99, vR b106, vR b114, vR b123, .unset, .unset, .unset, .unset] []) := fun t k => pre155 t (st156 t k)
  obtain ⟨lo156, N156, X156⟩ : ∃ lo, Fr n0 lo ∧ Stand p l e room_1 s m #[(.int p0), (.int p1), (.int p2), (.int p3), (.int p4), (.int p5)] below meth c T156 lo 11 42 := ⟨_, Fr.snoc X156 N147 bo106, X156⟩
  have av156 : Arv Z h156 b106 kA106 .long (2 : Int32) [(.long j191_a3_0_148), (.long (0 : Int64))] (.long (0 : Int64)) := Arv.set Ar156 q156 S156 M156 H156 G156 rfl W156 0 rfl (Nat.le_of_ble_eq_true rfl)
  have f157_1 := f147_0.other W156 ne107
  have f157_2 := f147_1.other W156 ne108
  have f157_3 := f147_2.other W156 ne109
  have f157_4 := f147_3.other W156 ne110
  have f157_5 := f147_5.other W156 (Ne.symm ne119)
  have f157_6 := Exa.wr W156 f147_6
  have f157_7 := Fld.other W156 f147_7 (Or.inl (Ne.symm ne128))
  have f157_8 := Fld.other W156 f147_8 (Or.inl (Ne.symm ne128))
  have f157_9 := Fld.other W156 f147_9 (Or.inl (Ne.symm ne128))
  have f157_10 := Fld.other W156 f147_10 (Or.inl (Ne.symm ne128))
  have f157_11 := Fld.other W156 f147_11 (Or.inl (Ne.symm ne128))
  have f157_12 := f147_12.other W156 (Ne.symm nn133_0_4)
  have f157_13 := f147_13.other W156 (Ne.symm nn133_1_4)
  have f157_14 := f147_14.other W156 (Ne.symm nn133_2_4)
  have f157_15 := f147_15.other W156 (Ne.symm nn133_3_4)
  have zz158 : n0 ≤ h156.size := Nat.le_trans zz147 (Keep.of_wr W156).1
  have pre159 : Go p.tables e below S0 T156 (mkF m 205 #[vI p0, vI p1, vI p2, vI p3, vI p4, vI p5, vI v3, vI v6, vI v9, vI v12, vR b14, vI v33, vR b35, vI v63, vR b65, vR b99, vR b106, vR b114, vR b123, .unset, .unset, .unset, .unset] [(.int (1 : Int32)), (.ref b99), (.int (1 : Int32)), (.ref b106)]) := fun t k => pre156 t (by
    refine XS.aload X156.here hx rfl (hb hby at_199) rfl rfl ?_
    refine XS.iconst X156.here hx rfl (hb hby at_201) ?_
    refine XS.aload X156.here hx rfl (hb hby at_202) rfl rfl ?_
    show Steps p.tables e below (T156.setTop (mkF m 204 #[vI p0, vI p1, vI p2, vI p3, vI p4, vI p5, vI v3, vI v6, vI v9, vI v12, vR b14, vI v33, vR b35, vI v63, vR b65, vR b99, vR b106, vR b114, vR b123, .unset, .unset, .unset, .unset] [(.ref b99), (.int (1 : Int32)), (.ref b106)])) _
    refine XS.iconst X156.here hx rfl (hb hby at_204) ?_
    exact k)
  obtain ⟨cl160, Ar160, q160, S160, M160, H160, G160⟩ := id f157_4
  have in160 : ¬ ((1 : Int32) < 0 ∨ cl160.slots.size ≤ ((1 : Int32)).toNatClampNeg) := inb_of S160 ⟨by decide, by decide⟩
  have at160 : cl160.slots[((1 : Int32)).toNatClampNeg]? = some (.long j191_a3_1_149) := H160.at in160 rfl
  have pre161 : Go p.tables e below S0 T156 (mkF m 206 #[vI p0, vI p1, vI p2, vI p3, vI p4, vI p5, vI v3, vI v6, vI v9, vI v12, vR b14, vI v33, vR b35, vI v63, vR b65, vR b99, vR b106, vR b114, vR b123, .unset, .unset, .unset, .unset] [(.long j191_a3_1_149), (.int (1 : Int32)), (.ref b106)]) := fun t k => pre159 t (by
    refine X156.laload hx (j := (1 : Int32)) (v := (.long j191_a3_1_149)) (by rw [e156]; exact Ar160.1) (State.isArrayOf_alike hZ.alike Ar160.2.1) Ar160.2.2 in160 at160 (g := (mkF m 205 #[vI p0, vI p1, vI p2, vI p3, vI p4, vI p5, vI v3, vI v6, vI v9, vI v12, vR b14, vI v33, vR b35, vI v63, vR b65, vR b99, vR b106, vR b114, vR b123, .unset, .unset, .unset, .unset] [(.int (1 : Int32)), (.ref b99), (.int (1 : Int32)), (.ref b106)])) rfl rfl (hb hby at_205) _ ?_
    exact k)
  obtain ⟨cl162, Ar162, q162, S162, M162, H162, G162⟩ := id av156
  have in162 : ¬ ((1 : Int32) < 0 ∨ cl162.slots.size ≤ ((1 : Int32)).toNatClampNeg) := inb_of S162 ⟨by decide, by decide⟩
  obtain ⟨T162, h162, X162, e162, W162, st162⟩ := stJ X156 hx hZ e156 Ar162 (j := (1 : Int32)) in162 (g := (mkF m 206 #[vI p0, vI p1, vI p2, vI p3, vI p4, vI p5, vI v3, vI v6, vI v9, vI v12, vR b14, vI v33, vR b35, vI v63, vR b65, vR b99, vR b106, vR b114, vR b123, .unset, .unset, .unset, .unset] [(.long j191_a3_1_149), (.int (1 : Int32)), (.ref b106)])) rfl rfl (hb hby at_206)
  have pre162 : Go p.tables e below S0 T162 (mkF m 207 #[vI p0, vI p1, vI p2, vI p3, vI p4, vI p5, vI v3, vI v6, vI v9, vI v12, vR b14, vI v33, vR b35, vI v63, vR b65, vR b99, vR b106, vR b114, vR b123, .unset, .unset, .unset, .unset] []) := fun t k => pre161 t (st162 t k)
  obtain ⟨lo162, N162, X162⟩ : ∃ lo, Fr n0 lo ∧ Stand p l e room_1 s m #[(.int p0), (.int p1), (.int p2), (.int p3), (.int p4), (.int p5)] below meth c T162 lo 11 42 := ⟨_, Fr.snoc X162 N156 bo106, X162⟩
  have av162 : Arv Z h162 b106 kA106 .long (2 : Int32) [(.long j191_a3_0_148), (.long j191_a3_1_149)] (.long (0 : Int64)) := Arv.set Ar162 q162 S162 M162 H162 G162 rfl W162 1 rfl (Nat.le_of_ble_eq_true rfl)
  have f163_1 := f157_1.other W162 ne107
  have f163_2 := f157_2.other W162 ne108
  have f163_3 := f157_3.other W162 ne109
  have f163_4 := f157_4.other W162 ne110
  have f163_5 := f157_5.other W162 (Ne.symm ne119)
  have f163_6 := Exa.wr W162 f157_6
  have f163_7 := Fld.other W162 f157_7 (Or.inl (Ne.symm ne128))
  have f163_8 := Fld.other W162 f157_8 (Or.inl (Ne.symm ne128))
  have f163_9 := Fld.other W162 f157_9 (Or.inl (Ne.symm ne128))
  have f163_10 := Fld.other W162 f157_10 (Or.inl (Ne.symm ne128))
  have f163_11 := Fld.other W162 f157_11 (Or.inl (Ne.symm ne128))
  have f163_12 := f157_12.other W162 (Ne.symm nn133_0_4)
  have f163_13 := f157_13.other W162 (Ne.symm nn133_1_4)
  have f163_14 := f157_14.other W162 (Ne.symm nn133_2_4)
  have f163_15 := f157_15.other W162 (Ne.symm nn133_3_4)
  have zz164 : n0 ≤ h162.size := Nat.le_trans zz158 (Keep.of_wr W162).1
  have pre165 : Go p.tables e below S0 T162 (mkF m 211 #[vI p0, vI p1, vI p2, vI p3, vI p4, vI p5, vI v3, vI v6, vI v9, vI v12, vR b14, vI v33, vR b35, vI v63, vR b65, vR b99, vR b106, vR b114, vR b123, .unset, .unset, .unset, .unset] [(.int v33), (.ref b123)]) := fun t k => pre162 t (by
    refine XS.aload X162.here hx rfl (hb hby at_207) rfl rfl ?_
    refine XS.iload X162.here hx rfl (hb hby at_209) rfl ?_
    exact k)
  obtain ⟨cq166, kq166, qa166, qb166, qc166⟩ := isOf hZ e162 f163_6
  obtain ⟨_, _, ⟨T166, qL166, qk166, qn166⟩, -, X166, ⟨Lc166, hQ166, ql166, qy166, qz166⟩, st166⟩ := X162.virtualBack hx (y := (⟨"com/example/garantia/garantia/engine/StateLayout", "word", "(I)I"⟩ : MethodName)) (z := (⟨"com/example/garantia/garantia/engine/StateLayout", "word", "(I)I"⟩ : MethodName)) hown (mvT hZ (hw _ (List.mem_of_getElem? (i := 36) rfl))) (mvT hZ (hw _ (List.mem_of_getElem? (i := 37) rfl))) (notFace_of_selects (args := #[]) (mvT hZ (hw _ (List.mem_of_getElem? (i := 39) rfl)))) (mvT hZ (hw _ (List.mem_of_getElem? (i := 39) rfl))) (mvT hZ (hw _ (List.mem_of_getElem? (i := 38) rfl))) (by decide) (backOf (W := 0) (rm6 l Z A0 hw [] b123 v33 aw_133 kw_133 (0 : Int32) (0 : Int32) c2_133 c3_133 h162 n0 zz164 f163_7 f163_12 hs4) hZ (hw _ (List.mem_of_getElem? (i := 40) rfl)) (hw _ (List.mem_of_getElem? (i := 11) rfl)) (by decide) (by decide)) qa166 qc166 (g := (mkF m 211 #[vI p0, vI p1, vI p2, vI p3, vI p4, vI p5, vI v3, vI v6, vI v9, vI v12, vR b14, vI v33, vR b35, vI v63, vR b65, vR b99, vR b106, vR b114, vR b123, .unset, .unset, .unset, .unset] [(.int v33), (.ref b123)])) rfl (by rw [hml]; rfl) (Steps.refl _) (argsL := [(.int v33)]) (rest := []) (lenOf pd_3 rfl) rfl (by show 2 * 0 + _ ≤ _; exact Nat.le_of_eq rfl) (hb hby at_211) (fun _ _ => ⟨rfl, e162, (by decide : 11 + 0 ≤ _), (by decide : 42 + 0 ≤ _)⟩)
  dsimp only [Pt.U, Pt.locs, Pt.cells, Pt.slots] at X166 ql166 qy166 qz166 st166 hQ166
  replace X166 := X166.more (Nat.le_of_eq qy166) (Nat.le_of_eq qz166)
  obtain ⟨rfl, Nq166, eq166⟩ := hQ166
  have N166 : Fr n0 qL166 := by rw [ql166]; exact Fr.app N162 Nq166
  have pre166 : Go p.tables e below S0 T166 (mkF m 214 #[vI p0, vI p1, vI p2, vI p3, vI p4, vI p5, vI v3, vI v6, vI v9, vI v12, vR b14, vI v33, vR b35, vI v63, vR b65, vR b99, vR b106, vR b114, vR b123, .unset, .unset, .unset, .unset] [(.int ([(0 : Int32), (0 : Int32), c2_133, c3_133].getD (v33).toNatClampNeg 0))]) := fun t k => pre165 t (st166.trans k)
  obtain ⟨v167, hv167, pre167⟩ : ∃ z : Int32, z = ([(0 : Int32), (0 : Int32), c2_133, c3_133].getD (v33).toNatClampNeg 0) ∧ Go p.tables e below S0 T166 (mkF m 216 #[vI p0, vI p1, vI p2, vI p3, vI p4, vI p5, vI v3, vI v6, vI v9, vI v12, vR b14, vI v33, vR b35, vI v63, vR b65, vR b99, vR b106, vR b114, vR b123, vI z, .unset, .unset, .unset] []) := ⟨_, rfl, fun t k => pre166 t (by
    refine XS.istore X166.here hx rfl (hb hby at_214) rfl (l' := #[vI p0, vI p1, vI p2, vI p3, vI p4, vI p5, vI v3, vI v6, vI v9, vI v12, vR b14, vI v33, vR b35, vI v63, vR b65, vR b99, vR b106, vR b114, vR b123, vI ([(0 : Int32), (0 : Int32), c2_133, c3_133].getD (v33).toNatClampNeg 0), .unset, .unset, .unset]) rfl ?_
    exact k)⟩
  have hv1 := own_W2 (show v167 = (0 : Int32) ∨ v167 = (1 : Int32) by rw [hv167]; exact hcs)
  have pre168 : Go p.tables e below S0 T166 (mkF m 224 #[vI p0, vI p1, vI p2, vI p3, vI p4, vI p5, vI v3, vI v6, vI v9, vI v12, vR b14, vI v33, vR b35, vI v63, vR b65, vR b99, vR b106, vR b114, vR b123, vI v167, .unset, .unset, .unset] [(.int v33), (.ref b35), (.int v33), (.ref b123)]) := fun t k => pre167 t (by
    refine XS.aload X166.here hx rfl (hb hby at_216) rfl rfl ?_
    refine XS.iload X166.here hx rfl (hb hby at_218) rfl ?_
    refine XS.aload X166.here hx rfl (hb hby at_220) rfl rfl ?_
    show Steps p.tables e below (T166.setTop (mkF m 222 #[vI p0, vI p1, vI p2, vI p3, vI p4, vI p5, vI v3, vI v6, vI v9, vI v12, vR b14, vI v33, vR b35, vI v63, vR b65, vR b99, vR b106, vR b114, vR b123, vI v167, .unset, .unset, .unset] [(.ref b35), (.int v33), (.ref b123)])) _
    refine XS.iload X166.here hx rfl (hb hby at_222) rfl ?_
    exact k)
  obtain ⟨cl169, Ar169, q169, S169, M169, H169, G169⟩ := id f163_2
  have in169 : ¬ (v33 < 0 ∨ cl169.slots.size ≤ (v33).toNatClampNeg) := inb_of S169 hs4
  have at169 : cl169.slots[(v33).toNatClampNeg]? = some (.int ([(own_low p1 v3), (own_low p2 v6), (own_low p3 v9), (own_low p4 v12)].getD (v33).toNatClampNeg 0)) := H169.at in169 (own_getI [(own_low p1 v3), (own_low p2 v6), (own_low p3 v9), (own_low p4 v12)] _)
  have pre170 : Go p.tables e below S0 T166 (mkF m 227 #[vI p0, vI p1, vI p2, vI p3, vI p4, vI p5, vI v3, vI v6, vI v9, vI v12, vR b14, vI v33, vR b35, vI v63, vR b65, vR b99, vR b106, vR b114, vR b123, vI v167, .unset, .unset, .unset] [(.int v63), (.int ([(own_low p1 v3), (own_low p2 v6), (own_low p3 v9), (own_low p4 v12)].getD (v33).toNatClampNeg 0)), (.int v33), (.ref b123)]) := fun t k => pre168 t (by
    refine X166.iaload hx (j := v33) (v := (.int ([(own_low p1 v3), (own_low p2 v6), (own_low p3 v9), (own_low p4 v12)].getD (v33).toNatClampNeg 0))) (by rw [eq166]; exact Ar169.1) (State.isArrayOf_alike hZ.alike Ar169.2.1) Ar169.2.2 in169 at169 (g := (mkF m 224 #[vI p0, vI p1, vI p2, vI p3, vI p4, vI p5, vI v3, vI v6, vI v9, vI v12, vR b14, vI v33, vR b35, vI v63, vR b65, vR b99, vR b106, vR b114, vR b123, vI v167, .unset, .unset, .unset] [(.int v33), (.ref b35), (.int v33), (.ref b123)])) rfl rfl (hb hby at_224) _ ?_
    refine XS.iload X166.here hx rfl (hb hby at_225) rfl ?_
    exact k)
  obtain ⟨cq171, kq171, qa171, qb171, qc171⟩ := isOf hZ eq166 f163_6
  obtain ⟨_, _, ⟨T171, qL171, qk171, qn171⟩, -, X171, ⟨Lc171, hQ171, ql171, qy171, qz171⟩, st171⟩ := X166.virtualBack hx (y := (⟨"com/example/garantia/garantia/engine/StateLayout", "change", "(III)J"⟩ : MethodName)) (z := (⟨"com/example/garantia/garantia/engine/StateLayout", "change", "(III)J"⟩ : MethodName)) hown (mvT hZ (hw _ (List.mem_of_getElem? (i := 41) rfl))) (mvT hZ (hw _ (List.mem_of_getElem? (i := 42) rfl))) (notFace_of_selects (args := #[]) (mvT hZ (hw _ (List.mem_of_getElem? (i := 44) rfl)))) (mvT hZ (hw _ (List.mem_of_getElem? (i := 44) rfl))) (mvT hZ (hw _ (List.mem_of_getElem? (i := 43) rfl))) (by decide) (backOf (W := 0) (rm7 l Z A0 hw [] b123 v33 ([(own_low p1 v3), (own_low p2 v6), (own_low p3 v9), (own_low p4 v12)].getD (v33).toNatClampNeg 0) v63 as_133 ks_133 (0 : Int32) ((0 : Int32) + v3) u2_133 u3_133 h162 n0 zz164 f163_8 f163_13 hs4) hZ (hw _ (List.mem_of_getElem? (i := 45) rfl)) (hw _ (List.mem_of_getElem? (i := 11) rfl)) (by decide) (by decide)) qa171 qc171 (g := (mkF m 227 #[vI p0, vI p1, vI p2, vI p3, vI p4, vI p5, vI v3, vI v6, vI v9, vI v12, vR b14, vI v33, vR b35, vI v63, vR b65, vR b99, vR b106, vR b114, vR b123, vI v167, .unset, .unset, .unset] [(.int v63), (.int ([(own_low p1 v3), (own_low p2 v6), (own_low p3 v9), (own_low p4 v12)].getD (v33).toNatClampNeg 0)), (.int v33), (.ref b123)])) rfl (by rw [hml]; rfl) (Steps.refl _) (argsL := [(.int v33), (.int ([(own_low p1 v3), (own_low p2 v6), (own_low p3 v9), (own_low p4 v12)].getD (v33).toNatClampNeg 0)), (.int v63)]) (rest := []) (lenOf pd_4 rfl) rfl (by show 2 * 0 + _ ≤ _; exact Nat.le_of_eq rfl) (hb hby at_227) (fun _ _ => ⟨rfl, eq166, (by decide : 11 + 0 ≤ _), (by decide : 42 + 0 ≤ _)⟩)
  dsimp only [Pt.U, Pt.locs, Pt.cells, Pt.slots] at X171 ql171 qy171 qz171 st171 hQ171
  replace X171 := X171.more (Nat.le_of_eq qy171) (Nat.le_of_eq qz171)
  obtain ⟨rfl, Nq171, eq171⟩ := hQ171
  have N171 : Fr n0 qL171 := by rw [ql171]; exact Fr.app N166 Nq171
  have pre171 : Go p.tables e below S0 T171 (mkF m 230 #[vI p0, vI p1, vI p2, vI p3, vI p4, vI p5, vI v3, vI v6, vI v9, vI v12, vR b14, vI v33, vR b35, vI v63, vR b65, vR b99, vR b106, vR b114, vR b123, vI v167, .unset, .unset, .unset] [(.long (((([(own_low p1 v3), (own_low p2 v6), (own_low p3 v9), (own_low p4 v12)].getD (v33).toNatClampNeg 0) ^^^ v63).toInt64) <<< (([(0 : Int32), ((0 : Int32) + v3), u2_133, u3_133].getD (v33).toNatClampNeg 0) &&& 0x3f).toInt64))]) := fun t k => pre170 t (st171.trans k)
  obtain ⟨v172, hv172, pre172⟩ : ∃ z : Int64, z = (((([(own_low p1 v3), (own_low p2 v6), (own_low p3 v9), (own_low p4 v12)].getD (v33).toNatClampNeg 0) ^^^ v63).toInt64) <<< (([(0 : Int32), ((0 : Int32) + v3), u2_133, u3_133].getD (v33).toNatClampNeg 0) &&& 0x3f).toInt64) ∧ Go p.tables e below S0 T171 (mkF m 232 #[vI p0, vI p1, vI p2, vI p3, vI p4, vI p5, vI v3, vI v6, vI v9, vI v12, vR b14, vI v33, vR b35, vI v63, vR b65, vR b99, vR b106, vR b114, vR b123, vI v167, vJ z, .second, .unset] []) := ⟨_, rfl, fun t k => pre171 t (by
    refine XS.lstore X171.here hx rfl (hb hby at_230) rfl (l' := #[vI p0, vI p1, vI p2, vI p3, vI p4, vI p5, vI v3, vI v6, vI v9, vI v12, vR b14, vI v33, vR b35, vI v63, vR b65, vR b99, vR b106, vR b114, vR b123, vI v167, vJ (((([(own_low p1 v3), (own_low p2 v6), (own_low p3 v9), (own_low p4 v12)].getD (v33).toNatClampNeg 0) ^^^ v63).toInt64) <<< (([(0 : Int32), ((0 : Int32) + v3), u2_133, u3_133].getD (v33).toNatClampNeg 0) &&& 0x3f).toInt64), .second, .unset]) rfl ?_
    exact k)⟩
  have pre173 : Go p.tables e below S0 T171 (mkF m 240 #[vI p0, vI p1, vI p2, vI p3, vI p4, vI p5, vI v3, vI v6, vI v9, vI v12, vR b14, vI v33, vR b35, vI v63, vR b65, vR b99, vR b106, vR b114, vR b123, vI v167, vJ v172, .second, .unset] [(.int v63), (.int v33), (.ref b106), (.ref b123)]) := fun t k => pre172 t (by
    refine XS.aload X171.here hx rfl (hb hby at_232) rfl rfl ?_
    refine XS.aload X171.here hx rfl (hb hby at_234) rfl rfl ?_
    refine XS.iload X171.here hx rfl (hb hby at_236) rfl ?_
    show Steps p.tables e below (T171.setTop (mkF m 238 #[vI p0, vI p1, vI p2, vI p3, vI p4, vI p5, vI v3, vI v6, vI v9, vI v12, vR b14, vI v33, vR b35, vI v63, vR b65, vR b99, vR b106, vR b114, vR b123, vI v167, vJ v172, .second, .unset] [(.int v33), (.ref b106), (.ref b123)])) _
    refine XS.iload X171.here hx rfl (hb hby at_238) rfl ?_
    exact k)
  obtain ⟨cq174, kq174, qa174, qb174, qc174⟩ := isOf hZ eq171 f163_6
  obtain ⟨_, _, ⟨T174, qL174, qk174, qn174⟩, -, X174, ⟨Lc174, hQ174, ql174, qy174, qz174⟩, st174⟩ := X171.virtualBack hx (y := (⟨"com/example/garantia/garantia/engine/StateLayout", "set", "([JII)V"⟩ : MethodName)) (z := (⟨"com/example/garantia/garantia/engine/StateLayout", "set", "([JII)V"⟩ : MethodName)) hown (mvT hZ (hw _ (List.mem_of_getElem? (i := 46) rfl))) (mvT hZ (hw _ (List.mem_of_getElem? (i := 47) rfl))) (notFace_of_selects (args := #[]) (mvT hZ (hw _ (List.mem_of_getElem? (i := 49) rfl)))) (mvT hZ (hw _ (List.mem_of_getElem? (i := 49) rfl))) (mvT hZ (hw _ (List.mem_of_getElem? (i := 48) rfl))) (by decide) (backOf (W := 0) (rm8 l Z A0 hw [] b123 b106 v33 v63 aw_133 as_133 ao_133 kw_133 ks_133 ko_133 kA106 (0 : Int32) (0 : Int32) c2_133 c3_133 (0 : Int32) ((0 : Int32) + v3) u2_133 u3_133 (((((1 : Int64) <<< (v3 &&& 0x3f).toInt64) - (1 : Int64)) <<< ((0 : Int32) &&& 0x3f).toInt64) ^^^ (-1 : Int64)) (((((1 : Int64) <<< (v6 &&& 0x3f).toInt64) - (1 : Int64)) <<< (((0 : Int32) + v3) &&& 0x3f).toInt64) ^^^ (-1 : Int64)) (((((1 : Int64) <<< (v9 &&& 0x3f).toInt64) - (1 : Int64)) <<< (u2_133 &&& 0x3f).toInt64) ^^^ (-1 : Int64)) (((((1 : Int64) <<< (v12 &&& 0x3f).toInt64) - (1 : Int64)) <<< (u3_133 &&& 0x3f).toInt64) ^^^ (-1 : Int64)) j191_a3_0_148 j191_a3_1_149 h162 n0 zz164 f163_7 f163_8 f163_10 f163_12 f163_13 f163_15 av162 (Ne.symm ne128) (Ne.symm nn133_0_4) (Ne.symm nn133_1_4) (Ne.symm nn133_3_4) bo106 hs4 hW2) hZ (hw _ (List.mem_of_getElem? (i := 50) rfl)) (hw _ (List.mem_of_getElem? (i := 11) rfl)) (by decide) (by decide)) qa174 qc174 (g := (mkF m 240 #[vI p0, vI p1, vI p2, vI p3, vI p4, vI p5, vI v3, vI v6, vI v9, vI v12, vR b14, vI v33, vR b35, vI v63, vR b65, vR b99, vR b106, vR b114, vR b123, vI v167, vJ v172, .second, .unset] [(.int v63), (.int v33), (.ref b106), (.ref b123)])) rfl (by rw [hml]; rfl) (Steps.refl _) (argsL := [(.ref b106), (.int v33), (.int v63)]) (rest := []) (lenOf pd_5 rfl) rfl (by show 2 * 0 + _ ≤ _; exact Nat.le_of_eq rfl) (hb hby at_240) (fun _ _ => ⟨rfl, eq171, (by decide : 11 + 0 ≤ _), (by decide : 42 + 0 ≤ _)⟩)
  dsimp only [Pt.U, Pt.locs, Pt.cells, Pt.slots] at X174 ql174 qy174 qz174 st174 hQ174
  replace X174 := X174.more (Nat.le_of_eq qy174) (Nat.le_of_eq qz174)
  obtain ⟨rfl, Nq174, n0_174, n1_174, hS174, Kq174, nf174_0⟩ := hQ174
  have N174 : Fr n0 qL174 := by rw [ql174]; exact Fr.app N171 Nq174
  have pre174 : Go p.tables e below S0 T174 (mkF m 243 #[vI p0, vI p1, vI p2, vI p3, vI p4, vI p5, vI v3, vI v6, vI v9, vI v12, vR b14, vI v33, vR b35, vI v63, vR b65, vR b99, vR b106, vR b114, vR b123, vI v167, vJ v172, .second, .unset] []) := fun t k => pre173 t (st174.trans k)
  have f175_1 := f163_1.keep Kq174 (ninS ne107 nin0)
  have f175_2 := f163_2.keep Kq174 (ninS ne108 nin0)
  have f175_3 := f163_3.keep Kq174 (ninS ne109 nin0)
  have f175_4 := f163_4.keep Kq174 (ninS ne110 nin0)
  have f175_5 := f163_5.keep Kq174 (ninS (Ne.symm ne119) nin0)
  have f175_6 := Exa.keep f163_6 Kq174
  have f175_7 := Fld.keep f163_7 Kq174 (ninS (Ne.symm ne128) nin0)
  have f175_8 := Fld.keep f163_8 Kq174 (ninS (Ne.symm ne128) nin0)
  have f175_9 := Fld.keep f163_9 Kq174 (ninS (Ne.symm ne128) nin0)
  have f175_10 := Fld.keep f163_10 Kq174 (ninS (Ne.symm ne128) nin0)
  have f175_11 := Fld.keep f163_11 Kq174 (ninS (Ne.symm ne128) nin0)
  have f175_12 := f163_12.keep Kq174 (ninS (Ne.symm nn133_0_4) nin0)
  have f175_13 := f163_13.keep Kq174 (ninS (Ne.symm nn133_1_4) nin0)
  have f175_14 := f163_14.keep Kq174 (ninS (Ne.symm nn133_2_4) nin0)
  have f175_15 := f163_15.keep Kq174 (ninS (Ne.symm nn133_3_4) nin0)
  have zz176 : n0 ≤ T174.heap.size := Nat.le_trans zz164 Kq174.1
  have pre177 : Go p.tables e below S0 T174 (mkF m 250 #[vI p0, vI p1, vI p2, vI p3, vI p4, vI p5, vI v3, vI v6, vI v9, vI v12, vR b14, vI v33, vR b35, vI v63, vR b65, vR b99, vR b106, vR b114, vR b123, vI v167, vJ v172, .second, .unset] [(.ref b114), (.int (0 : Int32)), (.ref b106), (.ref b123)]) := fun t k => pre174 t (by
    refine XS.aload X174.here hx rfl (hb hby at_243) rfl rfl ?_
    refine XS.aload X174.here hx rfl (hb hby at_245) rfl rfl ?_
    refine XS.iconst X174.here hx rfl (hb hby at_247) ?_
    show Steps p.tables e below (T174.setTop (mkF m 248 #[vI p0, vI p1, vI p2, vI p3, vI p4, vI p5, vI v3, vI v6, vI v9, vI v12, vR b14, vI v33, vR b35, vI v63, vR b65, vR b99, vR b106, vR b114, vR b123, vI v167, vJ v172, .second, .unset] [(.int (0 : Int32)), (.ref b106), (.ref b123)])) _
    refine XS.aload X174.here hx rfl (hb hby at_248) rfl rfl ?_
    exact k)
  obtain ⟨cq178, kq178, qa178, qb178, qc178⟩ := isOf hZ rfl f175_6
  obtain ⟨_, _, ⟨T178, qL178, qk178, qn178⟩, -, X178, ⟨Lc178, hQ178, ql178, qy178, qz178⟩, st178⟩ := X174.virtualBack hx (y := (⟨"com/example/garantia/garantia/engine/StateLayout", "unpack", "([JI[I)V"⟩ : MethodName)) (z := (⟨"com/example/garantia/garantia/engine/StateLayout", "unpack", "([JI[I)V"⟩ : MethodName)) hown (mvT hZ (hw _ (List.mem_of_getElem? (i := 51) rfl))) (mvT hZ (hw _ (List.mem_of_getElem? (i := 52) rfl))) (notFace_of_selects (args := #[]) (mvT hZ (hw _ (List.mem_of_getElem? (i := 54) rfl)))) (mvT hZ (hw _ (List.mem_of_getElem? (i := 54) rfl))) (mvT hZ (hw _ (List.mem_of_getElem? (i := 53) rfl))) (by decide) (backOf (W := 0) (rm9_4 l Z A0 hw [] b123 b106 (0 : Int32) b114 aw_133 as_133 am_133 kw_133 ks_133 km_133 kA106 kA114 (0 : Int32) (0 : Int32) c2_133 c3_133 (0 : Int32) ((0 : Int32) + v3) u2_133 u3_133 (((1 : Int64) <<< (v3 &&& 0x3f).toInt64) - (1 : Int64)) (((1 : Int64) <<< (v6 &&& 0x3f).toInt64) - (1 : Int64)) (((1 : Int64) <<< (v9 &&& 0x3f).toInt64) - (1 : Int64)) (((1 : Int64) <<< (v12 &&& 0x3f).toInt64) - (1 : Int64)) n0_174 n1_174 (0 : Int32) (0 : Int32) (0 : Int32) (0 : Int32) T174.heap n0 zz176 f175_7 f175_8 f175_9 f175_12 f175_13 f175_14 nf174_0 f175_5 (Ne.symm ne129) (Ne.symm nn133_0_5) (Ne.symm nn133_1_5) (Ne.symm nn133_2_5) ne119 bo114 (own_W2 (Or.inl rfl)).2.2 (own_W2 (Or.inl rfl)).2.2 (own_W2 hc2).2.2 (own_W2 hc3).2.2) hZ (hw _ (List.mem_of_getElem? (i := 55) rfl)) (hw _ (List.mem_of_getElem? (i := 11) rfl)) (by decide) (by decide)) qa178 qc178 (g := (mkF m 250 #[vI p0, vI p1, vI p2, vI p3, vI p4, vI p5, vI v3, vI v6, vI v9, vI v12, vR b14, vI v33, vR b35, vI v63, vR b65, vR b99, vR b106, vR b114, vR b123, vI v167, vJ v172, .second, .unset] [(.ref b114), (.int (0 : Int32)), (.ref b106), (.ref b123)])) rfl (by rw [hml]; rfl) (Steps.refl _) (argsL := [(.ref b106), (.int (0 : Int32)), (.ref b114)]) (rest := []) (lenOf pd_6 rfl) rfl (by show 2 * 0 + _ ≤ _; exact Nat.le_of_eq rfl) (hb hby at_250) (fun _ _ => ⟨rfl, rfl, (by decide : 11 + 0 ≤ _), (by decide : 42 + 0 ≤ _)⟩)
  dsimp only [Pt.U, Pt.locs, Pt.cells, Pt.slots] at X178 ql178 qy178 qz178 st178 hQ178
  replace X178 := X178.more (Nat.le_of_eq qy178) (Nat.le_of_eq qz178)
  obtain ⟨rfl, Nq178, r178_0, r178_1, r178_2, r178_3, hR178, Kq178, nf178_0⟩ := hQ178
  have N178 : Fr n0 qL178 := by rw [ql178]; exact Fr.app N174 Nq178
  have pre178 : Go p.tables e below S0 T178 (mkF m 253 #[vI p0, vI p1, vI p2, vI p3, vI p4, vI p5, vI v3, vI v6, vI v9, vI v12, vR b14, vI v33, vR b35, vI v63, vR b65, vR b99, vR b106, vR b114, vR b123, vI v167, vJ v172, .second, .unset] []) := fun t k => pre177 t (st178.trans k)
  have f179_1 := f175_1.keep Kq178 (ninS ne115 nin0)
  have f179_2 := f175_2.keep Kq178 (ninS ne116 nin0)
  have f179_3 := f175_3.keep Kq178 (ninS ne117 nin0)
  have f179_4 := f175_4.keep Kq178 (ninS ne118 nin0)
  have f179_5 := nf174_0.keep Kq178 (ninS ne119 nin0)
  have f179_6 := Exa.keep f175_6 Kq178
  have f179_7 := Fld.keep f175_7 Kq178 (ninS (Ne.symm ne129) nin0)
  have f179_8 := Fld.keep f175_8 Kq178 (ninS (Ne.symm ne129) nin0)
  have f179_9 := Fld.keep f175_9 Kq178 (ninS (Ne.symm ne129) nin0)
  have f179_10 := Fld.keep f175_10 Kq178 (ninS (Ne.symm ne129) nin0)
  have f179_11 := Fld.keep f175_11 Kq178 (ninS (Ne.symm ne129) nin0)
  have f179_12 := f175_12.keep Kq178 (ninS (Ne.symm nn133_0_5) nin0)
  have f179_13 := f175_13.keep Kq178 (ninS (Ne.symm nn133_1_5) nin0)
  have f179_14 := f175_14.keep Kq178 (ninS (Ne.symm nn133_2_5) nin0)
  have f179_15 := f175_15.keep Kq178 (ninS (Ne.symm nn133_3_5) nin0)
  have zz180 : n0 ≤ T178.heap.size := Nat.le_trans zz176 Kq178.1
  obtain ⟨y1, y2, y3, y4, y5, y6⟩ := own_m3 hs hc2 hc3 hb0 hb1 hb2 hb3 g0 g1 g2 g3 d01 d02 d12 d03 d13 d23 X0 X1 X2 X3 Vv hj191_150 hS174 hv167 hv172 hR178
  have pre181 : Go p.tables e below S0 T178 (mkF m 257 #[vI p0, vI p1, vI p2, vI p3, vI p4, vI p5, vI v3, vI v6, vI v9, vI v12, vR b14, vI v33, vR b35, vI v63, vR b65, vR b99, vR b106, vR b114, vR b123, vI v167, vJ v172, .second, .unset] [(.int v167), (.ref b106)]) := fun t k => pre178 t (by
    refine XS.aload X178.here hx rfl (hb hby at_253) rfl rfl ?_
    refine XS.iload X178.here hx rfl (hb hby at_255) rfl ?_
    exact k)
  obtain ⟨cl182, Ar182, q182, S182, M182, H182, G182⟩ := id f179_5
  have in182 : ¬ (v167 < 0 ∨ cl182.slots.size ≤ (v167).toNatClampNeg) := inb_of S182 hv1.1
  have at182 : cl182.slots[(v167).toNatClampNeg]? = some (.long ([n0_174, n1_174].getD (v167).toNatClampNeg 0)) := H182.at in182 (own_getJ [n0_174, n1_174] _)
  have pre183 : Go p.tables e below S0 T178 (mkF m 262 #[vI p0, vI p1, vI p2, vI p3, vI p4, vI p5, vI v3, vI v6, vI v9, vI v12, vR b14, vI v33, vR b35, vI v63, vR b65, vR b99, vR b106, vR b114, vR b123, vI v167, vJ v172, .second, .unset] [(.int v167), (.ref b99), (.long ([n0_174, n1_174].getD (v167).toNatClampNeg 0))]) := fun t k => pre181 t (by
    refine X178.laload hx (j := v167) (v := (.long ([n0_174, n1_174].getD (v167).toNatClampNeg 0))) Ar182.1 (State.isArrayOf_alike hZ.alike Ar182.2.1) Ar182.2.2 in182 at182 (g := (mkF m 257 #[vI p0, vI p1, vI p2, vI p3, vI p4, vI p5, vI v3, vI v6, vI v9, vI v12, vR b14, vI v33, vR b35, vI v63, vR b65, vR b99, vR b106, vR b114, vR b123, vI v167, vJ v172, .second, .unset] [(.int v167), (.ref b106)])) rfl rfl (hb hby at_257) _ ?_
    refine XS.aload X178.here hx rfl (hb hby at_258) rfl rfl ?_
    refine XS.iload X178.here hx rfl (hb hby at_260) rfl ?_
    show Steps p.tables e below (T178.setTop (mkF m 262 #[vI p0, vI p1, vI p2, vI p3, vI p4, vI p5, vI v3, vI v6, vI v9, vI v12, vR b14, vI v33, vR b35, vI v63, vR b65, vR b99, vR b106, vR b114, vR b123, vI v167, vJ v172, .second, .unset] [(.int v167), (.ref b99), (.long ([n0_174, n1_174].getD (v167).toNatClampNeg 0))])) _
    exact k)
  obtain ⟨cl184, Ar184, q184, S184, M184, H184, G184⟩ := id f179_4
  have in184 : ¬ (v167 < 0 ∨ cl184.slots.size ≤ (v167).toNatClampNeg) := inb_of S184 hv1.1
  have at184 : cl184.slots[(v167).toNatClampNeg]? = some (.long ([j191_a3_0_148, j191_a3_1_149].getD (v167).toNatClampNeg 0)) := H184.at in184 (own_getJ [j191_a3_0_148, j191_a3_1_149] _)
  have pre185 : Go p.tables e below S0 T178 (mkF m 267 #[vI p0, vI p1, vI p2, vI p3, vI p4, vI p5, vI v3, vI v6, vI v9, vI v12, vR b14, vI v33, vR b35, vI v63, vR b65, vR b99, vR b106, vR b114, vR b123, vI v167, vJ v172, .second, .unset] [(.int (lcmpW ([n0_174, n1_174].getD (v167).toNatClampNeg 0) (([j191_a3_0_148, j191_a3_1_149].getD (v167).toNatClampNeg 0) ^^^ v172)))]) := fun t k => pre183 t (by
    refine X178.laload hx (j := v167) (v := (.long ([j191_a3_0_148, j191_a3_1_149].getD (v167).toNatClampNeg 0))) Ar184.1 (State.isArrayOf_alike hZ.alike Ar184.2.1) Ar184.2.2 in184 at184 (g := (mkF m 262 #[vI p0, vI p1, vI p2, vI p3, vI p4, vI p5, vI v3, vI v6, vI v9, vI v12, vR b14, vI v33, vR b35, vI v63, vR b65, vR b99, vR b106, vR b114, vR b123, vI v167, vJ v172, .second, .unset] [(.int v167), (.ref b99), (.long ([n0_174, n1_174].getD (v167).toNatClampNeg 0))])) rfl rfl (hb hby at_262) _ ?_
    refine XS.lload X178.here hx rfl (hb hby at_263) rfl ?_
    refine XS.lxor X178.here hx rfl (hb hby at_265) rfl ?_
    show Steps p.tables e below (T178.setTop (mkF m 266 #[vI p0, vI p1, vI p2, vI p3, vI p4, vI p5, vI v3, vI v6, vI v9, vI v12, vR b14, vI v33, vR b35, vI v63, vR b65, vR b99, vR b106, vR b114, vR b123, vI v167, vJ v172, .second, .unset] [(.long (([j191_a3_0_148, j191_a3_1_149].getD (v167).toNatClampNeg 0) ^^^ v172)), (.long ([n0_174, n1_174].getD (v167).toNatClampNeg 0))])) _
    refine XS.lcmp X178.here hx rfl (hb hby at_266) rfl ?_
    exact k)
  have cc186 : ([n0_174, n1_174].getD (v167).toNatClampNeg 0) = (([j191_a3_0_148, j191_a3_1_149].getD (v167).toNatClampNeg 0) ^^^ v172) := y1
  have pre187 : Go p.tables e below S0 T178 (mkF m 276 #[vI p0, vI p1, vI p2, vI p3, vI p4, vI p5, vI v3, vI v6, vI v9, vI v12, vR b14, vI v33, vR b35, vI v63, vR b65, vR b99, vR b106, vR b114, vR b123, vI v167, vJ v172, .second, .unset] [(.int ((1 : Int32) - v167)), (.ref b106)]) := fun t k => pre185 t (by
    refine XS.ifNo X178.here hx rfl (hb hby at_267) rfl ((if0 _ _).trans (teq ((lw_eq _ _).mpr cc186)).2) ?_
    refine XS.aload X178.here hx rfl (hb hby at_270) rfl rfl ?_
    refine XS.iconst X178.here hx rfl (hb hby at_272) ?_
    show Steps p.tables e below (T178.setTop (mkF m 273 #[vI p0, vI p1, vI p2, vI p3, vI p4, vI p5, vI v3, vI v6, vI v9, vI v12, vR b14, vI v33, vR b35, vI v63, vR b65, vR b99, vR b106, vR b114, vR b123, vI v167, vJ v172, .second, .unset] [(.int (1 : Int32)), (.ref b106)])) _
    refine XS.iload X178.here hx rfl (hb hby at_273) rfl ?_
    refine XS.isub X178.here hx rfl (hb hby at_275) rfl ?_
    exact k)
  obtain ⟨cl188, Ar188, q188, S188, M188, H188, G188⟩ := id f179_5
  have in188 : ¬ (((1 : Int32) - v167) < 0 ∨ cl188.slots.size ≤ (((1 : Int32) - v167)).toNatClampNeg) := inb_of S188 hv1.2.1
  have at188 : cl188.slots[(((1 : Int32) - v167)).toNatClampNeg]? = some (.long ([n0_174, n1_174].getD (((1 : Int32) - v167)).toNatClampNeg 0)) := H188.at in188 (own_getJ [n0_174, n1_174] _)
  have pre189 : Go p.tables e below S0 T178 (mkF m 283 #[vI p0, vI p1, vI p2, vI p3, vI p4, vI p5, vI v3, vI v6, vI v9, vI v12, vR b14, vI v33, vR b35, vI v63, vR b65, vR b99, vR b106, vR b114, vR b123, vI v167, vJ v172, .second, .unset] [(.int ((1 : Int32) - v167)), (.ref b99), (.long ([n0_174, n1_174].getD (((1 : Int32) - v167)).toNatClampNeg 0))]) := fun t k => pre187 t (by
    refine X178.laload hx (j := ((1 : Int32) - v167)) (v := (.long ([n0_174, n1_174].getD (((1 : Int32) - v167)).toNatClampNeg 0))) Ar188.1 (State.isArrayOf_alike hZ.alike Ar188.2.1) Ar188.2.2 in188 at188 (g := (mkF m 276 #[vI p0, vI p1, vI p2, vI p3, vI p4, vI p5, vI v3, vI v6, vI v9, vI v12, vR b14, vI v33, vR b35, vI v63, vR b65, vR b99, vR b106, vR b114, vR b123, vI v167, vJ v172, .second, .unset] [(.int ((1 : Int32) - v167)), (.ref b106)])) rfl rfl (hb hby at_276) _ ?_
    refine XS.aload X178.here hx rfl (hb hby at_277) rfl rfl ?_
    refine XS.iconst X178.here hx rfl (hb hby at_279) ?_
    show Steps p.tables e below (T178.setTop (mkF m 280 #[vI p0, vI p1, vI p2, vI p3, vI p4, vI p5, vI v3, vI v6, vI v9, vI v12, vR b14, vI v33, vR b35, vI v63, vR b65, vR b99, vR b106, vR b114, vR b123, vI v167, vJ v172, .second, .unset] [(.int (1 : Int32)), (.ref b99), (.long ([n0_174, n1_174].getD (((1 : Int32) - v167)).toNatClampNeg 0))])) _
    refine XS.iload X178.here hx rfl (hb hby at_280) rfl ?_
    refine XS.isub X178.here hx rfl (hb hby at_282) rfl ?_
    exact k)
  obtain ⟨cl190, Ar190, q190, S190, M190, H190, G190⟩ := id f179_4
  have in190 : ¬ (((1 : Int32) - v167) < 0 ∨ cl190.slots.size ≤ (((1 : Int32) - v167)).toNatClampNeg) := inb_of S190 hv1.2.1
  have at190 : cl190.slots[(((1 : Int32) - v167)).toNatClampNeg]? = some (.long ([j191_a3_0_148, j191_a3_1_149].getD (((1 : Int32) - v167)).toNatClampNeg 0)) := H190.at in190 (own_getJ [j191_a3_0_148, j191_a3_1_149] _)
  have pre191 : Go p.tables e below S0 T178 (mkF m 285 #[vI p0, vI p1, vI p2, vI p3, vI p4, vI p5, vI v3, vI v6, vI v9, vI v12, vR b14, vI v33, vR b35, vI v63, vR b65, vR b99, vR b106, vR b114, vR b123, vI v167, vJ v172, .second, .unset] [(.int (lcmpW ([n0_174, n1_174].getD (((1 : Int32) - v167)).toNatClampNeg 0) ([j191_a3_0_148, j191_a3_1_149].getD (((1 : Int32) - v167)).toNatClampNeg 0)))]) := fun t k => pre189 t (by
    refine X178.laload hx (j := ((1 : Int32) - v167)) (v := (.long ([j191_a3_0_148, j191_a3_1_149].getD (((1 : Int32) - v167)).toNatClampNeg 0))) Ar190.1 (State.isArrayOf_alike hZ.alike Ar190.2.1) Ar190.2.2 in190 at190 (g := (mkF m 283 #[vI p0, vI p1, vI p2, vI p3, vI p4, vI p5, vI v3, vI v6, vI v9, vI v12, vR b14, vI v33, vR b35, vI v63, vR b65, vR b99, vR b106, vR b114, vR b123, vI v167, vJ v172, .second, .unset] [(.int ((1 : Int32) - v167)), (.ref b99), (.long ([n0_174, n1_174].getD (((1 : Int32) - v167)).toNatClampNeg 0))])) rfl rfl (hb hby at_283) _ ?_
    refine XS.lcmp X178.here hx rfl (hb hby at_284) rfl ?_
    exact k)
  have cc192 : ([n0_174, n1_174].getD (((1 : Int32) - v167)).toNatClampNeg 0) = ([j191_a3_0_148, j191_a3_1_149].getD (((1 : Int32) - v167)).toNatClampNeg 0) := y2
  have pre193 : Go p.tables e below S0 T178 (mkF m 303 #[vI p0, vI p1, vI p2, vI p3, vI p4, vI p5, vI v3, vI v6, vI v9, vI v12, vR b14, vI v33, vR b35, vI v63, vR b65, vR b99, vR b106, vR b114, vR b123, vI v167, vJ v172, .second, vI (1 : Int32)] [(.int (0 : Int32)), (.ref b114)]) := fun t k => pre191 t (by
    refine XS.ifNo X178.here hx rfl (hb hby at_285) rfl ((if0 _ _).trans (teq ((lw_eq _ _).mpr cc192)).2) ?_
    refine XS.iconst X178.here hx rfl (hb hby at_288) ?_
    refine XS.goto X178.here hx rfl (pc0 := 289) (pc' := 293) rfl (hb hby at_289) (by decide) (by decide) ?_
    show Steps p.tables e below (T178.setTop (mkF m 293 #[vI p0, vI p1, vI p2, vI p3, vI p4, vI p5, vI v3, vI v6, vI v9, vI v12, vR b14, vI v33, vR b35, vI v63, vR b65, vR b99, vR b106, vR b114, vR b123, vI v167, vJ v172, .second, .unset] [(.int (1 : Int32))])) _
    refine XS.istore X178.here hx rfl (hb hby at_293) rfl (l' := #[vI p0, vI p1, vI p2, vI p3, vI p4, vI p5, vI v3, vI v6, vI v9, vI v12, vR b14, vI v33, vR b35, vI v63, vR b65, vR b99, vR b106, vR b114, vR b123, vI v167, vJ v172, .second, vI (1 : Int32)]) rfl ?_
    refine XS.iload X178.here hx rfl (hb hby at_295) rfl ?_
    refine XS.ifNo X178.here hx rfl (hb hby at_297) rfl ((if0 _ _).trans (feq (by decide : ¬ ((1 : Int32) = (0 : Int32)))).1) ?_
    show Steps p.tables e below (T178.setTop (mkF m 300 #[vI p0, vI p1, vI p2, vI p3, vI p4, vI p5, vI v3, vI v6, vI v9, vI v12, vR b14, vI v33, vR b35, vI v63, vR b65, vR b99, vR b106, vR b114, vR b123, vI v167, vJ v172, .second, vI (1 : Int32)] [])) _
    refine XS.aload X178.here hx rfl (hb hby at_300) rfl rfl ?_
    refine XS.iconst X178.here hx rfl (hb hby at_302) ?_
    exact k)
  obtain ⟨cl194, Ar194, q194, S194, M194, H194, G194⟩ := id nf178_0
  have in194 : ¬ ((0 : Int32) < 0 ∨ cl194.slots.size ≤ ((0 : Int32)).toNatClampNeg) := inb_of S194 ⟨by decide, by decide⟩
  have at194 : cl194.slots[((0 : Int32)).toNatClampNeg]? = some (.int r178_0) := H194.at in194 rfl
  have pre195 : Go p.tables e below S0 T178 (mkF m 307 #[vI p0, vI p1, vI p2, vI p3, vI p4, vI p5, vI v3, vI v6, vI v9, vI v12, vR b14, vI v33, vR b35, vI v63, vR b65, vR b99, vR b106, vR b114, vR b123, vI v167, vJ v172, .second, vI (1 : Int32)] [(.int (0 : Int32)), (.ref b65), (.int r178_0)]) := fun t k => pre193 t (by
    refine X178.iaload hx (j := (0 : Int32)) (v := (.int r178_0)) Ar194.1 (State.isArrayOf_alike hZ.alike Ar194.2.1) Ar194.2.2 in194 at194 (g := (mkF m 303 #[vI p0, vI p1, vI p2, vI p3, vI p4, vI p5, vI v3, vI v6, vI v9, vI v12, vR b14, vI v33, vR b35, vI v63, vR b65, vR b99, vR b106, vR b114, vR b123, vI v167, vJ v172, .second, vI (1 : Int32)] [(.int (0 : Int32)), (.ref b114)])) rfl rfl (hb hby at_303) _ ?_
    refine XS.aload X178.here hx rfl (hb hby at_304) rfl rfl ?_
    refine XS.iconst X178.here hx rfl (hb hby at_306) ?_
    show Steps p.tables e below (T178.setTop (mkF m 307 #[vI p0, vI p1, vI p2, vI p3, vI p4, vI p5, vI v3, vI v6, vI v9, vI v12, vR b14, vI v33, vR b35, vI v63, vR b65, vR b99, vR b106, vR b114, vR b123, vI v167, vJ v172, .second, vI (1 : Int32)] [(.int (0 : Int32)), (.ref b65), (.int r178_0)])) _
    exact k)
  obtain ⟨cl196, Ar196, q196, S196, M196, H196, G196⟩ := id f179_3
  have in196 : ¬ ((0 : Int32) < 0 ∨ cl196.slots.size ≤ ((0 : Int32)).toNatClampNeg) := inb_of S196 ⟨by decide, by decide⟩
  have at196 : cl196.slots[((0 : Int32)).toNatClampNeg]? = some (.int (own_put v33 (0 : Int32) v63 (own_low p1 v3))) := H196.at in196 rfl
  have pre197 : Go p.tables e below S0 T178 (mkF m 308 #[vI p0, vI p1, vI p2, vI p3, vI p4, vI p5, vI v3, vI v6, vI v9, vI v12, vR b14, vI v33, vR b35, vI v63, vR b65, vR b99, vR b106, vR b114, vR b123, vI v167, vJ v172, .second, vI (1 : Int32)] [(.int (own_put v33 (0 : Int32) v63 (own_low p1 v3))), (.int r178_0)]) := fun t k => pre195 t (by
    refine X178.iaload hx (j := (0 : Int32)) (v := (.int (own_put v33 (0 : Int32) v63 (own_low p1 v3)))) Ar196.1 (State.isArrayOf_alike hZ.alike Ar196.2.1) Ar196.2.2 in196 at196 (g := (mkF m 307 #[vI p0, vI p1, vI p2, vI p3, vI p4, vI p5, vI v3, vI v6, vI v9, vI v12, vR b14, vI v33, vR b35, vI v63, vR b65, vR b99, vR b106, vR b114, vR b123, vI v167, vJ v172, .second, vI (1 : Int32)] [(.int (0 : Int32)), (.ref b65), (.int r178_0)])) rfl rfl (hb hby at_307) _ ?_
    exact k)
  have cc198 : r178_0 = (own_put v33 (0 : Int32) v63 (own_low p1 v3)) := y3
  have pre199 : Go p.tables e below S0 T178 (mkF m 314 #[vI p0, vI p1, vI p2, vI p3, vI p4, vI p5, vI v3, vI v6, vI v9, vI v12, vR b14, vI v33, vR b35, vI v63, vR b65, vR b99, vR b106, vR b114, vR b123, vI v167, vJ v172, .second, vI (1 : Int32)] [(.int (1 : Int32)), (.ref b114)]) := fun t k => pre197 t (by
    refine XS.icmpNo X178.here hx rfl (hb hby at_308) rfl (teq cc198).2 ?_
    refine XS.aload X178.here hx rfl (hb hby at_311) rfl rfl ?_
    refine XS.iconst X178.here hx rfl (hb hby at_313) ?_
    show Steps p.tables e below (T178.setTop (mkF m 314 #[vI p0, vI p1, vI p2, vI p3, vI p4, vI p5, vI v3, vI v6, vI v9, vI v12, vR b14, vI v33, vR b35, vI v63, vR b65, vR b99, vR b106, vR b114, vR b123, vI v167, vJ v172, .second, vI (1 : Int32)] [(.int (1 : Int32)), (.ref b114)])) _
    exact k)
  obtain ⟨cl200, Ar200, q200, S200, M200, H200, G200⟩ := id nf178_0
  have in200 : ¬ ((1 : Int32) < 0 ∨ cl200.slots.size ≤ ((1 : Int32)).toNatClampNeg) := inb_of S200 ⟨by decide, by decide⟩
  have at200 : cl200.slots[((1 : Int32)).toNatClampNeg]? = some (.int r178_1) := H200.at in200 rfl
  have pre201 : Go p.tables e below S0 T178 (mkF m 318 #[vI p0, vI p1, vI p2, vI p3, vI p4, vI p5, vI v3, vI v6, vI v9, vI v12, vR b14, vI v33, vR b35, vI v63, vR b65, vR b99, vR b106, vR b114, vR b123, vI v167, vJ v172, .second, vI (1 : Int32)] [(.int (1 : Int32)), (.ref b65), (.int r178_1)]) := fun t k => pre199 t (by
    refine X178.iaload hx (j := (1 : Int32)) (v := (.int r178_1)) Ar200.1 (State.isArrayOf_alike hZ.alike Ar200.2.1) Ar200.2.2 in200 at200 (g := (mkF m 314 #[vI p0, vI p1, vI p2, vI p3, vI p4, vI p5, vI v3, vI v6, vI v9, vI v12, vR b14, vI v33, vR b35, vI v63, vR b65, vR b99, vR b106, vR b114, vR b123, vI v167, vJ v172, .second, vI (1 : Int32)] [(.int (1 : Int32)), (.ref b114)])) rfl rfl (hb hby at_314) _ ?_
    refine XS.aload X178.here hx rfl (hb hby at_315) rfl rfl ?_
    refine XS.iconst X178.here hx rfl (hb hby at_317) ?_
    show Steps p.tables e below (T178.setTop (mkF m 318 #[vI p0, vI p1, vI p2, vI p3, vI p4, vI p5, vI v3, vI v6, vI v9, vI v12, vR b14, vI v33, vR b35, vI v63, vR b65, vR b99, vR b106, vR b114, vR b123, vI v167, vJ v172, .second, vI (1 : Int32)] [(.int (1 : Int32)), (.ref b65), (.int r178_1)])) _
    exact k)
  obtain ⟨cl202, Ar202, q202, S202, M202, H202, G202⟩ := id f179_3
  have in202 : ¬ ((1 : Int32) < 0 ∨ cl202.slots.size ≤ ((1 : Int32)).toNatClampNeg) := inb_of S202 ⟨by decide, by decide⟩
  have at202 : cl202.slots[((1 : Int32)).toNatClampNeg]? = some (.int (own_put v33 (1 : Int32) v63 (own_low p2 v6))) := H202.at in202 rfl
  have pre203 : Go p.tables e below S0 T178 (mkF m 319 #[vI p0, vI p1, vI p2, vI p3, vI p4, vI p5, vI v3, vI v6, vI v9, vI v12, vR b14, vI v33, vR b35, vI v63, vR b65, vR b99, vR b106, vR b114, vR b123, vI v167, vJ v172, .second, vI (1 : Int32)] [(.int (own_put v33 (1 : Int32) v63 (own_low p2 v6))), (.int r178_1)]) := fun t k => pre201 t (by
    refine X178.iaload hx (j := (1 : Int32)) (v := (.int (own_put v33 (1 : Int32) v63 (own_low p2 v6)))) Ar202.1 (State.isArrayOf_alike hZ.alike Ar202.2.1) Ar202.2.2 in202 at202 (g := (mkF m 318 #[vI p0, vI p1, vI p2, vI p3, vI p4, vI p5, vI v3, vI v6, vI v9, vI v12, vR b14, vI v33, vR b35, vI v63, vR b65, vR b99, vR b106, vR b114, vR b123, vI v167, vJ v172, .second, vI (1 : Int32)] [(.int (1 : Int32)), (.ref b65), (.int r178_1)])) rfl rfl (hb hby at_318) _ ?_
    exact k)
  have cc204 : r178_1 = (own_put v33 (1 : Int32) v63 (own_low p2 v6)) := y4
  have pre205 : Go p.tables e below S0 T178 (mkF m 337 #[vI p0, vI p1, vI p2, vI p3, vI p4, vI p5, vI v3, vI v6, vI v9, vI v12, vR b14, vI v33, vR b35, vI v63, vR b65, vR b99, vR b106, vR b114, vR b123, vI v167, vJ v172, .second, vI (1 : Int32)] [(.int (2 : Int32)), (.ref b114)]) := fun t k => pre203 t (by
    refine XS.icmpNo X178.here hx rfl (hb hby at_319) rfl (teq cc204).2 ?_
    refine XS.iconst X178.here hx rfl (hb hby at_322) ?_
    refine XS.goto X178.here hx rfl (pc0 := 323) (pc' := 327) rfl (hb hby at_323) (by decide) (by decide) ?_
    show Steps p.tables e below (T178.setTop (mkF m 327 #[vI p0, vI p1, vI p2, vI p3, vI p4, vI p5, vI v3, vI v6, vI v9, vI v12, vR b14, vI v33, vR b35, vI v63, vR b65, vR b99, vR b106, vR b114, vR b123, vI v167, vJ v172, .second, vI (1 : Int32)] [(.int (1 : Int32))])) _
    refine XS.istore X178.here hx rfl (hb hby at_327) rfl (l' := #[vI p0, vI p1, vI p2, vI p3, vI p4, vI p5, vI v3, vI v6, vI v9, vI v12, vR b14, vI v33, vR b35, vI v63, vR b65, vR b99, vR b106, vR b114, vR b123, vI v167, vJ v172, .second, vI (1 : Int32)]) rfl ?_
    refine XS.iload X178.here hx rfl (hb hby at_329) rfl ?_
    refine XS.ifNo X178.here hx rfl (hb hby at_331) rfl ((if0 _ _).trans (feq (by decide : ¬ ((1 : Int32) = (0 : Int32)))).1) ?_
    show Steps p.tables e below (T178.setTop (mkF m 334 #[vI p0, vI p1, vI p2, vI p3, vI p4, vI p5, vI v3, vI v6, vI v9, vI v12, vR b14, vI v33, vR b35, vI v63, vR b65, vR b99, vR b106, vR b114, vR b123, vI v167, vJ v172, .second, vI (1 : Int32)] [])) _
    refine XS.aload X178.here hx rfl (hb hby at_334) rfl rfl ?_
    refine XS.iconst X178.here hx rfl (hb hby at_336) ?_
    exact k)
  obtain ⟨cl206, Ar206, q206, S206, M206, H206, G206⟩ := id nf178_0
  have in206 : ¬ ((2 : Int32) < 0 ∨ cl206.slots.size ≤ ((2 : Int32)).toNatClampNeg) := inb_of S206 ⟨by decide, by decide⟩
  have at206 : cl206.slots[((2 : Int32)).toNatClampNeg]? = some (.int r178_2) := H206.at in206 rfl
  have pre207 : Go p.tables e below S0 T178 (mkF m 341 #[vI p0, vI p1, vI p2, vI p3, vI p4, vI p5, vI v3, vI v6, vI v9, vI v12, vR b14, vI v33, vR b35, vI v63, vR b65, vR b99, vR b106, vR b114, vR b123, vI v167, vJ v172, .second, vI (1 : Int32)] [(.int (2 : Int32)), (.ref b65), (.int r178_2)]) := fun t k => pre205 t (by
    refine X178.iaload hx (j := (2 : Int32)) (v := (.int r178_2)) Ar206.1 (State.isArrayOf_alike hZ.alike Ar206.2.1) Ar206.2.2 in206 at206 (g := (mkF m 337 #[vI p0, vI p1, vI p2, vI p3, vI p4, vI p5, vI v3, vI v6, vI v9, vI v12, vR b14, vI v33, vR b35, vI v63, vR b65, vR b99, vR b106, vR b114, vR b123, vI v167, vJ v172, .second, vI (1 : Int32)] [(.int (2 : Int32)), (.ref b114)])) rfl rfl (hb hby at_337) _ ?_
    refine XS.aload X178.here hx rfl (hb hby at_338) rfl rfl ?_
    refine XS.iconst X178.here hx rfl (hb hby at_340) ?_
    show Steps p.tables e below (T178.setTop (mkF m 341 #[vI p0, vI p1, vI p2, vI p3, vI p4, vI p5, vI v3, vI v6, vI v9, vI v12, vR b14, vI v33, vR b35, vI v63, vR b65, vR b99, vR b106, vR b114, vR b123, vI v167, vJ v172, .second, vI (1 : Int32)] [(.int (2 : Int32)), (.ref b65), (.int r178_2)])) _
    exact k)
  obtain ⟨cl208, Ar208, q208, S208, M208, H208, G208⟩ := id f179_3
  have in208 : ¬ ((2 : Int32) < 0 ∨ cl208.slots.size ≤ ((2 : Int32)).toNatClampNeg) := inb_of S208 ⟨by decide, by decide⟩
  have at208 : cl208.slots[((2 : Int32)).toNatClampNeg]? = some (.int (own_put v33 (2 : Int32) v63 (own_low p3 v9))) := H208.at in208 rfl
  have pre209 : Go p.tables e below S0 T178 (mkF m 342 #[vI p0, vI p1, vI p2, vI p3, vI p4, vI p5, vI v3, vI v6, vI v9, vI v12, vR b14, vI v33, vR b35, vI v63, vR b65, vR b99, vR b106, vR b114, vR b123, vI v167, vJ v172, .second, vI (1 : Int32)] [(.int (own_put v33 (2 : Int32) v63 (own_low p3 v9))), (.int r178_2)]) := fun t k => pre207 t (by
    refine X178.iaload hx (j := (2 : Int32)) (v := (.int (own_put v33 (2 : Int32) v63 (own_low p3 v9)))) Ar208.1 (State.isArrayOf_alike hZ.alike Ar208.2.1) Ar208.2.2 in208 at208 (g := (mkF m 341 #[vI p0, vI p1, vI p2, vI p3, vI p4, vI p5, vI v3, vI v6, vI v9, vI v12, vR b14, vI v33, vR b35, vI v63, vR b65, vR b99, vR b106, vR b114, vR b123, vI v167, vJ v172, .second, vI (1 : Int32)] [(.int (2 : Int32)), (.ref b65), (.int r178_2)])) rfl rfl (hb hby at_341) _ ?_
    exact k)
  have cc210 : r178_2 = (own_put v33 (2 : Int32) v63 (own_low p3 v9)) := y5
  have pre211 : Go p.tables e below S0 T178 (mkF m 348 #[vI p0, vI p1, vI p2, vI p3, vI p4, vI p5, vI v3, vI v6, vI v9, vI v12, vR b14, vI v33, vR b35, vI v63, vR b65, vR b99, vR b106, vR b114, vR b123, vI v167, vJ v172, .second, vI (1 : Int32)] [(.int (3 : Int32)), (.ref b114)]) := fun t k => pre209 t (by
    refine XS.icmpNo X178.here hx rfl (hb hby at_342) rfl (teq cc210).2 ?_
    refine XS.aload X178.here hx rfl (hb hby at_345) rfl rfl ?_
    refine XS.iconst X178.here hx rfl (hb hby at_347) ?_
    show Steps p.tables e below (T178.setTop (mkF m 348 #[vI p0, vI p1, vI p2, vI p3, vI p4, vI p5, vI v3, vI v6, vI v9, vI v12, vR b14, vI v33, vR b35, vI v63, vR b65, vR b99, vR b106, vR b114, vR b123, vI v167, vJ v172, .second, vI (1 : Int32)] [(.int (3 : Int32)), (.ref b114)])) _
    exact k)
  obtain ⟨cl212, Ar212, q212, S212, M212, H212, G212⟩ := id nf178_0
  have in212 : ¬ ((3 : Int32) < 0 ∨ cl212.slots.size ≤ ((3 : Int32)).toNatClampNeg) := inb_of S212 ⟨by decide, by decide⟩
  have at212 : cl212.slots[((3 : Int32)).toNatClampNeg]? = some (.int r178_3) := H212.at in212 rfl
  have pre213 : Go p.tables e below S0 T178 (mkF m 352 #[vI p0, vI p1, vI p2, vI p3, vI p4, vI p5, vI v3, vI v6, vI v9, vI v12, vR b14, vI v33, vR b35, vI v63, vR b65, vR b99, vR b106, vR b114, vR b123, vI v167, vJ v172, .second, vI (1 : Int32)] [(.int (3 : Int32)), (.ref b65), (.int r178_3)]) := fun t k => pre211 t (by
    refine X178.iaload hx (j := (3 : Int32)) (v := (.int r178_3)) Ar212.1 (State.isArrayOf_alike hZ.alike Ar212.2.1) Ar212.2.2 in212 at212 (g := (mkF m 348 #[vI p0, vI p1, vI p2, vI p3, vI p4, vI p5, vI v3, vI v6, vI v9, vI v12, vR b14, vI v33, vR b35, vI v63, vR b65, vR b99, vR b106, vR b114, vR b123, vI v167, vJ v172, .second, vI (1 : Int32)] [(.int (3 : Int32)), (.ref b114)])) rfl rfl (hb hby at_348) _ ?_
    refine XS.aload X178.here hx rfl (hb hby at_349) rfl rfl ?_
    refine XS.iconst X178.here hx rfl (hb hby at_351) ?_
    show Steps p.tables e below (T178.setTop (mkF m 352 #[vI p0, vI p1, vI p2, vI p3, vI p4, vI p5, vI v3, vI v6, vI v9, vI v12, vR b14, vI v33, vR b35, vI v63, vR b65, vR b99, vR b106, vR b114, vR b123, vI v167, vJ v172, .second, vI (1 : Int32)] [(.int (3 : Int32)), (.ref b65), (.int r178_3)])) _
    exact k)
  obtain ⟨cl214, Ar214, q214, S214, M214, H214, G214⟩ := id f179_3
  have in214 : ¬ ((3 : Int32) < 0 ∨ cl214.slots.size ≤ ((3 : Int32)).toNatClampNeg) := inb_of S214 ⟨by decide, by decide⟩
  have at214 : cl214.slots[((3 : Int32)).toNatClampNeg]? = some (.int (own_put v33 (3 : Int32) v63 (own_low p4 v12))) := H214.at in214 rfl
  have pre215 : Go p.tables e below S0 T178 (mkF m 353 #[vI p0, vI p1, vI p2, vI p3, vI p4, vI p5, vI v3, vI v6, vI v9, vI v12, vR b14, vI v33, vR b35, vI v63, vR b65, vR b99, vR b106, vR b114, vR b123, vI v167, vJ v172, .second, vI (1 : Int32)] [(.int (own_put v33 (3 : Int32) v63 (own_low p4 v12))), (.int r178_3)]) := fun t k => pre213 t (by
    refine X178.iaload hx (j := (3 : Int32)) (v := (.int (own_put v33 (3 : Int32) v63 (own_low p4 v12)))) Ar214.1 (State.isArrayOf_alike hZ.alike Ar214.2.1) Ar214.2.2 in214 at214 (g := (mkF m 352 #[vI p0, vI p1, vI p2, vI p3, vI p4, vI p5, vI v3, vI v6, vI v9, vI v12, vR b14, vI v33, vR b35, vI v63, vR b65, vR b99, vR b106, vR b114, vR b123, vI v167, vJ v172, .second, vI (1 : Int32)] [(.int (3 : Int32)), (.ref b65), (.int r178_3)])) rfl rfl (hb hby at_352) _ ?_
    exact k)
  have cc216 : r178_3 = (own_put v33 (3 : Int32) v63 (own_low p4 v12)) := y6
  have pre217 : Go p.tables e below S0 T178 (mkF m 365 #[vI p0, vI p1, vI p2, vI p3, vI p4, vI p5, vI v3, vI v6, vI v9, vI v12, vR b14, vI v33, vR b35, vI v63, vR b65, vR b99, vR b106, vR b114, vR b123, vI v167, vJ v172, .second, vI (1 : Int32)] [(.int (1 : Int32))]) := fun t k => pre215 t (by
    refine XS.icmpNo X178.here hx rfl (hb hby at_353) rfl (teq cc216).2 ?_
    refine XS.iconst X178.here hx rfl (hb hby at_356) ?_
    refine XS.goto X178.here hx rfl (pc0 := 357) (pc' := 361) rfl (hb hby at_357) (by decide) (by decide) ?_
    show Steps p.tables e below (T178.setTop (mkF m 361 #[vI p0, vI p1, vI p2, vI p3, vI p4, vI p5, vI v3, vI v6, vI v9, vI v12, vR b14, vI v33, vR b35, vI v63, vR b65, vR b99, vR b106, vR b114, vR b123, vI v167, vJ v172, .second, vI (1 : Int32)] [(.int (1 : Int32))])) _
    refine XS.istore X178.here hx rfl (hb hby at_361) rfl (l' := #[vI p0, vI p1, vI p2, vI p3, vI p4, vI p5, vI v3, vI v6, vI v9, vI v12, vR b14, vI v33, vR b35, vI v63, vR b65, vR b99, vR b106, vR b114, vR b123, vI v167, vJ v172, .second, vI (1 : Int32)]) rfl ?_
    refine XS.iload X178.here hx rfl (hb hby at_363) rfl ?_
    exact k)
  obtain ⟨fs, hr, hrun, hended, hW, hsame⟩ := X178.leave (v := some (.int (1 : Int32))) (fun h => by rw [Bd.returns] at h; cases h)
  exact ⟨_, _, pre217.fin hS0 (retN X178 hx (t := .boolean) Bd.returns (by simp) (hb hby at_365) hr), hrun, hended, _, _, rfl, (by
    show Q0 Z p0 p1 p2 p3 p4 p5 h0 n0 _ T178.heap _
    rw [show T178.heap = T178.heap from rfl]
    exact ⟨rfl, N178⟩), ⟨_, rfl⟩, hW, hsame.mono (by decide) (by decide)⟩
set_option maxRecDepth 65536 in
set_option maxHeartbeats 40000000 in
theorem comes_1 {Post : Tables → Env → Array Value → State → Outcome → State → Prop} (hpost : ∀ tb e args s v u, (limb_1_1.after args s (.returned v) u = true ∧ limb_1_2.after args s (.returned v) u = true ∧ True) → FrameEnd s (.returned v) u (Jvm.fieldLocs frame_1_writes args s ++ Jvm.arrayLocs frame_1_arrays args s ++ Jvm.staticLocs frame_1_statics s) 32 192 → Post tb e args s (.returned v) u) :
    ArmFor flags0 classFile x code maxLocals ret World_1 tables_1 room_1 Calls_1 rest_1 Pre_1 Post := by
  intro l hfl _ _ p e ha hc hk s m args below hf hA hF happ hP
  obtain ⟨hcalls, hrest, hpre⟩ := hP
  obtain ⟨-, -, -, hnamed, -, -, -, hat⟩ := (Spec.applies_iff hf).mp happ
  obtain ⟨hg, hn⟩ := and_e (Cond.before_iff.mp (show (Jvm.Cond.and given_1 narrow_1).before args s = true from hpre))
  obtain ⟨g0, r0⟩ := and_e hg
  obtain ⟨g1, r1⟩ := and_e r0
  obtain ⟨g2, r2⟩ := and_e r1
  obtain ⟨g3, r3⟩ := and_e r2
  obtain ⟨g4, r4⟩ := and_e r3
  obtain ⟨g5, r5⟩ := and_e r4
  obtain ⟨w0, w1, w2, w3, w4, w5, rfl⟩ : ∃ w0 w1 w2 w3 w4 w5 : Value, args = #[w0, w1, w2, w3, w4, w5] := by
    have hs : args.size = 6 := by simpa [Cond.value, given_1] using g0
    obtain ⟨L⟩ := args
    match L, hs with
    | [w0, w1, w2, w3, w4, w5], _ => exact ⟨w0, w1, w2, w3, w4, w5, rfl⟩
  have hw := fun d (hd : d ∈ tables_1) => atoms_spec (ws := Jvm.Cond.code x code maxLocals ret :: tables_1) hat d (List.mem_cons_of_mem _ hd)
  obtain ⟨i0, ei0⟩ := is_v g1
  obtain rfl : w0 = (.int i0) := Option.some.inj ei0
  obtain ⟨i1, ei1⟩ := is_v g2
  obtain rfl : w1 = (.int i1) := Option.some.inj ei1
  obtain ⟨i2, ei2⟩ := is_v g3
  obtain rfl : w2 = (.int i2) := Option.some.inj ei2
  obtain ⟨i3, ei3⟩ := is_v g4
  obtain rfl : w3 = (.int i3) := Option.some.inj ei3
  obtain ⟨i4, ei4⟩ := is_v g5
  obtain rfl : w4 = (.int i4) := Option.some.inj ei4
  obtain ⟨i5, ei5⟩ := is_v r5
  obtain rfl : w5 = (.int i5) := Option.some.inj ei5
  obtain ⟨n, o, h1, h2, h3, _, L, rfl, ⟨rfl, N⟩, hq⟩ := rm0 l s _ hw tables_1 i0 i1 i2 i3 i4 i5  s.heap s.heap.size (Nat.le_refl _) p e ha hc hk s m _ below hf ((Spec.applies_iff_loose hf).mp happ).1 ⟨rfl, State.Warmed39.refl s, rfl⟩ trivial
  refine ⟨n, _, h1, h2, h3, hpost _ _ _ _ _ _ ⟨Cond.after_iff.mpr rfl, Cond.after_iff.mpr (eq_i res_at (Term.int_eval (1)) rfl), trivial⟩ ⟨hq.1, hq.2.1, (hq.2.2.sift fun y hy => Or.inr (N y hy)).mono (by decide) (by decide)⟩⟩
theorem main_1_1 : Claimed_1_1 := comes_1 fun _ _ _ _ _ _ h hF => ⟨h.1, hF⟩
theorem main_1_2 : Claimed_1_2 := comes_1 fun _ _ _ _ _ _ h hF => ⟨h.2.1, hF⟩
end Jvm.Pilot.@@N@@
namespace Jvm.Pilot.@@N@@
open Jvm Jvm.ClassFile Sem Op Lib Jvm.Free Jvm.Stand Jvm.Pilot.@@N@@.Jvm.D
/-! MADE BY PROGRAM (witnessworld.py) out of the Statement's table words and the real class files: 11 classes; the members and pool entries that the words name. The judged class is class 1, her method 3. -/
namespace start1
open Jvm.ClassFile
def u (s : String) : CpInfo := .utf8 (stringToUtf16 s)
/-- a pool by its gaps: so many unusable entries, then the entry; so many at the end -/
def gap : Nat → List CpInfo → List CpInfo
  | 0, r => r
  | n + 1, r => .unusable :: gap n r
def poolList (es : List (Nat × CpInfo)) (last : Nat) : List CpInfo := es.foldr (fun e r => gap e.1 (e.2 :: r)) (gap last [])
def pool (es : List (Nat × CpInfo)) (last : Nat) : Array CpInfo := ⟨poolList es last⟩
def fileOf (pool : Array CpInfo) (this : Nat) (attrs : Array Attribute := #[]) (ms : Array MethodInfo := #[]) (fl : Nat := 33) (sup : Nat := 0) (ifs : Array Nat := #[]) (fds : Array FieldInfo := #[]) : ClassFile where
  minorVersion := 0
  majorVersion := 65
  constantPool := pool
  accessFlags := fl
  thisClass := this
  superClass := sup
  interfaces := ifs
  fields := fds
  methods := ms
  attributes := attrs
def plain (name : String) (sup : Option ClassId) : Class where
  name := name
  kind := .ordinary
  loader := none
  accessFlags := 33
  super := sup
  interfaces := #[]
  cf := none
  fields := #[]
  methods := #[]
  instanceTypes := #[]
  staticTypes := #[]
  resolved := #[]
  callSites := []
  init := .initialized
  statics := none
  mirror := none

def pool0 : Array CpInfo := pool [(5, u "<init>"), (0, u "()V"), (1, .class_ 10), (1, u "java/lang/Object")] 113

def k0c0 : Code := { maxStack := 0, maxLocals := 1, code := object_method_1_code, exceptionTable := #[], attributes := #[] }
def k0m0 : Method := { name := "<init>", desc := "()V", sig := { parameters := [], returnType := none }, accessFlags := 1, code := some k0c0 }
/-- java/lang/Object -/
def k0 : Class := { plain "java/lang/Object" none with
  accessFlags := 33
  interfaces := #[]
  cf := some (fileOf pool0 8 #[] #[{ accessFlags := 1, nameIndex := 5, descriptorIndex := 6, attributes := #[] }] 33 0 #[] #[])
  fields := #[]
  methods := #[k0m0]
  instanceTypes := #[]
  staticTypes := #[]
  resolved := Array.replicate 124 none
  statics := none }

def pool1 : Array CpInfo := pool [(2, .class_ 4), (1, u "java/lang/Object"), (0, u "<init>"), (0, u "()V"), (0, .methodref 8 9), (0, .class_ 10), (0, .nameAndType 11 12), (0, u "com/example/garantia/garantia/engine/StateLayoutSetPinLaw"), (0, u "width"), (0, u "(II)I"), (0, .methodref 8 14), (0, .nameAndType 15 12), (0, u "low"), (0, .class_ 17), (0, u "com/example/garantia/garantia/engine/StateLayout"), (0, .methodref 16 19), (0, .nameAndType 5 20), (0, u "([I)V"), (0, .methodref 16 22), (0, .nameAndType 23 24), (0, u "pack"), (0, u "([I[JI)V"), (0, .methodref 16 26), (0, .nameAndType 27 28), (0, u "word"), (0, u "(I)I"), (0, .methodref 16 30), (0, .nameAndType 31 32), (0, u "change"), (0, u "(III)J"), (0, .methodref 16 34), (0, .nameAndType 35 36), (0, u "set"), (0, u "([JII)V"), (0, .methodref 16 38), (0, .nameAndType 39 40), (0, u "unpack"), (0, u "([JI[I)V"), (2, u "law"), (0, u "(IIIIII)Z")] 7

def k1m0 : Method := { name := "<init>", desc := "()V", sig := { parameters := [], returnType := none }, accessFlags := 1, code := none }
def k1c1 : Code := { maxStack := 3, maxLocals := 2, code := method_2_code, exceptionTable := #[], attributes := #[] }
def k1m1 : Method := { name := "width", desc := "(II)I", sig := { parameters := [.int, .int], returnType := some .int }, accessFlags := 10, code := some k1c1 }
def k1c2 : Code := { maxStack := 3, maxLocals := 2, code := method_3_code, exceptionTable := #[], attributes := #[] }
def k1m2 : Method := { name := "low", desc := "(II)I", sig := { parameters := [.int, .int], returnType := some .int }, accessFlags := 10, code := some k1c2 }
def k1c3 : Code := { maxStack := 6, maxLocals := 23, code := code, exceptionTable := #[], attributes := #[] }
def k1m3 : Method := { name := "law", desc := "(IIIIII)Z", sig := { parameters := [.int, .int, .int, .int, .int, .int], returnType := some .boolean }, accessFlags := 9, code := some k1c3 }
/-- com/example/garantia/garantia/engine/StateLayoutSetPinLaw -/
def k1 : Class := { plain "com/example/garantia/garantia/engine/StateLayoutSetPinLaw" (some 0) with
  accessFlags := 49
  interfaces := #[]
  cf := some (fileOf pool1 8 #[] #[{ accessFlags := 1, nameIndex := 5, descriptorIndex := 6, attributes := #[] }, { accessFlags := 10, nameIndex := 11, descriptorIndex := 12, attributes := #[] }, { accessFlags := 10, nameIndex := 15, descriptorIndex := 12, attributes := #[] }, { accessFlags := 9, nameIndex := 43, descriptorIndex := 44, attributes := #[] }] 49 2 #[] #[])
  fields := #[]
  methods := #[k1m0, k1m1, k1m2, k1m3]
  instanceTypes := #[]
  staticTypes := #[]
  resolved := Array.replicate 52 none
  statics := none }

def pool2 : Array CpInfo := pool [(1, .methodref 2 3), (0, .class_ 4), (0, .nameAndType 5 6), (0, u "java/lang/Object"), (0, u "<init>"), (0, u "()V"), (0, .fieldref 8 9), (0, .class_ 10), (0, .nameAndType 11 12), (0, u "com/example/garantia/garantia/engine/StateLayout"), (0, u "word"), (0, u "[I"), (0, .fieldref 8 14), (0, .nameAndType 15 12), (0, u "shift"), (0, .fieldref 8 17), (0, .nameAndType 18 19), (0, u "mask"), (0, u "[J"), (0, .fieldref 8 21), (0, .nameAndType 22 19), (0, u "others"), (2, .long 18446744073709551615), (1, .fieldref 8 28), (0, .nameAndType 29 30), (0, u "words"), (0, u "I"), (2, .fieldref 8 34), (0, .nameAndType 35 36), (0, u "narrow"), (0, u "Z"), (0, u "([I)V"), (6, u "pack"), (0, u "([I[JI)V"), (0, u "(I)I"), (0, u "change"), (0, u "(III)J"), (0, u "set"), (0, u "([JII)V"), (0, u "unpack"), (0, u "([JI[I)V")] 2

def k2c0 : Code := { maxStack := 6, maxLocals := 5, code := prog_46_method_1_code, exceptionTable := #[], attributes := #[] }
def k2m0 : Method := { name := "<init>", desc := "([I)V", sig := { parameters := [(.array .int)], returnType := none }, accessFlags := 0, code := some k2c0 }
def k2c1 : Code := { maxStack := 6, maxLocals := 8, code := prog_46_method_4_code, exceptionTable := #[], attributes := #[] }
def k2m1 : Method := { name := "pack", desc := "([I[JI)V", sig := { parameters := [(.array .int), (.array .long), .int], returnType := none }, accessFlags := 0, code := some k2c1 }
def k2c2 : Code := { maxStack := 2, maxLocals := 2, code := prog_46_method_5_code, exceptionTable := #[], attributes := #[] }
def k2m2 : Method := { name := "word", desc := "(I)I", sig := { parameters := [.int], returnType := some .int }, accessFlags := 0, code := some k2c2 }
def k2c3 : Code := { maxStack := 4, maxLocals := 4, code := prog_46_method_6_code, exceptionTable := #[], attributes := #[] }
def k2m3 : Method := { name := "change", desc := "(III)J", sig := { parameters := [.int, .int, .int], returnType := some .long }, accessFlags := 0, code := some k2c3 }
def k2c4 : Code := { maxStack := 8, maxLocals := 5, code := prog_46_method_7_code, exceptionTable := #[], attributes := #[] }
def k2m4 : Method := { name := "set", desc := "([JII)V", sig := { parameters := [(.array .long), .int, .int], returnType := none }, accessFlags := 0, code := some k2c4 }
def k2c5 : Code := { maxStack := 6, maxLocals := 5, code := prog_46_method_8_code, exceptionTable := #[], attributes := #[] }
def k2m5 : Method := { name := "unpack", desc := "([JI[I)V", sig := { parameters := [(.array .long), .int, (.array .int)], returnType := none }, accessFlags := 0, code := some k2c5 }
/-- com/example/garantia/garantia/engine/StateLayout -/
def k2 : Class := { plain "com/example/garantia/garantia/engine/StateLayout" (some 0) with
  accessFlags := 32
  interfaces := #[]
  cf := some (fileOf pool2 8 #[] #[{ accessFlags := 0, nameIndex := 5, descriptorIndex := 37, attributes := #[] }, { accessFlags := 0, nameIndex := 44, descriptorIndex := 45, attributes := #[] }, { accessFlags := 0, nameIndex := 11, descriptorIndex := 46, attributes := #[] }, { accessFlags := 0, nameIndex := 47, descriptorIndex := 48, attributes := #[] }, { accessFlags := 0, nameIndex := 49, descriptorIndex := 50, attributes := #[] }, { accessFlags := 0, nameIndex := 51, descriptorIndex := 52, attributes := #[] }] 32 2 #[] #[{ accessFlags := 18, nameIndex := 11, descriptorIndex := 12, attributes := #[] }, { accessFlags := 18, nameIndex := 15, descriptorIndex := 12, attributes := #[] }, { accessFlags := 18, nameIndex := 18, descriptorIndex := 19, attributes := #[] }, { accessFlags := 18, nameIndex := 22, descriptorIndex := 19, attributes := #[] }, { accessFlags := 18, nameIndex := 29, descriptorIndex := 30, attributes := #[] }, { accessFlags := 18, nameIndex := 35, descriptorIndex := 36, attributes := #[] }])
  fields := #[{ name := "word", type := (.array .int), accessFlags := 18, slot := 0, constantValue := 0 }, { name := "shift", type := (.array .int), accessFlags := 18, slot := 1, constantValue := 0 }, { name := "mask", type := (.array .long), accessFlags := 18, slot := 2, constantValue := 0 }, { name := "others", type := (.array .long), accessFlags := 18, slot := 3, constantValue := 0 }, { name := "words", type := .int, accessFlags := 18, slot := 4, constantValue := 0 }, { name := "narrow", type := .boolean, accessFlags := 18, slot := 5, constantValue := 0 }]
  methods := #[k2m0, k2m1, k2m2, k2m3, k2m4, k2m5]
  instanceTypes := #[(.array .int), (.array .int), (.array .long), (.array .long), .int, .boolean]
  staticTypes := #[]
  resolved := Array.replicate 55 none
  statics := none }

def pool3 : Array CpInfo := pool [(1, u "java/lang/Cloneable"), (0, .class_ 1), (0, u "java/lang/Object"), (0, .class_ 3)] 3

/-- java/lang/Cloneable -/
def k3 : Class := { plain "java/lang/Cloneable" (some 0) with
  accessFlags := 1537
  interfaces := #[]
  cf := some (fileOf pool3 2 #[] #[] 1537 4 #[] #[])
  fields := #[]
  methods := #[]
  instanceTypes := #[]
  staticTypes := #[]
  resolved := Array.replicate 8 none
  statics := none }

def pool4 : Array CpInfo := pool [(1, u "java/io/Serializable"), (0, .class_ 1), (0, u "java/lang/Object"), (0, .class_ 3)] 3

/-- java/io/Serializable -/
def k4 : Class := { plain "java/io/Serializable" (some 0) with
  accessFlags := 1537
  interfaces := #[]
  cf := some (fileOf pool4 2 #[] #[] 1537 4 #[] #[])
  fields := #[]
  methods := #[]
  instanceTypes := #[]
  staticTypes := #[]
  resolved := Array.replicate 8 none
  statics := none }

/-- the primitive byte -/
def k5 : Class := { plain "byte" none with kind := .primitive 'B', accessFlags := 0x411 }
/-- [B -/
def k6 : Class := { plain "[B" (some 0) with kind := .array 5 .byte, interfaces := #[3, 4], accessFlags := 1041 }

/-- the primitive int -/
def k7 : Class := { plain "int" none with kind := .primitive 'I', accessFlags := 0x411 }
/-- [I -/
def k8 : Class := { plain "[I" (some 0) with kind := .array 7 .int, interfaces := #[3, 4], accessFlags := 1041 }

/-- the primitive long -/
def k9 : Class := { plain "long" none with kind := .primitive 'J', accessFlags := 0x411 }
/-- [J -/
def k10 : Class := { plain "[J" (some 0) with kind := .array 9 .long, interfaces := #[3, 4], accessFlags := 1041 }

def heap : Heap := #[]
def classes : Array Class := #[k0, k1, k2, k3, k4, k5, k6, k7, k8, k9, k10]
def interned : List (Array UInt16 × Addr) := []
def slotsUsed : Nat := 0
def theMethod : MethodId := ⟨1, 3⟩
def args0 : Array Value := #[.int 5, .int 6, .int 7, .int 8, .int 9, .int 10]
def aboutOver (below : List Frame) : State where
  vm := { classes := classes, interned := interned.toArray }
  heap := heap
  slotsUsed := slotsUsed
  threads := #[{ frames := .invoking theMethod args0 :: below }]
def below0 : List Frame := [.native { method := ⟨0, 0⟩, args := #[] }]
def about1 : State := aboutOver below0
def p0 : Program := .bare "" "" ""
def e0 : Env := launch0.env 0 0 0
theorem w_frames : about1.frames = Frame.invoking theMethod args0 :: below0 := rfl
set_option maxRecDepth 65536 in
theorem w_args : argsFit about1.vm theMethod args0 = true := by decide +kernel
set_option maxRecDepth 65536 in
theorem w_heap : heapFits about1 = true := by decide +kernel
set_option maxRecDepth 65536 in
theorem w_runnable : about1.curStatus? = some .runnable := by decide +kernel
set_option maxRecDepth 65536 in
theorem w_alone : about1.alone = true := by decide +kernel
set_option maxRecDepth 65536 in
theorem w_named : about1.methodNamed? x = some theMethod := by decide +kernel
set_option maxRecDepth 65536 in
theorem w_hears : about1.hears theMethod below0 = true := by decide +kernel
set_option maxRecDepth 65536 in
theorem w_ripe : about1.ripe theMethod args0 below0 = true := by decide +kernel
theorem w_running : about1.status = .running := rfl
set_option maxRecDepth 65536 in
theorem w_room : about1.hasRoom e0.platform room_1 = true :=
  launch0.hasRoom_least _ room_1 (by decide +kernel) (by decide +kernel) (by decide +kernel) (by decide +kernel) (by decide +kernel) (by decide +kernel)
theorem allAtoms_all (ts : List Jvm.Cond) (a : Array Jvm.Value) (st : Jvm.State) : (allAtoms ts).before a st = ts.all (fun c => c.before a st) := by
  induction ts with
  | nil => rfl
  | cons c t ih =>
    show (Jvm.Cond.and c (allAtoms t)).before a st = _
    rw [Jvm.Cond.before_and, ih, List.all_cons]
def words1 : List Jvm.Cond := Jvm.Cond.code x code maxLocals ret :: tables_1
/-- a 'code' word, met by the world's own term for the bytes: nothing is compared byte by byte -/
theorem code_word {y : MethodName} {bytes : ByteArray} {mx : Nat} {rt : Option FieldType} {a : Array Value} {s : State} {m : MethodId} {meth : Method} {c : Code} (h1 : s.methodNamed? y = some m) (h2 : s.vm.method? m = some meth) (h3 : meth.code = some c) (h4 : c.code = bytes)
    (h5 : (c.maxLocals == mx && c.exceptionTable.isEmpty && decide (c.maxStack ≤ mostOperands) && decide (meth.sig.returnType = rt) && !meth.locks && decide (parseMethodDescriptor y.desc = some meth.sig)) = true) : (Jvm.Cond.code y bytes mx rt).before a s = true := by
  simp only [Bool.and_eq_true, beq_iff_eq, Bool.not_eq_true', decide_eq_true_eq] at h5
  obtain ⟨⟨⟨⟨⟨g1, g2⟩, g3⟩, g4⟩, g5⟩, g6⟩ := h5
  simp [Cond.before, Cond.holds, Cond.value, h1, h2, h3, h4, g1, g2, g3, g4, g5, g6]
def isCode : Jvm.Cond → Bool
  | .code _ _ _ _ => true
  | _ => false
theorem all_split {L : List Jvm.Cond} {P : Jvm.Cond → Bool} (h1 : L.all (fun c => isCode c || P c) = true) (h2 : ∀ c ∈ L.filter isCode, P c = true) : L.all P = true := by
  refine List.all_eq_true.mpr fun c hc => ?_
  have h := List.all_eq_true.mp h1 c hc
  rcases Bool.eq_false_or_eq_true (isCode c) with hi | hi
  · exact h2 c (List.mem_filter.mpr ⟨hc, hi⟩)
  · simpa [hi] using h
set_option maxRecDepth 65536 in
theorem w_c0 : (Jvm.Cond.code x code maxLocals ret).before args0 about1 = true := code_word (m := ⟨1, 3⟩) (meth := k1m3) (c := k1c3) (by decide +kernel) rfl rfl rfl (by decide +kernel)
set_option maxRecDepth 65536 in
theorem w_c1 : (Jvm.Cond.code ({ cls := "com/example/garantia/garantia/engine/StateLayoutSetPinLaw", name := "width", desc := "(II)I" } : Jvm.MethodName) method_2_code (2 : Nat) (Option.some Jvm.ClassFile.FieldType.int)).before args0 about1 = true := code_word (m := ⟨1, 1⟩) (meth := k1m1) (c := k1c1) (by decide +kernel) rfl rfl rfl (by decide +kernel)
set_option maxRecDepth 65536 in
theorem w_c2 : (Jvm.Cond.code ({ cls := "com/example/garantia/garantia/engine/StateLayoutSetPinLaw", name := "low", desc := "(II)I" } : Jvm.MethodName) method_3_code (2 : Nat) (Option.some Jvm.ClassFile.FieldType.int)).before args0 about1 = true := code_word (m := ⟨1, 2⟩) (meth := k1m2) (c := k1c2) (by decide +kernel) rfl rfl rfl (by decide +kernel)
set_option maxRecDepth 65536 in
theorem w_c3 : (Jvm.Cond.code ({ cls := "com/example/garantia/garantia/engine/StateLayout", name := "<init>", desc := "([I)V" } : Jvm.MethodName) prog_46_method_1_code (5 : Nat) (Option.none : Option Jvm.ClassFile.FieldType)).before args0 about1 = true := code_word (m := ⟨2, 0⟩) (meth := k2m0) (c := k2c0) (by decide +kernel) rfl rfl rfl (by decide +kernel)
set_option maxRecDepth 65536 in
theorem w_c4 : (Jvm.Cond.code ({ cls := "java/lang/Object", name := "<init>", desc := "()V" } : Jvm.MethodName) object_method_1_code (1 : Nat) (Option.none : Option Jvm.ClassFile.FieldType)).before args0 about1 = true := code_word (m := ⟨0, 0⟩) (meth := k0m0) (c := k0c0) (by decide +kernel) rfl rfl rfl (by decide +kernel)
set_option maxRecDepth 65536 in
theorem w_c5 : (Jvm.Cond.code ({ cls := "com/example/garantia/garantia/engine/StateLayout", name := "pack", desc := "([I[JI)V" } : Jvm.MethodName) prog_46_method_4_code (8 : Nat) (Option.none : Option Jvm.ClassFile.FieldType)).before args0 about1 = true := code_word (m := ⟨2, 1⟩) (meth := k2m1) (c := k2c1) (by decide +kernel) rfl rfl rfl (by decide +kernel)
set_option maxRecDepth 65536 in
theorem w_c6 : (Jvm.Cond.code ({ cls := "com/example/garantia/garantia/engine/StateLayout", name := "word", desc := "(I)I" } : Jvm.MethodName) prog_46_method_5_code (2 : Nat) (Option.some Jvm.ClassFile.FieldType.int)).before args0 about1 = true := code_word (m := ⟨2, 2⟩) (meth := k2m2) (c := k2c2) (by decide +kernel) rfl rfl rfl (by decide +kernel)
set_option maxRecDepth 65536 in
theorem w_c7 : (Jvm.Cond.code ({ cls := "com/example/garantia/garantia/engine/StateLayout", name := "change", desc := "(III)J" } : Jvm.MethodName) prog_46_method_6_code (4 : Nat) (Option.some Jvm.ClassFile.FieldType.long)).before args0 about1 = true := code_word (m := ⟨2, 3⟩) (meth := k2m3) (c := k2c3) (by decide +kernel) rfl rfl rfl (by decide +kernel)
set_option maxRecDepth 65536 in
theorem w_c8 : (Jvm.Cond.code ({ cls := "com/example/garantia/garantia/engine/StateLayout", name := "set", desc := "([JII)V" } : Jvm.MethodName) prog_46_method_7_code (5 : Nat) (Option.none : Option Jvm.ClassFile.FieldType)).before args0 about1 = true := code_word (m := ⟨2, 4⟩) (meth := k2m4) (c := k2c4) (by decide +kernel) rfl rfl rfl (by decide +kernel)
set_option maxRecDepth 65536 in
theorem w_c9 : (Jvm.Cond.code ({ cls := "com/example/garantia/garantia/engine/StateLayout", name := "unpack", desc := "([JI[I)V" } : Jvm.MethodName) prog_46_method_8_code (5 : Nat) (Option.none : Option Jvm.ClassFile.FieldType)).before args0 about1 = true := code_word (m := ⟨2, 5⟩) (meth := k2m5) (c := k2c5) (by decide +kernel) rfl rfl rfl (by decide +kernel)
def codes1 : List Jvm.Cond := [Jvm.Cond.code x code maxLocals ret, Jvm.Cond.code ({ cls := "com/example/garantia/garantia/engine/StateLayoutSetPinLaw", name := "width", desc := "(II)I" } : Jvm.MethodName) method_2_code (2 : Nat) (Option.some Jvm.ClassFile.FieldType.int), Jvm.Cond.code ({ cls := "com/example/garantia/garantia/engine/StateLayoutSetPinLaw", name := "low", desc := "(II)I" } : Jvm.MethodName) method_3_code (2 : Nat) (Option.some Jvm.ClassFile.FieldType.int), Jvm.Cond.code ({ cls := "com/example/garantia/garantia/engine/StateLayout", name := "<init>", desc := "([I)V" } : Jvm.MethodName) prog_46_method_1_code (5 : Nat) (Option.none : Option Jvm.ClassFile.FieldType), Jvm.Cond.code ({ cls := "java/lang/Object", name := "<init>", desc := "()V" } : Jvm.MethodName) object_method_1_code (1 : Nat) (Option.none : Option Jvm.ClassFile.FieldType), Jvm.Cond.code ({ cls := "com/example/garantia/garantia/engine/StateLayout", name := "pack", desc := "([I[JI)V" } : Jvm.MethodName) prog_46_method_4_code (8 : Nat) (Option.none : Option Jvm.ClassFile.FieldType), Jvm.Cond.code ({ cls := "com/example/garantia/garantia/engine/StateLayout", name := "word", desc := "(I)I" } : Jvm.MethodName) prog_46_method_5_code (2 : Nat) (Option.some Jvm.ClassFile.FieldType.int), Jvm.Cond.code ({ cls := "com/example/garantia/garantia/engine/StateLayout", name := "change", desc := "(III)J" } : Jvm.MethodName) prog_46_method_6_code (4 : Nat) (Option.some Jvm.ClassFile.FieldType.long), Jvm.Cond.code ({ cls := "com/example/garantia/garantia/engine/StateLayout", name := "set", desc := "([JII)V" } : Jvm.MethodName) prog_46_method_7_code (5 : Nat) (Option.none : Option Jvm.ClassFile.FieldType), Jvm.Cond.code ({ cls := "com/example/garantia/garantia/engine/StateLayout", name := "unpack", desc := "([JI[I)V" } : Jvm.MethodName) prog_46_method_8_code (5 : Nat) (Option.none : Option Jvm.ClassFile.FieldType)]
set_option maxRecDepth 65536 in
theorem codes_eq : words1.filter isCode = codes1 := rfl
theorem w_codes : ∀ c ∈ words1.filter isCode, c.before args0 about1 = true := by
  rw [codes_eq]
  intro c hc
  simp only [codes1, List.mem_cons, List.not_mem_nil, or_false] at hc
  rcases hc with rfl | rfl | rfl | rfl | rfl | rfl | rfl | rfl | rfl | rfl
  · exact w_c0
  · exact w_c1
  · exact w_c2
  · exact w_c3
  · exact w_c4
  · exact w_c5
  · exact w_c6
  · exact w_c7
  · exact w_c8
  · exact w_c9
set_option maxRecDepth 65536 in
theorem w_t1 : (words1.take 24).all (fun c => isCode c || c.before args0 about1) = true := by decide +kernel
set_option maxRecDepth 65536 in
theorem w_t2 : ((words1.drop 24).take 24).all (fun c => isCode c || c.before args0 about1) = true := by decide +kernel
set_option maxRecDepth 65536 in
theorem w_t3 : ((words1.drop 24).drop 24).all (fun c => isCode c || c.before args0 about1) = true := by decide +kernel
theorem w_tables : (allAtoms (Jvm.Cond.code x code maxLocals ret :: tables_1)).before args0 about1 = true := by
  rw [allAtoms_all]
  show words1.all (fun c => c.before args0 about1) = true
  refine all_split ?_ w_codes
  rw [← List.take_append_drop 24 words1, List.all_append, w_t1, ← List.take_append_drop 24 (words1.drop 24), List.all_append, w_t2, w_t3]
  rfl
set_option maxRecDepth 65536 in
theorem w_case : (Jvm.Cond.and given_1 narrow_1).before args0 about1 = true := by decide +kernel
theorem w_applies : (headSpec (Jvm.Cond.code x code maxLocals ret :: tables_1) room_1).applies x e0.platform about1 = true :=
  (Spec.applies_iff w_frames).mpr ⟨w_running, w_runnable, w_alone, w_named, w_hears, w_ripe, w_room, w_tables⟩
theorem atStart : AtStart classFile x code maxLocals ret World_1 tables_1 room_1 Calls_1 rest_1 Pre_1 launch0 p0 e0 about1 theMethod args0 below0 :=
  ⟨lists_1, trivial, launch0.admits_env _ _ _, launch0.least_env, fairChoices_fair.cas, fairChoices_fair.clock, w_frames, w_args, w_heap, w_applies, trivial, trivial, w_case⟩
end start1
theorem witness_1 : WitnessClaimed_1 := ⟨start1.p0, start1.e0, start1.about1, start1.theMethod, start1.args0, start1.below0, start1.atStart⟩
end Jvm.Pilot.@@N@@
