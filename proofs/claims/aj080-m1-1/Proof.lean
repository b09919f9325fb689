import JvmDerived
import JvmDerived.Pilot.@@N@@Statement
import JvmDerived.Pilot.@@N@@Code
set_option linter.unusedVariables false
set_option linter.unusedSimpArgs false
namespace Jvm.RoadKit
open Sem ClassFile Op Lib Jvm.Stand Jvm.Free Jvm.LawKit
abbrev vI (x : Int32) : Slot := .val (.int x)
abbrev vJ (x : Int64) : Slot := .val (.long x)
abbrev vR (a : Addr) : Slot := .val (.ref a)
/-- from S0 the run comes to T with g on top -/
def Go (tb : Tables) (e : Env) (below : List Frame) (S0 T : State) (g : JFrame) : Prop := ∀ t, Steps tb e below (T.setTop g) t → Steps tb e below S0 t
theorem Go.fin {tb : Tables} {e : Env} {below : List Frame} {S0 S T t : State} {g : JFrame} (h : Go tb e below S0 T g) (q : S0 = S) (k : Steps tb e below (T.setTop g) t) : Steps tb e below S t := q ▸ h t k
section New
variable {p : Program} {l : Launch} {e : Env} {R : Room} {s : State} {m : MethodId} {args : Array Value} {below : List Frame} {meth : Method} {c : Code} {T : State} {locs : List Loc} {cells slots : Nat}
theorem lremM {g : JFrame} {target : State} (X : Stand p l e R s m args below meth c T locs cells slots) (hx : p.tables.exec = Jvm.exec) (hg : g.method = m) {x y : Int64} {rest : List Value} (hd : decode c.code g.pc = .ok (.lrem, 1)) (hs : g.stack = .long y :: .long x :: rest) (hy : y ≠ 0)
    (hr : Steps p.tables e below (T.setTop { g with pc := g.pc + 1, stack := .long (x % y) :: rest }) target) : Steps p.tables e below (T.setTop g) target := by
  have q : x - x / y * y = x % y := lrem_mod x y
  exact XS.lrem X.here hx hg hd hs hy (by rw [q]; exact hr)
end New
end Jvm.RoadKit
namespace Jvm.Pilot.@@N@@
open Jvm Jvm.ClassFile Sem Op Lib Jvm.Free Jvm.Stand Jvm.LawKit Jvm.RoadKit Bundle Jvm.Pilot.@@N@@.Jvm.D
def own_ns_185 (p0 : Int32) : Int32 := if p0 < (65536 : Int32) then ((0 : Int32)) else (if (983039 : Int32) < p0 then ((0 : Int32)) else ((1 : Int32)))
def own_ns_173 (p0 : Int32) : Int32 := if p0 < (65008 : Int32) then (own_ns_185 p0) else (if (65533 : Int32) < p0 then (own_ns_185 p0) else ((1 : Int32)))
def own_ns_161 (p0 : Int32) : Int32 := if p0 < (63744 : Int32) then (own_ns_173 p0) else (if (64975 : Int32) < p0 then (own_ns_173 p0) else ((1 : Int32)))
def own_ns_148 (p0 : Int32) : Int32 := if p0 < (12289 : Int32) then (own_ns_161 p0) else (if (55295 : Int32) < p0 then (own_ns_161 p0) else ((1 : Int32)))
def own_ns_134 (p0 : Int32) : Int32 := if p0 < (11264 : Int32) then (own_ns_148 p0) else (if (12271 : Int32) < p0 then (own_ns_148 p0) else ((1 : Int32)))
def own_ns_106 (p0 : Int32) : Int32 := if p0 = (8204 : Int32) then ((1 : Int32)) else (if p0 = (8205 : Int32) then ((1 : Int32)) else (if p0 < (8304 : Int32) then (own_ns_134 p0) else (if (8591 : Int32) < p0 then (own_ns_134 p0) else ((1 : Int32)))))
def own_ns_92 (p0 : Int32) : Int32 := if p0 < (895 : Int32) then (own_ns_106 p0) else (if (8191 : Int32) < p0 then (own_ns_106 p0) else ((1 : Int32)))
def own_ns_78 (p0 : Int32) : Int32 := if p0 < (880 : Int32) then (own_ns_92 p0) else (if (893 : Int32) < p0 then (own_ns_92 p0) else ((1 : Int32)))
def own_ns_64 (p0 : Int32) : Int32 := if p0 < (248 : Int32) then (own_ns_78 p0) else (if (767 : Int32) < p0 then (own_ns_78 p0) else ((1 : Int32)))
def own_ns_50 (p0 : Int32) : Int32 := if p0 < (216 : Int32) then (own_ns_64 p0) else (if (246 : Int32) < p0 then (own_ns_64 p0) else ((1 : Int32)))
def own_ns_24 (p0 : Int32) : Int32 := if p0 = (58 : Int32) then ((1 : Int32)) else (if p0 = (95 : Int32) then ((1 : Int32)) else (if p0 < (192 : Int32) then (own_ns_50 p0) else (if (214 : Int32) < p0 then (own_ns_50 p0) else ((1 : Int32)))))
def own_ns_12 (p0 : Int32) : Int32 := if p0 < (65 : Int32) then (own_ns_24 p0) else (if (90 : Int32) < p0 then (own_ns_24 p0) else ((1 : Int32)))
def own_ns (p0 : Int32) : Int32 := if p0 < (97 : Int32) then (own_ns_12 p0) else (if (122 : Int32) < p0 then (own_ns_12 p0) else ((1 : Int32)))
theorem ef_1 (m : MethodId) (x0 : Int32) : entryFrame m #[(.int x0)] 1 = mkF m 0 #[.val (.int x0)] [] := by first | (simp [entryFrame, mkF, argsToLocals, Value.category]; done) | rfl
theorem pn_0 : plainName "com/example/ratatoskr/ratatoskr/xml/XmlChars" = true := by first | (simp [plainName, overriddenIn]; done) | decide +kernel
theorem d1_0 : decode prog_118_method_4_code 0 = .ok (.iload_n 0, 1) := by decide +kernel
theorem d1_1 : decode prog_118_method_4_code 1 = .ok (.bipush 97, 2) := by decide +kernel
theorem d1_3 : decode prog_118_method_4_code 3 = .ok (.if_icmp .lt 9, 3) := by decide +kernel
theorem d1_6 : decode prog_118_method_4_code 6 = .ok (.iload_n 0, 1) := by decide +kernel
theorem d1_7 : decode prog_118_method_4_code 7 = .ok (.bipush 122, 2) := by decide +kernel
theorem d1_9 : decode prog_118_method_4_code 9 = .ok (.if_icmp .le 188, 3) := by decide +kernel
theorem d1_12 : decode prog_118_method_4_code 12 = .ok (.iload_n 0, 1) := by decide +kernel
theorem d1_13 : decode prog_118_method_4_code 13 = .ok (.bipush 65, 2) := by decide +kernel
theorem d1_15 : decode prog_118_method_4_code 15 = .ok (.if_icmp .lt 9, 3) := by decide +kernel
theorem d1_18 : decode prog_118_method_4_code 18 = .ok (.iload_n 0, 1) := by decide +kernel
theorem d1_19 : decode prog_118_method_4_code 19 = .ok (.bipush 90, 2) := by decide +kernel
theorem d1_21 : decode prog_118_method_4_code 21 = .ok (.if_icmp .le 176, 3) := by decide +kernel
theorem d1_24 : decode prog_118_method_4_code 24 = .ok (.iload_n 0, 1) := by decide +kernel
theorem d1_25 : decode prog_118_method_4_code 25 = .ok (.bipush 58, 2) := by decide +kernel
theorem d1_27 : decode prog_118_method_4_code 27 = .ok (.if_icmp .eq 170, 3) := by decide +kernel
theorem d1_30 : decode prog_118_method_4_code 30 = .ok (.iload_n 0, 1) := by decide +kernel
theorem d1_31 : decode prog_118_method_4_code 31 = .ok (.bipush 95, 2) := by decide +kernel
theorem d1_33 : decode prog_118_method_4_code 33 = .ok (.if_icmp .eq 164, 3) := by decide +kernel
theorem d1_36 : decode prog_118_method_4_code 36 = .ok (.iload_n 0, 1) := by decide +kernel
theorem d1_37 : decode prog_118_method_4_code 37 = .ok (.sipush 192, 3) := by decide +kernel
theorem d1_40 : decode prog_118_method_4_code 40 = .ok (.if_icmp .lt 10, 3) := by decide +kernel
theorem d1_43 : decode prog_118_method_4_code 43 = .ok (.iload_n 0, 1) := by decide +kernel
theorem d1_44 : decode prog_118_method_4_code 44 = .ok (.sipush 214, 3) := by decide +kernel
theorem d1_47 : decode prog_118_method_4_code 47 = .ok (.if_icmp .le 150, 3) := by decide +kernel
theorem d1_50 : decode prog_118_method_4_code 50 = .ok (.iload_n 0, 1) := by decide +kernel
theorem d1_51 : decode prog_118_method_4_code 51 = .ok (.sipush 216, 3) := by decide +kernel
theorem d1_54 : decode prog_118_method_4_code 54 = .ok (.if_icmp .lt 10, 3) := by decide +kernel
theorem d1_57 : decode prog_118_method_4_code 57 = .ok (.iload_n 0, 1) := by decide +kernel
theorem d1_58 : decode prog_118_method_4_code 58 = .ok (.sipush 246, 3) := by decide +kernel
theorem d1_61 : decode prog_118_method_4_code 61 = .ok (.if_icmp .le 136, 3) := by decide +kernel
theorem d1_64 : decode prog_118_method_4_code 64 = .ok (.iload_n 0, 1) := by decide +kernel
theorem d1_65 : decode prog_118_method_4_code 65 = .ok (.sipush 248, 3) := by decide +kernel
theorem d1_68 : decode prog_118_method_4_code 68 = .ok (.if_icmp .lt 10, 3) := by decide +kernel
theorem d1_71 : decode prog_118_method_4_code 71 = .ok (.iload_n 0, 1) := by decide +kernel
theorem d1_72 : decode prog_118_method_4_code 72 = .ok (.sipush 767, 3) := by decide +kernel
theorem d1_75 : decode prog_118_method_4_code 75 = .ok (.if_icmp .le 122, 3) := by decide +kernel
theorem d1_78 : decode prog_118_method_4_code 78 = .ok (.iload_n 0, 1) := by decide +kernel
theorem d1_79 : decode prog_118_method_4_code 79 = .ok (.sipush 880, 3) := by decide +kernel
theorem d1_82 : decode prog_118_method_4_code 82 = .ok (.if_icmp .lt 10, 3) := by decide +kernel
theorem d1_85 : decode prog_118_method_4_code 85 = .ok (.iload_n 0, 1) := by decide +kernel
theorem d1_86 : decode prog_118_method_4_code 86 = .ok (.sipush 893, 3) := by decide +kernel
theorem d1_89 : decode prog_118_method_4_code 89 = .ok (.if_icmp .le 108, 3) := by decide +kernel
theorem d1_92 : decode prog_118_method_4_code 92 = .ok (.iload_n 0, 1) := by decide +kernel
theorem d1_93 : decode prog_118_method_4_code 93 = .ok (.sipush 895, 3) := by decide +kernel
theorem d1_96 : decode prog_118_method_4_code 96 = .ok (.if_icmp .lt 10, 3) := by decide +kernel
theorem d1_99 : decode prog_118_method_4_code 99 = .ok (.iload_n 0, 1) := by decide +kernel
theorem d1_100 : decode prog_118_method_4_code 100 = .ok (.sipush 8191, 3) := by decide +kernel
theorem d1_103 : decode prog_118_method_4_code 103 = .ok (.if_icmp .le 94, 3) := by decide +kernel
theorem d1_106 : decode prog_118_method_4_code 106 = .ok (.iload_n 0, 1) := by decide +kernel
theorem d1_107 : decode prog_118_method_4_code 107 = .ok (.sipush 8204, 3) := by decide +kernel
theorem d1_110 : decode prog_118_method_4_code 110 = .ok (.if_icmp .eq 87, 3) := by decide +kernel
theorem d1_113 : decode prog_118_method_4_code 113 = .ok (.iload_n 0, 1) := by decide +kernel
theorem d1_114 : decode prog_118_method_4_code 114 = .ok (.sipush 8205, 3) := by decide +kernel
theorem d1_117 : decode prog_118_method_4_code 117 = .ok (.if_icmp .eq 80, 3) := by decide +kernel
theorem d1_120 : decode prog_118_method_4_code 120 = .ok (.iload_n 0, 1) := by decide +kernel
theorem d1_121 : decode prog_118_method_4_code 121 = .ok (.sipush 8304, 3) := by decide +kernel
theorem d1_124 : decode prog_118_method_4_code 124 = .ok (.if_icmp .lt 10, 3) := by decide +kernel
theorem d1_127 : decode prog_118_method_4_code 127 = .ok (.iload_n 0, 1) := by decide +kernel
theorem d1_128 : decode prog_118_method_4_code 128 = .ok (.sipush 8591, 3) := by decide +kernel
theorem d1_131 : decode prog_118_method_4_code 131 = .ok (.if_icmp .le 66, 3) := by decide +kernel
theorem d1_134 : decode prog_118_method_4_code 134 = .ok (.iload_n 0, 1) := by decide +kernel
theorem d1_135 : decode prog_118_method_4_code 135 = .ok (.sipush 11264, 3) := by decide +kernel
theorem d1_138 : decode prog_118_method_4_code 138 = .ok (.if_icmp .lt 10, 3) := by decide +kernel
theorem d1_141 : decode prog_118_method_4_code 141 = .ok (.iload_n 0, 1) := by decide +kernel
theorem d1_142 : decode prog_118_method_4_code 142 = .ok (.sipush 12271, 3) := by decide +kernel
theorem d1_145 : decode prog_118_method_4_code 145 = .ok (.if_icmp .le 52, 3) := by decide +kernel
theorem d1_148 : decode prog_118_method_4_code 148 = .ok (.iload_n 0, 1) := by decide +kernel
theorem d1_149 : decode prog_118_method_4_code 149 = .ok (.sipush 12289, 3) := by decide +kernel
theorem d1_152 : decode prog_118_method_4_code 152 = .ok (.if_icmp .lt 9, 3) := by decide +kernel
theorem d1_155 : decode prog_118_method_4_code 155 = .ok (.iload_n 0, 1) := by decide +kernel
theorem d1_156 : decode prog_118_method_4_code 156 = .ok (.ldc 7, 2) := by decide +kernel
theorem d1_158 : decode prog_118_method_4_code 158 = .ok (.if_icmp .le 39, 3) := by decide +kernel
theorem d1_161 : decode prog_118_method_4_code 161 = .ok (.iload_n 0, 1) := by decide +kernel
theorem d1_162 : decode prog_118_method_4_code 162 = .ok (.ldc 12, 2) := by decide +kernel
theorem d1_164 : decode prog_118_method_4_code 164 = .ok (.if_icmp .lt 9, 3) := by decide +kernel
theorem d1_167 : decode prog_118_method_4_code 167 = .ok (.iload_n 0, 1) := by decide +kernel
theorem d1_168 : decode prog_118_method_4_code 168 = .ok (.ldc 13, 2) := by decide +kernel
theorem d1_170 : decode prog_118_method_4_code 170 = .ok (.if_icmp .le 27, 3) := by decide +kernel
theorem d1_173 : decode prog_118_method_4_code 173 = .ok (.iload_n 0, 1) := by decide +kernel
theorem d1_174 : decode prog_118_method_4_code 174 = .ok (.ldc 14, 2) := by decide +kernel
theorem d1_176 : decode prog_118_method_4_code 176 = .ok (.if_icmp .lt 9, 3) := by decide +kernel
theorem d1_179 : decode prog_118_method_4_code 179 = .ok (.iload_n 0, 1) := by decide +kernel
theorem d1_180 : decode prog_118_method_4_code 180 = .ok (.ldc 9, 2) := by decide +kernel
theorem d1_182 : decode prog_118_method_4_code 182 = .ok (.if_icmp .le 15, 3) := by decide +kernel
theorem d1_185 : decode prog_118_method_4_code 185 = .ok (.iload_n 0, 1) := by decide +kernel
theorem d1_186 : decode prog_118_method_4_code 186 = .ok (.ldc 10, 2) := by decide +kernel
theorem d1_188 : decode prog_118_method_4_code 188 = .ok (.if_icmp .lt 13, 3) := by decide +kernel
theorem d1_191 : decode prog_118_method_4_code 191 = .ok (.iload_n 0, 1) := by decide +kernel
theorem d1_192 : decode prog_118_method_4_code 192 = .ok (.ldc 15, 2) := by decide +kernel
theorem d1_194 : decode prog_118_method_4_code 194 = .ok (.if_icmp .gt 7, 3) := by decide +kernel
theorem d1_197 : decode prog_118_method_4_code 197 = .ok (.iconst 1, 1) := by decide +kernel
theorem d1_198 : decode prog_118_method_4_code 198 = .ok (.goto 4, 3) := by decide +kernel
theorem d1_201 : decode prog_118_method_4_code 201 = .ok (.iconst 0, 1) := by decide +kernel
theorem d1_202 : decode prog_118_method_4_code 202 = .ok (.ireturn, 1) := by decide +kernel
def Q1 (Z : State) (p0 : Int32) (h0 : Heap) (n0 : Nat) (v : Option Value) (h : Heap) (L : List Loc) : Prop := v = some (.int (own_ns p0)) ∧ Fr n0 L ∧ h = h0
set_option maxRecDepth 65536 in
set_option maxHeartbeats 40000000 in
theorem rm1 (l : Launch) (Z : State) (A0 : Array Value) (hw : ∀ d ∈ tables_1, d.before A0 Z = true) (ws : List Jvm.Cond) (p0 : Int32)  (h0 : Heap) (n0 : Nat) (Z0 : n0 ≤ h0.size)  :
    MetFree l (⟨"com/example/ratatoskr/ratatoskr/xml/XmlChars", "isNameStart", "(I)Z"⟩ : MethodName) (head1 (Jvm.Cond.code (⟨"com/example/ratatoskr/ratatoskr/xml/XmlChars", "isNameStart", "(I)Z"⟩ : MethodName) prog_118_method_4_code 1 (some .boolean) :: ws) ({ frames := 0, cells := 0, slots := 0, locals := 0 } : Room)) (fun a U => a = #[(.int p0)] ∧ Z.Warmed39 U.vm ∧ U.heap = h0) (fun _ _ _ _ _ => True) (fun _ U o U' => ∃ v L, o = .returned v ∧ Q1 Z p0 h0 n0 v U'.heap L ∧ FrameEnd U o U' L ({ frames := 0, cells := 0, slots := 0, locals := 0 } : Room).cells ({ frames := 0, cells := 0, slots := 0, locals := 0 } : Room).slots) := by
  refine MetFree.of_bodySF (plainFor_of_name pn_0) hisR ?_
  intro p e s m args below meth c s₁ Bd hml0 hP hK
  obtain ⟨rfl, hZ, hh⟩ := hP
  have hx := Bd.exec
  have hby := Bd.bytes
  have hml : c.maxLocals = 1 := hml0
  have hown : s.vm.findClass "com/example/ratatoskr/ratatoskr/xml/XmlChars" = some m.cls := findClass_of_methodNamed Bd.named
  have hnm := (name_of_methodNamed Bd.named Bd.method).1
  have X0 : Stand p l e ({ frames := 0, cells := 0, slots := 0, locals := 0 } : Room) s m #[(.int p0)] below meth c s₁ [] 0 0 := Stand.of_body Bd
  have e0 : s₁.heap = h0 := by rw [← hh, Bd.state]; rfl
  have N0 := Fr.nil n0
  obtain ⟨S0, hS0⟩ : ∃ z, z = s₁.setTop (entryFrame m #[(.int p0)] 1) := ⟨_, rfl⟩
  have pre0 : Go p.tables e below S0 s₁ (mkF m 0 #[vI p0] []) := fun t k => by rw [hS0]; exact castTop (ef_1 m p0) k
  have pre1 : Go p.tables e below S0 s₁ (mkF m 3 #[vI p0] [(.int (97 : Int32)), (.int p0)]) := fun t k => pre0 t (by
    refine XS.iloadN X0.here hx rfl (hb hby d1_0) rfl ?_
    show Steps p.tables e below (s₁.setTop (mkF m 1 #[vI p0] [(.int p0)])) _
    refine XS.bipush X0.here hx rfl (hb hby d1_1) ?_
    show Steps p.tables e below (s₁.setTop (mkF m 3 #[vI p0] [(.int (97 : Int32)), (.int p0)])) _
    exact k)
  refine cps (A := (own_ns p0 = own_ns_12 p0) ∧ (Go p.tables e below S0 s₁ (mkF m 12 #[vI p0] []))) (fun tail10 => ?_) ?_
  · skip
    by_cases c3_2 : p0 < (97 : Int32)
    · skip
      have pre3 : Go p.tables e below S0 s₁ (mkF m 12 #[vI p0] []) := fun t k => pre1 t (by
        refine XS.icmpYes X0.here hx rfl (pc0 := 3) (pc' := 12) rfl (hb hby d1_3) rfl (tlt c3_2).1 (by decide) (by decide) ?_
        show Steps p.tables e below (s₁.setTop (mkF m 12 #[vI p0] [])) _
        exact k)
      exact tail10 ⟨(by simp [own_ns, c3_2]), pre3⟩
    · skip
      have pre4 : Go p.tables e below S0 s₁ (mkF m 9 #[vI p0] [(.int (122 : Int32)), (.int p0)]) := fun t k => pre1 t (by
        refine XS.icmpNo X0.here hx rfl (hb hby d1_3) rfl (flt c3_2).1 ?_
        show Steps p.tables e below (s₁.setTop (mkF m 6 #[vI p0] [])) _
        refine XS.iloadN X0.here hx rfl (hb hby d1_6) rfl ?_
        show Steps p.tables e below (s₁.setTop (mkF m 7 #[vI p0] [(.int p0)])) _
        refine XS.bipush X0.here hx rfl (hb hby d1_7) ?_
        show Steps p.tables e below (s₁.setTop (mkF m 9 #[vI p0] [(.int (122 : Int32)), (.int p0)])) _
        exact k)
      by_cases c9_5 : (122 : Int32) < p0
      · skip
        have pre6 : Go p.tables e below S0 s₁ (mkF m 12 #[vI p0] []) := fun t k => pre4 t (by
          refine XS.icmpNo X0.here hx rfl (hb hby d1_9) rfl (tlt c9_5).2.2.2 ?_
          show Steps p.tables e below (s₁.setTop (mkF m 12 #[vI p0] [])) _
          exact k)
        exact tail10 ⟨(by simp [own_ns, c3_2, c9_5]), pre6⟩
      · skip
        have pre7 : Go p.tables e below S0 s₁ (mkF m 202 #[vI p0] [(.int (1 : Int32))]) := fun t k => pre4 t (by
          refine XS.icmpYes X0.here hx rfl (pc0 := 9) (pc' := 197) rfl (hb hby d1_9) rfl (flt c9_5).2.2.2 (by decide) (by decide) ?_
          show Steps p.tables e below (s₁.setTop (mkF m 197 #[vI p0] [])) _
          refine XS.iconst X0.here hx rfl (hb hby d1_197) ?_
          show Steps p.tables e below (s₁.setTop (mkF m 198 #[vI p0] [(.int (1 : Int32))])) _
          refine XS.goto X0.here hx rfl (pc0 := 198) (pc' := 202) rfl (hb hby d1_198) (by decide) (by decide) ?_
          show Steps p.tables e below (s₁.setTop (mkF m 202 #[vI p0] [(.int (1 : Int32))])) _
          exact k)
        obtain ⟨fs, hr, hrun, hended, hW, hsame⟩ := X0.leave (v := some (.int (1 : Int32))) (fun h => by rw [Bd.returns] at h; cases h)
        exact ⟨_, _, pre7.fin hS0 (retN X0 hx (t := .boolean) Bd.returns (by simp) (hb hby d1_202) hr), hrun, hended, _, _, rfl, (by
          show Q1 Z p0 h0 n0 _ s₁.heap _
          rw [e0]
          exact ⟨congrArg (fun z => some (Value.int z)) (by simp [own_ns, c3_2, c9_5]), N0, rfl⟩), ⟨_, rfl⟩, hW, hsame.mono (by decide) (by decide)⟩
  rintro ⟨hj12_8, pre9⟩
  have pre11 : Go p.tables e below S0 s₁ (mkF m 15 #[vI p0] [(.int (65 : Int32)), (.int p0)]) := fun t k => pre9 t (by
    refine XS.iloadN X0.here hx rfl (hb hby d1_12) rfl ?_
    show Steps p.tables e below (s₁.setTop (mkF m 13 #[vI p0] [(.int p0)])) _
    refine XS.bipush X0.here hx rfl (hb hby d1_13) ?_
    show Steps p.tables e below (s₁.setTop (mkF m 15 #[vI p0] [(.int (65 : Int32)), (.int p0)])) _
    exact k)
  refine cps (A := (own_ns p0 = own_ns_24 p0) ∧ (Go p.tables e below S0 s₁ (mkF m 24 #[vI p0] []))) (fun tail20 => ?_) ?_
  · skip
    by_cases c15_12 : p0 < (65 : Int32)
    · skip
      have pre13 : Go p.tables e below S0 s₁ (mkF m 24 #[vI p0] []) := fun t k => pre11 t (by
        refine XS.icmpYes X0.here hx rfl (pc0 := 15) (pc' := 24) rfl (hb hby d1_15) rfl (tlt c15_12).1 (by decide) (by decide) ?_
        show Steps p.tables e below (s₁.setTop (mkF m 24 #[vI p0] [])) _
        exact k)
      exact tail20 ⟨(by rw [hj12_8]; simp [own_ns_12, c15_12]), pre13⟩
    · skip
      have pre14 : Go p.tables e below S0 s₁ (mkF m 21 #[vI p0] [(.int (90 : Int32)), (.int p0)]) := fun t k => pre11 t (by
        refine XS.icmpNo X0.here hx rfl (hb hby d1_15) rfl (flt c15_12).1 ?_
        show Steps p.tables e below (s₁.setTop (mkF m 18 #[vI p0] [])) _
        refine XS.iloadN X0.here hx rfl (hb hby d1_18) rfl ?_
        show Steps p.tables e below (s₁.setTop (mkF m 19 #[vI p0] [(.int p0)])) _
        refine XS.bipush X0.here hx rfl (hb hby d1_19) ?_
        show Steps p.tables e below (s₁.setTop (mkF m 21 #[vI p0] [(.int (90 : Int32)), (.int p0)])) _
        exact k)
      by_cases c21_15 : (90 : Int32) < p0
      · skip
        have pre16 : Go p.tables e below S0 s₁ (mkF m 24 #[vI p0] []) := fun t k => pre14 t (by
          refine XS.icmpNo X0.here hx rfl (hb hby d1_21) rfl (tlt c21_15).2.2.2 ?_
          show Steps p.tables e below (s₁.setTop (mkF m 24 #[vI p0] [])) _
          exact k)
        exact tail20 ⟨(by rw [hj12_8]; simp [own_ns_12, c15_12, c21_15]), pre16⟩
      · skip
        have pre17 : Go p.tables e below S0 s₁ (mkF m 202 #[vI p0] [(.int (1 : Int32))]) := fun t k => pre14 t (by
          refine XS.icmpYes X0.here hx rfl (pc0 := 21) (pc' := 197) rfl (hb hby d1_21) rfl (flt c21_15).2.2.2 (by decide) (by decide) ?_
          show Steps p.tables e below (s₁.setTop (mkF m 197 #[vI p0] [])) _
          refine XS.iconst X0.here hx rfl (hb hby d1_197) ?_
          show Steps p.tables e below (s₁.setTop (mkF m 198 #[vI p0] [(.int (1 : Int32))])) _
          refine XS.goto X0.here hx rfl (pc0 := 198) (pc' := 202) rfl (hb hby d1_198) (by decide) (by decide) ?_
          show Steps p.tables e below (s₁.setTop (mkF m 202 #[vI p0] [(.int (1 : Int32))])) _
          exact k)
        obtain ⟨fs, hr, hrun, hended, hW, hsame⟩ := X0.leave (v := some (.int (1 : Int32))) (fun h => by rw [Bd.returns] at h; cases h)
        exact ⟨_, _, pre17.fin hS0 (retN X0 hx (t := .boolean) Bd.returns (by simp) (hb hby d1_202) hr), hrun, hended, _, _, rfl, (by
          show Q1 Z p0 h0 n0 _ s₁.heap _
          rw [e0]
          exact ⟨congrArg (fun z => some (Value.int z)) (by rw [hj12_8]; simp [own_ns_12, c15_12, c21_15]), N0, rfl⟩), ⟨_, rfl⟩, hW, hsame.mono (by decide) (by decide)⟩
  rintro ⟨hj24_18, pre19⟩
  have pre21 : Go p.tables e below S0 s₁ (mkF m 27 #[vI p0] [(.int (58 : Int32)), (.int p0)]) := fun t k => pre19 t (by
    refine XS.iloadN X0.here hx rfl (hb hby d1_24) rfl ?_
    show Steps p.tables e below (s₁.setTop (mkF m 25 #[vI p0] [(.int p0)])) _
    refine XS.bipush X0.here hx rfl (hb hby d1_25) ?_
    show Steps p.tables e below (s₁.setTop (mkF m 27 #[vI p0] [(.int (58 : Int32)), (.int p0)])) _
    exact k)
  by_cases c27_22 : p0 = (58 : Int32)
  · skip
    have pre23 : Go p.tables e below S0 s₁ (mkF m 202 #[vI p0] [(.int (1 : Int32))]) := fun t k => pre21 t (by
      refine XS.icmpYes X0.here hx rfl (pc0 := 27) (pc' := 197) rfl (hb hby d1_27) rfl (teq c27_22).1 (by decide) (by decide) ?_
      show Steps p.tables e below (s₁.setTop (mkF m 197 #[vI p0] [])) _
      refine XS.iconst X0.here hx rfl (hb hby d1_197) ?_
      show Steps p.tables e below (s₁.setTop (mkF m 198 #[vI p0] [(.int (1 : Int32))])) _
      refine XS.goto X0.here hx rfl (pc0 := 198) (pc' := 202) rfl (hb hby d1_198) (by decide) (by decide) ?_
      show Steps p.tables e below (s₁.setTop (mkF m 202 #[vI p0] [(.int (1 : Int32))])) _
      exact k)
    obtain ⟨fs, hr, hrun, hended, hW, hsame⟩ := X0.leave (v := some (.int (1 : Int32))) (fun h => by rw [Bd.returns] at h; cases h)
    exact ⟨_, _, pre23.fin hS0 (retN X0 hx (t := .boolean) Bd.returns (by simp) (hb hby d1_202) hr), hrun, hended, _, _, rfl, (by
      show Q1 Z p0 h0 n0 _ s₁.heap _
      rw [e0]
      exact ⟨congrArg (fun z => some (Value.int z)) (by rw [hj24_18]; simp [own_ns_24, c27_22]), N0, rfl⟩), ⟨_, rfl⟩, hW, hsame.mono (by decide) (by decide)⟩
  · skip
    have pre24 : Go p.tables e below S0 s₁ (mkF m 33 #[vI p0] [(.int (95 : Int32)), (.int p0)]) := fun t k => pre21 t (by
      refine XS.icmpNo X0.here hx rfl (hb hby d1_27) rfl (feq c27_22).1 ?_
      show Steps p.tables e below (s₁.setTop (mkF m 30 #[vI p0] [])) _
      refine XS.iloadN X0.here hx rfl (hb hby d1_30) rfl ?_
      show Steps p.tables e below (s₁.setTop (mkF m 31 #[vI p0] [(.int p0)])) _
      refine XS.bipush X0.here hx rfl (hb hby d1_31) ?_
      show Steps p.tables e below (s₁.setTop (mkF m 33 #[vI p0] [(.int (95 : Int32)), (.int p0)])) _
      exact k)
    by_cases c33_25 : p0 = (95 : Int32)
    · skip
      have pre26 : Go p.tables e below S0 s₁ (mkF m 202 #[vI p0] [(.int (1 : Int32))]) := fun t k => pre24 t (by
        refine XS.icmpYes X0.here hx rfl (pc0 := 33) (pc' := 197) rfl (hb hby d1_33) rfl (teq c33_25).1 (by decide) (by decide) ?_
        show Steps p.tables e below (s₁.setTop (mkF m 197 #[vI p0] [])) _
        refine XS.iconst X0.here hx rfl (hb hby d1_197) ?_
        show Steps p.tables e below (s₁.setTop (mkF m 198 #[vI p0] [(.int (1 : Int32))])) _
        refine XS.goto X0.here hx rfl (pc0 := 198) (pc' := 202) rfl (hb hby d1_198) (by decide) (by decide) ?_
        show Steps p.tables e below (s₁.setTop (mkF m 202 #[vI p0] [(.int (1 : Int32))])) _
        exact k)
      obtain ⟨fs, hr, hrun, hended, hW, hsame⟩ := X0.leave (v := some (.int (1 : Int32))) (fun h => by rw [Bd.returns] at h; cases h)
      exact ⟨_, _, pre26.fin hS0 (retN X0 hx (t := .boolean) Bd.returns (by simp) (hb hby d1_202) hr), hrun, hended, _, _, rfl, (by
        show Q1 Z p0 h0 n0 _ s₁.heap _
        rw [e0]
        exact ⟨congrArg (fun z => some (Value.int z)) (by rw [hj24_18]; simp [own_ns_24, c27_22, c33_25]), N0, rfl⟩), ⟨_, rfl⟩, hW, hsame.mono (by decide) (by decide)⟩
    · skip
      have pre27 : Go p.tables e below S0 s₁ (mkF m 40 #[vI p0] [(.int (192 : Int32)), (.int p0)]) := fun t k => pre24 t (by
        refine XS.icmpNo X0.here hx rfl (hb hby d1_33) rfl (feq c33_25).1 ?_
        show Steps p.tables e below (s₁.setTop (mkF m 36 #[vI p0] [])) _
        refine XS.iloadN X0.here hx rfl (hb hby d1_36) rfl ?_
        show Steps p.tables e below (s₁.setTop (mkF m 37 #[vI p0] [(.int p0)])) _
        refine XS.sipush X0.here hx rfl (hb hby d1_37) ?_
        show Steps p.tables e below (s₁.setTop (mkF m 40 #[vI p0] [(.int (192 : Int32)), (.int p0)])) _
        exact k)
      refine cps (A := (own_ns p0 = own_ns_50 p0) ∧ (Go p.tables e below S0 s₁ (mkF m 50 #[vI p0] []))) (fun tail36 => ?_) ?_
      · skip
        by_cases c40_28 : p0 < (192 : Int32)
        · skip
          have pre29 : Go p.tables e below S0 s₁ (mkF m 50 #[vI p0] []) := fun t k => pre27 t (by
            refine XS.icmpYes X0.here hx rfl (pc0 := 40) (pc' := 50) rfl (hb hby d1_40) rfl (tlt c40_28).1 (by decide) (by decide) ?_
            show Steps p.tables e below (s₁.setTop (mkF m 50 #[vI p0] [])) _
            exact k)
          exact tail36 ⟨(by rw [hj24_18]; simp [own_ns_24, c27_22, c33_25, c40_28]), pre29⟩
        · skip
          have pre30 : Go p.tables e below S0 s₁ (mkF m 47 #[vI p0] [(.int (214 : Int32)), (.int p0)]) := fun t k => pre27 t (by
            refine XS.icmpNo X0.here hx rfl (hb hby d1_40) rfl (flt c40_28).1 ?_
            show Steps p.tables e below (s₁.setTop (mkF m 43 #[vI p0] [])) _
            refine XS.iloadN X0.here hx rfl (hb hby d1_43) rfl ?_
            show Steps p.tables e below (s₁.setTop (mkF m 44 #[vI p0] [(.int p0)])) _
            refine XS.sipush X0.here hx rfl (hb hby d1_44) ?_
            show Steps p.tables e below (s₁.setTop (mkF m 47 #[vI p0] [(.int (214 : Int32)), (.int p0)])) _
            exact k)
          by_cases c47_31 : (214 : Int32) < p0
          · skip
            have pre32 : Go p.tables e below S0 s₁ (mkF m 50 #[vI p0] []) := fun t k => pre30 t (by
              refine XS.icmpNo X0.here hx rfl (hb hby d1_47) rfl (tlt c47_31).2.2.2 ?_
              show Steps p.tables e below (s₁.setTop (mkF m 50 #[vI p0] [])) _
              exact k)
            exact tail36 ⟨(by rw [hj24_18]; simp [own_ns_24, c27_22, c33_25, c40_28, c47_31]), pre32⟩
          · skip
            have pre33 : Go p.tables e below S0 s₁ (mkF m 202 #[vI p0] [(.int (1 : Int32))]) := fun t k => pre30 t (by
              refine XS.icmpYes X0.here hx rfl (pc0 := 47) (pc' := 197) rfl (hb hby d1_47) rfl (flt c47_31).2.2.2 (by decide) (by decide) ?_
              show Steps p.tables e below (s₁.setTop (mkF m 197 #[vI p0] [])) _
              refine XS.iconst X0.here hx rfl (hb hby d1_197) ?_
              show Steps p.tables e below (s₁.setTop (mkF m 198 #[vI p0] [(.int (1 : Int32))])) _
              refine XS.goto X0.here hx rfl (pc0 := 198) (pc' := 202) rfl (hb hby d1_198) (by decide) (by decide) ?_
              show Steps p.tables e below (s₁.setTop (mkF m 202 #[vI p0] [(.int (1 : Int32))])) _
              exact k)
            obtain ⟨fs, hr, hrun, hended, hW, hsame⟩ := X0.leave (v := some (.int (1 : Int32))) (fun h => by rw [Bd.returns] at h; cases h)
            exact ⟨_, _, pre33.fin hS0 (retN X0 hx (t := .boolean) Bd.returns (by simp) (hb hby d1_202) hr), hrun, hended, _, _, rfl, (by
              show Q1 Z p0 h0 n0 _ s₁.heap _
              rw [e0]
              exact ⟨congrArg (fun z => some (Value.int z)) (by rw [hj24_18]; simp [own_ns_24, c27_22, c33_25, c40_28, c47_31]), N0, rfl⟩), ⟨_, rfl⟩, hW, hsame.mono (by decide) (by decide)⟩
      rintro ⟨hj50_34, pre35⟩
      have pre37 : Go p.tables e below S0 s₁ (mkF m 54 #[vI p0] [(.int (216 : Int32)), (.int p0)]) := fun t k => pre35 t (by
        refine XS.iloadN X0.here hx rfl (hb hby d1_50) rfl ?_
        show Steps p.tables e below (s₁.setTop (mkF m 51 #[vI p0] [(.int p0)])) _
        refine XS.sipush X0.here hx rfl (hb hby d1_51) ?_
        show Steps p.tables e below (s₁.setTop (mkF m 54 #[vI p0] [(.int (216 : Int32)), (.int p0)])) _
        exact k)
      refine cps (A := (own_ns p0 = own_ns_64 p0) ∧ (Go p.tables e below S0 s₁ (mkF m 64 #[vI p0] []))) (fun tail46 => ?_) ?_
      · skip
        by_cases c54_38 : p0 < (216 : Int32)
        · skip
          have pre39 : Go p.tables e below S0 s₁ (mkF m 64 #[vI p0] []) := fun t k => pre37 t (by
            refine XS.icmpYes X0.here hx rfl (pc0 := 54) (pc' := 64) rfl (hb hby d1_54) rfl (tlt c54_38).1 (by decide) (by decide) ?_
            show Steps p.tables e below (s₁.setTop (mkF m 64 #[vI p0] [])) _
            exact k)
          exact tail46 ⟨(by rw [hj50_34]; simp [own_ns_50, c54_38]), pre39⟩
        · skip
          have pre40 : Go p.tables e below S0 s₁ (mkF m 61 #[vI p0] [(.int (246 : Int32)), (.int p0)]) := fun t k => pre37 t (by
            refine XS.icmpNo X0.here hx rfl (hb hby d1_54) rfl (flt c54_38).1 ?_
            show Steps p.tables e below (s₁.setTop (mkF m 57 #[vI p0] [])) _
            refine XS.iloadN X0.here hx rfl (hb hby d1_57) rfl ?_
            show Steps p.tables e below (s₁.setTop (mkF m 58 #[vI p0] [(.int p0)])) _
            refine XS.sipush X0.here hx rfl (hb hby d1_58) ?_
            show Steps p.tables e below (s₁.setTop (mkF m 61 #[vI p0] [(.int (246 : Int32)), (.int p0)])) _
            exact k)
          by_cases c61_41 : (246 : Int32) < p0
          · skip
            have pre42 : Go p.tables e below S0 s₁ (mkF m 64 #[vI p0] []) := fun t k => pre40 t (by
              refine XS.icmpNo X0.here hx rfl (hb hby d1_61) rfl (tlt c61_41).2.2.2 ?_
              show Steps p.tables e below (s₁.setTop (mkF m 64 #[vI p0] [])) _
              exact k)
            exact tail46 ⟨(by rw [hj50_34]; simp [own_ns_50, c54_38, c61_41]), pre42⟩
          · skip
            have pre43 : Go p.tables e below S0 s₁ (mkF m 202 #[vI p0] [(.int (1 : Int32))]) := fun t k => pre40 t (by
              refine XS.icmpYes X0.here hx rfl (pc0 := 61) (pc' := 197) rfl (hb hby d1_61) rfl (flt c61_41).2.2.2 (by decide) (by decide) ?_
              show Steps p.tables e below (s₁.setTop (mkF m 197 #[vI p0] [])) _
              refine XS.iconst X0.here hx rfl (hb hby d1_197) ?_
              show Steps p.tables e below (s₁.setTop (mkF m 198 #[vI p0] [(.int (1 : Int32))])) _
              refine XS.goto X0.here hx rfl (pc0 := 198) (pc' := 202) rfl (hb hby d1_198) (by decide) (by decide) ?_
              show Steps p.tables e below (s₁.setTop (mkF m 202 #[vI p0] [(.int (1 : Int32))])) _
              exact k)
            obtain ⟨fs, hr, hrun, hended, hW, hsame⟩ := X0.leave (v := some (.int (1 : Int32))) (fun h => by rw [Bd.returns] at h; cases h)
            exact ⟨_, _, pre43.fin hS0 (retN X0 hx (t := .boolean) Bd.returns (by simp) (hb hby d1_202) hr), hrun, hended, _, _, rfl, (by
              show Q1 Z p0 h0 n0 _ s₁.heap _
              rw [e0]
              exact ⟨congrArg (fun z => some (Value.int z)) (by rw [hj50_34]; simp [own_ns_50, c54_38, c61_41]), N0, rfl⟩), ⟨_, rfl⟩, hW, hsame.mono (by decide) (by decide)⟩
      rintro ⟨hj64_44, pre45⟩
      have pre47 : Go p.tables e below S0 s₁ (mkF m 68 #[vI p0] [(.int (248 : Int32)), (.int p0)]) := fun t k => pre45 t (by
        refine XS.iloadN X0.here hx rfl (hb hby d1_64) rfl ?_
        show Steps p.tables e below (s₁.setTop (mkF m 65 #[vI p0] [(.int p0)])) _
        refine XS.sipush X0.here hx rfl (hb hby d1_65) ?_
        show Steps p.tables e below (s₁.setTop (mkF m 68 #[vI p0] [(.int (248 : Int32)), (.int p0)])) _
        exact k)
      refine cps (A := (own_ns p0 = own_ns_78 p0) ∧ (Go p.tables e below S0 s₁ (mkF m 78 #[vI p0] []))) (fun tail56 => ?_) ?_
      · skip
        by_cases c68_48 : p0 < (248 : Int32)
        · skip
          have pre49 : Go p.tables e below S0 s₁ (mkF m 78 #[vI p0] []) := fun t k => pre47 t (by
            refine XS.icmpYes X0.here hx rfl (pc0 := 68) (pc' := 78) rfl (hb hby d1_68) rfl (tlt c68_48).1 (by decide) (by decide) ?_
            show Steps p.tables e below (s₁.setTop (mkF m 78 #[vI p0] [])) _
            exact k)
          exact tail56 ⟨(by rw [hj64_44]; simp [own_ns_64, c68_48]), pre49⟩
        · skip
          have pre50 : Go p.tables e below S0 s₁ (mkF m 75 #[vI p0] [(.int (767 : Int32)), (.int p0)]) := fun t k => pre47 t (by
            refine XS.icmpNo X0.here hx rfl (hb hby d1_68) rfl (flt c68_48).1 ?_
            show Steps p.tables e below (s₁.setTop (mkF m 71 #[vI p0] [])) _
            refine XS.iloadN X0.here hx rfl (hb hby d1_71) rfl ?_
            show Steps p.tables e below (s₁.setTop (mkF m 72 #[vI p0] [(.int p0)])) _
            refine XS.sipush X0.here hx rfl (hb hby d1_72) ?_
            show Steps p.tables e below (s₁.setTop (mkF m 75 #[vI p0] [(.int (767 : Int32)), (.int p0)])) _
            exact k)
          by_cases c75_51 : (767 : Int32) < p0
          · skip
            have pre52 : Go p.tables e below S0 s₁ (mkF m 78 #[vI p0] []) := fun t k => pre50 t (by
              refine XS.icmpNo X0.here hx rfl (hb hby d1_75) rfl (tlt c75_51).2.2.2 ?_
              show Steps p.tables e below (s₁.setTop (mkF m 78 #[vI p0] [])) _
              exact k)
            exact tail56 ⟨(by rw [hj64_44]; simp [own_ns_64, c68_48, c75_51]), pre52⟩
          · skip
            have pre53 : Go p.tables e below S0 s₁ (mkF m 202 #[vI p0] [(.int (1 : Int32))]) := fun t k => pre50 t (by
              refine XS.icmpYes X0.here hx rfl (pc0 := 75) (pc' := 197) rfl (hb hby d1_75) rfl (flt c75_51).2.2.2 (by decide) (by decide) ?_
              show Steps p.tables e below (s₁.setTop (mkF m 197 #[vI p0] [])) _
              refine XS.iconst X0.here hx rfl (hb hby d1_197) ?_
              show Steps p.tables e below (s₁.setTop (mkF m 198 #[vI p0] [(.int (1 : Int32))])) _
              refine XS.goto X0.here hx rfl (pc0 := 198) (pc' := 202) rfl (hb hby d1_198) (by decide) (by decide) ?_
              show Steps p.tables e below (s₁.setTop (mkF m 202 #[vI p0] [(.int (1 : Int32))])) _
              exact k)
            obtain ⟨fs, hr, hrun, hended, hW, hsame⟩ := X0.leave (v := some (.int (1 : Int32))) (fun h => by rw [Bd.returns] at h; cases h)
            exact ⟨_, _, pre53.fin hS0 (retN X0 hx (t := .boolean) Bd.returns (by simp) (hb hby d1_202) hr), hrun, hended, _, _, rfl, (by
              show Q1 Z p0 h0 n0 _ s₁.heap _
              rw [e0]
              exact ⟨congrArg (fun z => some (Value.int z)) (by rw [hj64_44]; simp [own_ns_64, c68_48, c75_51]), N0, rfl⟩), ⟨_, rfl⟩, hW, hsame.mono (by decide) (by decide)⟩
      rintro ⟨hj78_54, pre55⟩
      have pre57 : Go p.tables e below S0 s₁ (mkF m 82 #[vI p0] [(.int (880 : Int32)), (.int p0)]) := fun t k => pre55 t (by
        refine XS.iloadN X0.here hx rfl (hb hby d1_78) rfl ?_
        show Steps p.tables e below (s₁.setTop (mkF m 79 #[vI p0] [(.int p0)])) _
        refine XS.sipush X0.here hx rfl (hb hby d1_79) ?_
        show Steps p.tables e below (s₁.setTop (mkF m 82 #[vI p0] [(.int (880 : Int32)), (.int p0)])) _
        exact k)
      refine cps (A := (own_ns p0 = own_ns_92 p0) ∧ (Go p.tables e below S0 s₁ (mkF m 92 #[vI p0] []))) (fun tail66 => ?_) ?_
      · skip
        by_cases c82_58 : p0 < (880 : Int32)
        · skip
          have pre59 : Go p.tables e below S0 s₁ (mkF m 92 #[vI p0] []) := fun t k => pre57 t (by
            refine XS.icmpYes X0.here hx rfl (pc0 := 82) (pc' := 92) rfl (hb hby d1_82) rfl (tlt c82_58).1 (by decide) (by decide) ?_
            show Steps p.tables e below (s₁.setTop (mkF m 92 #[vI p0] [])) _
            exact k)
          exact tail66 ⟨(by rw [hj78_54]; simp [own_ns_78, c82_58]), pre59⟩
        · skip
          have pre60 : Go p.tables e below S0 s₁ (mkF m 89 #[vI p0] [(.int (893 : Int32)), (.int p0)]) := fun t k => pre57 t (by
            refine XS.icmpNo X0.here hx rfl (hb hby d1_82) rfl (flt c82_58).1 ?_
            show Steps p.tables e below (s₁.setTop (mkF m 85 #[vI p0] [])) _
            refine XS.iloadN X0.here hx rfl (hb hby d1_85) rfl ?_
            show Steps p.tables e below (s₁.setTop (mkF m 86 #[vI p0] [(.int p0)])) _
            refine XS.sipush X0.here hx rfl (hb hby d1_86) ?_
            show Steps p.tables e below (s₁.setTop (mkF m 89 #[vI p0] [(.int (893 : Int32)), (.int p0)])) _
            exact k)
          by_cases c89_61 : (893 : Int32) < p0
          · skip
            have pre62 : Go p.tables e below S0 s₁ (mkF m 92 #[vI p0] []) := fun t k => pre60 t (by
              refine XS.icmpNo X0.here hx rfl (hb hby d1_89) rfl (tlt c89_61).2.2.2 ?_
              show Steps p.tables e below (s₁.setTop (mkF m 92 #[vI p0] [])) _
              exact k)
            exact tail66 ⟨(by rw [hj78_54]; simp [own_ns_78, c82_58, c89_61]), pre62⟩
          · skip
            have pre63 : Go p.tables e below S0 s₁ (mkF m 202 #[vI p0] [(.int (1 : Int32))]) := fun t k => pre60 t (by
              refine XS.icmpYes X0.here hx rfl (pc0 := 89) (pc' := 197) rfl (hb hby d1_89) rfl (flt c89_61).2.2.2 (by decide) (by decide) ?_
              show Steps p.tables e below (s₁.setTop (mkF m 197 #[vI p0] [])) _
              refine XS.iconst X0.here hx rfl (hb hby d1_197) ?_
              show Steps p.tables e below (s₁.setTop (mkF m 198 #[vI p0] [(.int (1 : Int32))])) _
              refine XS.goto X0.here hx rfl (pc0 := 198) (pc' := 202) rfl (hb hby d1_198) (by decide) (by decide) ?_
              show Steps p.tables e below (s₁.setTop (mkF m 202 #[vI p0] [(.int (1 : Int32))])) _
              exact k)
            obtain ⟨fs, hr, hrun, hended, hW, hsame⟩ := X0.leave (v := some (.int (1 : Int32))) (fun h => by rw [Bd.returns] at h; cases h)
            exact ⟨_, _, pre63.fin hS0 (retN X0 hx (t := .boolean) Bd.returns (by simp) (hb hby d1_202) hr), hrun, hended, _, _, rfl, (by
              show Q1 Z p0 h0 n0 _ s₁.heap _
              rw [e0]
              exact ⟨congrArg (fun z => some (Value.int z)) (by rw [hj78_54]; simp [own_ns_78, c82_58, c89_61]), N0, rfl⟩), ⟨_, rfl⟩, hW, hsame.mono (by decide) (by decide)⟩
      rintro ⟨hj92_64, pre65⟩
      have pre67 : Go p.tables e below S0 s₁ (mkF m 96 #[vI p0] [(.int (895 : Int32)), (.int p0)]) := fun t k => pre65 t (by
        refine XS.iloadN X0.here hx rfl (hb hby d1_92) rfl ?_
        show Steps p.tables e below (s₁.setTop (mkF m 93 #[vI p0] [(.int p0)])) _
        refine XS.sipush X0.here hx rfl (hb hby d1_93) ?_
        show Steps p.tables e below (s₁.setTop (mkF m 96 #[vI p0] [(.int (895 : Int32)), (.int p0)])) _
        exact k)
      refine cps (A := (own_ns p0 = own_ns_106 p0) ∧ (Go p.tables e below S0 s₁ (mkF m 106 #[vI p0] []))) (fun tail76 => ?_) ?_
      · skip
        by_cases c96_68 : p0 < (895 : Int32)
        · skip
          have pre69 : Go p.tables e below S0 s₁ (mkF m 106 #[vI p0] []) := fun t k => pre67 t (by
            refine XS.icmpYes X0.here hx rfl (pc0 := 96) (pc' := 106) rfl (hb hby d1_96) rfl (tlt c96_68).1 (by decide) (by decide) ?_
            show Steps p.tables e below (s₁.setTop (mkF m 106 #[vI p0] [])) _
            exact k)
          exact tail76 ⟨(by rw [hj92_64]; simp [own_ns_92, c96_68]), pre69⟩
        · skip
          have pre70 : Go p.tables e below S0 s₁ (mkF m 103 #[vI p0] [(.int (8191 : Int32)), (.int p0)]) := fun t k => pre67 t (by
            refine XS.icmpNo X0.here hx rfl (hb hby d1_96) rfl (flt c96_68).1 ?_
            show Steps p.tables e below (s₁.setTop (mkF m 99 #[vI p0] [])) _
            refine XS.iloadN X0.here hx rfl (hb hby d1_99) rfl ?_
            show Steps p.tables e below (s₁.setTop (mkF m 100 #[vI p0] [(.int p0)])) _
            refine XS.sipush X0.here hx rfl (hb hby d1_100) ?_
            show Steps p.tables e below (s₁.setTop (mkF m 103 #[vI p0] [(.int (8191 : Int32)), (.int p0)])) _
            exact k)
          by_cases c103_71 : (8191 : Int32) < p0
          · skip
            have pre72 : Go p.tables e below S0 s₁ (mkF m 106 #[vI p0] []) := fun t k => pre70 t (by
              refine XS.icmpNo X0.here hx rfl (hb hby d1_103) rfl (tlt c103_71).2.2.2 ?_
              show Steps p.tables e below (s₁.setTop (mkF m 106 #[vI p0] [])) _
              exact k)
            exact tail76 ⟨(by rw [hj92_64]; simp [own_ns_92, c96_68, c103_71]), pre72⟩
          · skip
            have pre73 : Go p.tables e below S0 s₁ (mkF m 202 #[vI p0] [(.int (1 : Int32))]) := fun t k => pre70 t (by
              refine XS.icmpYes X0.here hx rfl (pc0 := 103) (pc' := 197) rfl (hb hby d1_103) rfl (flt c103_71).2.2.2 (by decide) (by decide) ?_
              show Steps p.tables e below (s₁.setTop (mkF m 197 #[vI p0] [])) _
              refine XS.iconst X0.here hx rfl (hb hby d1_197) ?_
              show Steps p.tables e below (s₁.setTop (mkF m 198 #[vI p0] [(.int (1 : Int32))])) _
              refine XS.goto X0.here hx rfl (pc0 := 198) (pc' := 202) rfl (hb hby d1_198) (by decide) (by decide) ?_
              show Steps p.tables e below (s₁.setTop (mkF m 202 #[vI p0] [(.int (1 : Int32))])) _
              exact k)
            obtain ⟨fs, hr, hrun, hended, hW, hsame⟩ := X0.leave (v := some (.int (1 : Int32))) (fun h => by rw [Bd.returns] at h; cases h)
            exact ⟨_, _, pre73.fin hS0 (retN X0 hx (t := .boolean) Bd.returns (by simp) (hb hby d1_202) hr), hrun, hended, _, _, rfl, (by
              show Q1 Z p0 h0 n0 _ s₁.heap _
              rw [e0]
              exact ⟨congrArg (fun z => some (Value.int z)) (by rw [hj92_64]; simp [own_ns_92, c96_68, c103_71]), N0, rfl⟩), ⟨_, rfl⟩, hW, hsame.mono (by decide) (by decide)⟩
      rintro ⟨hj106_74, pre75⟩
      have pre77 : Go p.tables e below S0 s₁ (mkF m 110 #[vI p0] [(.int (8204 : Int32)), (.int p0)]) := fun t k => pre75 t (by
        refine XS.iloadN X0.here hx rfl (hb hby d1_106) rfl ?_
        show Steps p.tables e below (s₁.setTop (mkF m 107 #[vI p0] [(.int p0)])) _
        refine XS.sipush X0.here hx rfl (hb hby d1_107) ?_
        show Steps p.tables e below (s₁.setTop (mkF m 110 #[vI p0] [(.int (8204 : Int32)), (.int p0)])) _
        exact k)
      by_cases c110_78 : p0 = (8204 : Int32)
      · skip
        have pre79 : Go p.tables e below S0 s₁ (mkF m 202 #[vI p0] [(.int (1 : Int32))]) := fun t k => pre77 t (by
          refine XS.icmpYes X0.here hx rfl (pc0 := 110) (pc' := 197) rfl (hb hby d1_110) rfl (teq c110_78).1 (by decide) (by decide) ?_
          show Steps p.tables e below (s₁.setTop (mkF m 197 #[vI p0] [])) _
          refine XS.iconst X0.here hx rfl (hb hby d1_197) ?_
          show Steps p.tables e below (s₁.setTop (mkF m 198 #[vI p0] [(.int (1 : Int32))])) _
          refine XS.goto X0.here hx rfl (pc0 := 198) (pc' := 202) rfl (hb hby d1_198) (by decide) (by decide) ?_
          show Steps p.tables e below (s₁.setTop (mkF m 202 #[vI p0] [(.int (1 : Int32))])) _
          exact k)
        obtain ⟨fs, hr, hrun, hended, hW, hsame⟩ := X0.leave (v := some (.int (1 : Int32))) (fun h => by rw [Bd.returns] at h; cases h)
        exact ⟨_, _, pre79.fin hS0 (retN X0 hx (t := .boolean) Bd.returns (by simp) (hb hby d1_202) hr), hrun, hended, _, _, rfl, (by
          show Q1 Z p0 h0 n0 _ s₁.heap _
          rw [e0]
          exact ⟨congrArg (fun z => some (Value.int z)) (by rw [hj106_74]; simp [own_ns_106, c110_78]), N0, rfl⟩), ⟨_, rfl⟩, hW, hsame.mono (by decide) (by decide)⟩
      · skip
        have pre80 : Go p.tables e below S0 s₁ (mkF m 117 #[vI p0] [(.int (8205 : Int32)), (.int p0)]) := fun t k => pre77 t (by
          refine XS.icmpNo X0.here hx rfl (hb hby d1_110) rfl (feq c110_78).1 ?_
          show Steps p.tables e below (s₁.setTop (mkF m 113 #[vI p0] [])) _
          refine XS.iloadN X0.here hx rfl (hb hby d1_113) rfl ?_
          show Steps p.tables e below (s₁.setTop (mkF m 114 #[vI p0] [(.int p0)])) _
          refine XS.sipush X0.here hx rfl (hb hby d1_114) ?_
          show Steps p.tables e below (s₁.setTop (mkF m 117 #[vI p0] [(.int (8205 : Int32)), (.int p0)])) _
          exact k)
        by_cases c117_81 : p0 = (8205 : Int32)
        · skip
          have pre82 : Go p.tables e below S0 s₁ (mkF m 202 #[vI p0] [(.int (1 : Int32))]) := fun t k => pre80 t (by
            refine XS.icmpYes X0.here hx rfl (pc0 := 117) (pc' := 197) rfl (hb hby d1_117) rfl (teq c117_81).1 (by decide) (by decide) ?_
            show Steps p.tables e below (s₁.setTop (mkF m 197 #[vI p0] [])) _
            refine XS.iconst X0.here hx rfl (hb hby d1_197) ?_
            show Steps p.tables e below (s₁.setTop (mkF m 198 #[vI p0] [(.int (1 : Int32))])) _
            refine XS.goto X0.here hx rfl (pc0 := 198) (pc' := 202) rfl (hb hby d1_198) (by decide) (by decide) ?_
            show Steps p.tables e below (s₁.setTop (mkF m 202 #[vI p0] [(.int (1 : Int32))])) _
            exact k)
          obtain ⟨fs, hr, hrun, hended, hW, hsame⟩ := X0.leave (v := some (.int (1 : Int32))) (fun h => by rw [Bd.returns] at h; cases h)
          exact ⟨_, _, pre82.fin hS0 (retN X0 hx (t := .boolean) Bd.returns (by simp) (hb hby d1_202) hr), hrun, hended, _, _, rfl, (by
            show Q1 Z p0 h0 n0 _ s₁.heap _
            rw [e0]
            exact ⟨congrArg (fun z => some (Value.int z)) (by rw [hj106_74]; simp [own_ns_106, c110_78, c117_81]), N0, rfl⟩), ⟨_, rfl⟩, hW, hsame.mono (by decide) (by decide)⟩
        · skip
          have pre83 : Go p.tables e below S0 s₁ (mkF m 124 #[vI p0] [(.int (8304 : Int32)), (.int p0)]) := fun t k => pre80 t (by
            refine XS.icmpNo X0.here hx rfl (hb hby d1_117) rfl (feq c117_81).1 ?_
            show Steps p.tables e below (s₁.setTop (mkF m 120 #[vI p0] [])) _
            refine XS.iloadN X0.here hx rfl (hb hby d1_120) rfl ?_
            show Steps p.tables e below (s₁.setTop (mkF m 121 #[vI p0] [(.int p0)])) _
            refine XS.sipush X0.here hx rfl (hb hby d1_121) ?_
            show Steps p.tables e below (s₁.setTop (mkF m 124 #[vI p0] [(.int (8304 : Int32)), (.int p0)])) _
            exact k)
          refine cps (A := (own_ns p0 = own_ns_134 p0) ∧ (Go p.tables e below S0 s₁ (mkF m 134 #[vI p0] []))) (fun tail92 => ?_) ?_
          · skip
            by_cases c124_84 : p0 < (8304 : Int32)
            · skip
              have pre85 : Go p.tables e below S0 s₁ (mkF m 134 #[vI p0] []) := fun t k => pre83 t (by
                refine XS.icmpYes X0.here hx rfl (pc0 := 124) (pc' := 134) rfl (hb hby d1_124) rfl (tlt c124_84).1 (by decide) (by decide) ?_
                show Steps p.tables e below (s₁.setTop (mkF m 134 #[vI p0] [])) _
                exact k)
              exact tail92 ⟨(by rw [hj106_74]; simp [own_ns_106, c110_78, c117_81, c124_84]), pre85⟩
            · skip
              have pre86 : Go p.tables e below S0 s₁ (mkF m 131 #[vI p0] [(.int (8591 : Int32)), (.int p0)]) := fun t k => pre83 t (by
                refine XS.icmpNo X0.here hx rfl (hb hby d1_124) rfl (flt c124_84).1 ?_
                show Steps p.tables e below (s₁.setTop (mkF m 127 #[vI p0] [])) _
                refine XS.iloadN X0.here hx rfl (hb hby d1_127) rfl ?_
                show Steps p.tables e below (s₁.setTop (mkF m 128 #[vI p0] [(.int p0)])) _
                refine XS.sipush X0.here hx rfl (hb hby d1_128) ?_
                show Steps p.tables e below (s₁.setTop (mkF m 131 #[vI p0] [(.int (8591 : Int32)), (.int p0)])) _
                exact k)
              by_cases c131_87 : (8591 : Int32) < p0
              · skip
                have pre88 : Go p.tables e below S0 s₁ (mkF m 134 #[vI p0] []) := fun t k => pre86 t (by
                  refine XS.icmpNo X0.here hx rfl (hb hby d1_131) rfl (tlt c131_87).2.2.2 ?_
                  show Steps p.tables e below (s₁.setTop (mkF m 134 #[vI p0] [])) _
                  exact k)
                exact tail92 ⟨(by rw [hj106_74]; simp [own_ns_106, c110_78, c117_81, c124_84, c131_87]), pre88⟩
              · skip
                have pre89 : Go p.tables e below S0 s₁ (mkF m 202 #[vI p0] [(.int (1 : Int32))]) := fun t k => pre86 t (by
                  refine XS.icmpYes X0.here hx rfl (pc0 := 131) (pc' := 197) rfl (hb hby d1_131) rfl (flt c131_87).2.2.2 (by decide) (by decide) ?_
                  show Steps p.tables e below (s₁.setTop (mkF m 197 #[vI p0] [])) _
                  refine XS.iconst X0.here hx rfl (hb hby d1_197) ?_
                  show Steps p.tables e below (s₁.setTop (mkF m 198 #[vI p0] [(.int (1 : Int32))])) _
                  refine XS.goto X0.here hx rfl (pc0 := 198) (pc' := 202) rfl (hb hby d1_198) (by decide) (by decide) ?_
                  show Steps p.tables e below (s₁.setTop (mkF m 202 #[vI p0] [(.int (1 : Int32))])) _
                  exact k)
                obtain ⟨fs, hr, hrun, hended, hW, hsame⟩ := X0.leave (v := some (.int (1 : Int32))) (fun h => by rw [Bd.returns] at h; cases h)
                exact ⟨_, _, pre89.fin hS0 (retN X0 hx (t := .boolean) Bd.returns (by simp) (hb hby d1_202) hr), hrun, hended, _, _, rfl, (by
                  show Q1 Z p0 h0 n0 _ s₁.heap _
                  rw [e0]
                  exact ⟨congrArg (fun z => some (Value.int z)) (by rw [hj106_74]; simp [own_ns_106, c110_78, c117_81, c124_84, c131_87]), N0, rfl⟩), ⟨_, rfl⟩, hW, hsame.mono (by decide) (by decide)⟩
          rintro ⟨hj134_90, pre91⟩
          have pre93 : Go p.tables e below S0 s₁ (mkF m 138 #[vI p0] [(.int (11264 : Int32)), (.int p0)]) := fun t k => pre91 t (by
            refine XS.iloadN X0.here hx rfl (hb hby d1_134) rfl ?_
            show Steps p.tables e below (s₁.setTop (mkF m 135 #[vI p0] [(.int p0)])) _
            refine XS.sipush X0.here hx rfl (hb hby d1_135) ?_
            show Steps p.tables e below (s₁.setTop (mkF m 138 #[vI p0] [(.int (11264 : Int32)), (.int p0)])) _
            exact k)
          refine cps (A := (own_ns p0 = own_ns_148 p0) ∧ (Go p.tables e below S0 s₁ (mkF m 148 #[vI p0] []))) (fun tail102 => ?_) ?_
          · skip
            by_cases c138_94 : p0 < (11264 : Int32)
            · skip
              have pre95 : Go p.tables e below S0 s₁ (mkF m 148 #[vI p0] []) := fun t k => pre93 t (by
                refine XS.icmpYes X0.here hx rfl (pc0 := 138) (pc' := 148) rfl (hb hby d1_138) rfl (tlt c138_94).1 (by decide) (by decide) ?_
                show Steps p.tables e below (s₁.setTop (mkF m 148 #[vI p0] [])) _
                exact k)
              exact tail102 ⟨(by rw [hj134_90]; simp [own_ns_134, c138_94]), pre95⟩
            · skip
              have pre96 : Go p.tables e below S0 s₁ (mkF m 145 #[vI p0] [(.int (12271 : Int32)), (.int p0)]) := fun t k => pre93 t (by
                refine XS.icmpNo X0.here hx rfl (hb hby d1_138) rfl (flt c138_94).1 ?_
                show Steps p.tables e below (s₁.setTop (mkF m 141 #[vI p0] [])) _
                refine XS.iloadN X0.here hx rfl (hb hby d1_141) rfl ?_
                show Steps p.tables e below (s₁.setTop (mkF m 142 #[vI p0] [(.int p0)])) _
                refine XS.sipush X0.here hx rfl (hb hby d1_142) ?_
                show Steps p.tables e below (s₁.setTop (mkF m 145 #[vI p0] [(.int (12271 : Int32)), (.int p0)])) _
                exact k)
              by_cases c145_97 : (12271 : Int32) < p0
              · skip
                have pre98 : Go p.tables e below S0 s₁ (mkF m 148 #[vI p0] []) := fun t k => pre96 t (by
                  refine XS.icmpNo X0.here hx rfl (hb hby d1_145) rfl (tlt c145_97).2.2.2 ?_
                  show Steps p.tables e below (s₁.setTop (mkF m 148 #[vI p0] [])) _
                  exact k)
                exact tail102 ⟨(by rw [hj134_90]; simp [own_ns_134, c138_94, c145_97]), pre98⟩
              · skip
                have pre99 : Go p.tables e below S0 s₁ (mkF m 202 #[vI p0] [(.int (1 : Int32))]) := fun t k => pre96 t (by
                  refine XS.icmpYes X0.here hx rfl (pc0 := 145) (pc' := 197) rfl (hb hby d1_145) rfl (flt c145_97).2.2.2 (by decide) (by decide) ?_
                  show Steps p.tables e below (s₁.setTop (mkF m 197 #[vI p0] [])) _
                  refine XS.iconst X0.here hx rfl (hb hby d1_197) ?_
                  show Steps p.tables e below (s₁.setTop (mkF m 198 #[vI p0] [(.int (1 : Int32))])) _
                  refine XS.goto X0.here hx rfl (pc0 := 198) (pc' := 202) rfl (hb hby d1_198) (by decide) (by decide) ?_
                  show Steps p.tables e below (s₁.setTop (mkF m 202 #[vI p0] [(.int (1 : Int32))])) _
                  exact k)
                obtain ⟨fs, hr, hrun, hended, hW, hsame⟩ := X0.leave (v := some (.int (1 : Int32))) (fun h => by rw [Bd.returns] at h; cases h)
                exact ⟨_, _, pre99.fin hS0 (retN X0 hx (t := .boolean) Bd.returns (by simp) (hb hby d1_202) hr), hrun, hended, _, _, rfl, (by
                  show Q1 Z p0 h0 n0 _ s₁.heap _
                  rw [e0]
                  exact ⟨congrArg (fun z => some (Value.int z)) (by rw [hj134_90]; simp [own_ns_134, c138_94, c145_97]), N0, rfl⟩), ⟨_, rfl⟩, hW, hsame.mono (by decide) (by decide)⟩
          rintro ⟨hj148_100, pre101⟩
          have pre103 : Go p.tables e below S0 s₁ (mkF m 152 #[vI p0] [(.int (12289 : Int32)), (.int p0)]) := fun t k => pre101 t (by
            refine XS.iloadN X0.here hx rfl (hb hby d1_148) rfl ?_
            show Steps p.tables e below (s₁.setTop (mkF m 149 #[vI p0] [(.int p0)])) _
            refine XS.sipush X0.here hx rfl (hb hby d1_149) ?_
            show Steps p.tables e below (s₁.setTop (mkF m 152 #[vI p0] [(.int (12289 : Int32)), (.int p0)])) _
            exact k)
          refine cps (A := (own_ns p0 = own_ns_161 p0) ∧ (Go p.tables e below S0 s₁ (mkF m 161 #[vI p0] []))) (fun tail112 => ?_) ?_
          · skip
            by_cases c152_104 : p0 < (12289 : Int32)
            · skip
              have pre105 : Go p.tables e below S0 s₁ (mkF m 161 #[vI p0] []) := fun t k => pre103 t (by
                refine XS.icmpYes X0.here hx rfl (pc0 := 152) (pc' := 161) rfl (hb hby d1_152) rfl (tlt c152_104).1 (by decide) (by decide) ?_
                show Steps p.tables e below (s₁.setTop (mkF m 161 #[vI p0] [])) _
                exact k)
              exact tail112 ⟨(by rw [hj148_100]; simp [own_ns_148, c152_104]), pre105⟩
            · skip
              have pre106 : Go p.tables e below S0 s₁ (mkF m 158 #[vI p0] [(.int (55295 : Int32)), (.int p0)]) := fun t k => pre103 t (by
                refine XS.icmpNo X0.here hx rfl (hb hby d1_152) rfl (flt c152_104).1 ?_
                show Steps p.tables e below (s₁.setTop (mkF m 155 #[vI p0] [])) _
                refine XS.iloadN X0.here hx rfl (hb hby d1_155) rfl ?_
                show Steps p.tables e below (s₁.setTop (mkF m 156 #[vI p0] [(.int p0)])) _
                refine X0.ldcInt hx hown (mvT hZ (hw _ (List.mem_of_getElem? (i := 18) rfl))) (g := (mkF m 156 #[vI p0] [(.int p0)])) rfl (hb hby d1_156) _ ?_
                show Steps p.tables e below (s₁.setTop (mkF m 158 #[vI p0] [(.int (55295 : Int32)), (.int p0)])) _
                exact k)
              by_cases c158_107 : (55295 : Int32) < p0
              · skip
                have pre108 : Go p.tables e below S0 s₁ (mkF m 161 #[vI p0] []) := fun t k => pre106 t (by
                  refine XS.icmpNo X0.here hx rfl (hb hby d1_158) rfl (tlt c158_107).2.2.2 ?_
                  show Steps p.tables e below (s₁.setTop (mkF m 161 #[vI p0] [])) _
                  exact k)
                exact tail112 ⟨(by rw [hj148_100]; simp [own_ns_148, c152_104, c158_107]), pre108⟩
              · skip
                have pre109 : Go p.tables e below S0 s₁ (mkF m 202 #[vI p0] [(.int (1 : Int32))]) := fun t k => pre106 t (by
                  refine XS.icmpYes X0.here hx rfl (pc0 := 158) (pc' := 197) rfl (hb hby d1_158) rfl (flt c158_107).2.2.2 (by decide) (by decide) ?_
                  show Steps p.tables e below (s₁.setTop (mkF m 197 #[vI p0] [])) _
                  refine XS.iconst X0.here hx rfl (hb hby d1_197) ?_
                  show Steps p.tables e below (s₁.setTop (mkF m 198 #[vI p0] [(.int (1 : Int32))])) _
                  refine XS.goto X0.here hx rfl (pc0 := 198) (pc' := 202) rfl (hb hby d1_198) (by decide) (by decide) ?_
                  show Steps p.tables e below (s₁.setTop (mkF m 202 #[vI p0] [(.int (1 : Int32))])) _
                  exact k)
                obtain ⟨fs, hr, hrun, hended, hW, hsame⟩ := X0.leave (v := some (.int (1 : Int32))) (fun h => by rw [Bd.returns] at h; cases h)
                exact ⟨_, _, pre109.fin hS0 (retN X0 hx (t := .boolean) Bd.returns (by simp) (hb hby d1_202) hr), hrun, hended, _, _, rfl, (by
                  show Q1 Z p0 h0 n0 _ s₁.heap _
                  rw [e0]
                  exact ⟨congrArg (fun z => some (Value.int z)) (by rw [hj148_100]; simp [own_ns_148, c152_104, c158_107]), N0, rfl⟩), ⟨_, rfl⟩, hW, hsame.mono (by decide) (by decide)⟩
          rintro ⟨hj161_110, pre111⟩
          have pre113 : Go p.tables e below S0 s₁ (mkF m 164 #[vI p0] [(.int (63744 : Int32)), (.int p0)]) := fun t k => pre111 t (by
            refine XS.iloadN X0.here hx rfl (hb hby d1_161) rfl ?_
            show Steps p.tables e below (s₁.setTop (mkF m 162 #[vI p0] [(.int p0)])) _
            refine X0.ldcInt hx hown (mvT hZ (hw _ (List.mem_of_getElem? (i := 15) rfl))) (g := (mkF m 162 #[vI p0] [(.int p0)])) rfl (hb hby d1_162) _ ?_
            show Steps p.tables e below (s₁.setTop (mkF m 164 #[vI p0] [(.int (63744 : Int32)), (.int p0)])) _
            exact k)
          refine cps (A := (own_ns p0 = own_ns_173 p0) ∧ (Go p.tables e below S0 s₁ (mkF m 173 #[vI p0] []))) (fun tail122 => ?_) ?_
          · skip
            by_cases c164_114 : p0 < (63744 : Int32)
            · skip
              have pre115 : Go p.tables e below S0 s₁ (mkF m 173 #[vI p0] []) := fun t k => pre113 t (by
                refine XS.icmpYes X0.here hx rfl (pc0 := 164) (pc' := 173) rfl (hb hby d1_164) rfl (tlt c164_114).1 (by decide) (by decide) ?_
                show Steps p.tables e below (s₁.setTop (mkF m 173 #[vI p0] [])) _
                exact k)
              exact tail122 ⟨(by rw [hj161_110]; simp [own_ns_161, c164_114]), pre115⟩
            · skip
              have pre116 : Go p.tables e below S0 s₁ (mkF m 170 #[vI p0] [(.int (64975 : Int32)), (.int p0)]) := fun t k => pre113 t (by
                refine XS.icmpNo X0.here hx rfl (hb hby d1_164) rfl (flt c164_114).1 ?_
                show Steps p.tables e below (s₁.setTop (mkF m 167 #[vI p0] [])) _
                refine XS.iloadN X0.here hx rfl (hb hby d1_167) rfl ?_
                show Steps p.tables e below (s₁.setTop (mkF m 168 #[vI p0] [(.int p0)])) _
                refine X0.ldcInt hx hown (mvT hZ (hw _ (List.mem_of_getElem? (i := 19) rfl))) (g := (mkF m 168 #[vI p0] [(.int p0)])) rfl (hb hby d1_168) _ ?_
                show Steps p.tables e below (s₁.setTop (mkF m 170 #[vI p0] [(.int (64975 : Int32)), (.int p0)])) _
                exact k)
              by_cases c170_117 : (64975 : Int32) < p0
              · skip
                have pre118 : Go p.tables e below S0 s₁ (mkF m 173 #[vI p0] []) := fun t k => pre116 t (by
                  refine XS.icmpNo X0.here hx rfl (hb hby d1_170) rfl (tlt c170_117).2.2.2 ?_
                  show Steps p.tables e below (s₁.setTop (mkF m 173 #[vI p0] [])) _
                  exact k)
                exact tail122 ⟨(by rw [hj161_110]; simp [own_ns_161, c164_114, c170_117]), pre118⟩
              · skip
                have pre119 : Go p.tables e below S0 s₁ (mkF m 202 #[vI p0] [(.int (1 : Int32))]) := fun t k => pre116 t (by
                  refine XS.icmpYes X0.here hx rfl (pc0 := 170) (pc' := 197) rfl (hb hby d1_170) rfl (flt c170_117).2.2.2 (by decide) (by decide) ?_
                  show Steps p.tables e below (s₁.setTop (mkF m 197 #[vI p0] [])) _
                  refine XS.iconst X0.here hx rfl (hb hby d1_197) ?_
                  show Steps p.tables e below (s₁.setTop (mkF m 198 #[vI p0] [(.int (1 : Int32))])) _
                  refine XS.goto X0.here hx rfl (pc0 := 198) (pc' := 202) rfl (hb hby d1_198) (by decide) (by decide) ?_
                  show Steps p.tables e below (s₁.setTop (mkF m 202 #[vI p0] [(.int (1 : Int32))])) _
                  exact k)
                obtain ⟨fs, hr, hrun, hended, hW, hsame⟩ := X0.leave (v := some (.int (1 : Int32))) (fun h => by rw [Bd.returns] at h; cases h)
                exact ⟨_, _, pre119.fin hS0 (retN X0 hx (t := .boolean) Bd.returns (by simp) (hb hby d1_202) hr), hrun, hended, _, _, rfl, (by
                  show Q1 Z p0 h0 n0 _ s₁.heap _
                  rw [e0]
                  exact ⟨congrArg (fun z => some (Value.int z)) (by rw [hj161_110]; simp [own_ns_161, c164_114, c170_117]), N0, rfl⟩), ⟨_, rfl⟩, hW, hsame.mono (by decide) (by decide)⟩
          rintro ⟨hj173_120, pre121⟩
          have pre123 : Go p.tables e below S0 s₁ (mkF m 176 #[vI p0] [(.int (65008 : Int32)), (.int p0)]) := fun t k => pre121 t (by
            refine XS.iloadN X0.here hx rfl (hb hby d1_173) rfl ?_
            show Steps p.tables e below (s₁.setTop (mkF m 174 #[vI p0] [(.int p0)])) _
            refine X0.ldcInt hx hown (mvT hZ (hw _ (List.mem_of_getElem? (i := 16) rfl))) (g := (mkF m 174 #[vI p0] [(.int p0)])) rfl (hb hby d1_174) _ ?_
            show Steps p.tables e below (s₁.setTop (mkF m 176 #[vI p0] [(.int (65008 : Int32)), (.int p0)])) _
            exact k)
          refine cps (A := (own_ns p0 = own_ns_185 p0) ∧ (Go p.tables e below S0 s₁ (mkF m 185 #[vI p0] []))) (fun tail132 => ?_) ?_
          · skip
            by_cases c176_124 : p0 < (65008 : Int32)
            · skip
              have pre125 : Go p.tables e below S0 s₁ (mkF m 185 #[vI p0] []) := fun t k => pre123 t (by
                refine XS.icmpYes X0.here hx rfl (pc0 := 176) (pc' := 185) rfl (hb hby d1_176) rfl (tlt c176_124).1 (by decide) (by decide) ?_
                show Steps p.tables e below (s₁.setTop (mkF m 185 #[vI p0] [])) _
                exact k)
              exact tail132 ⟨(by rw [hj173_120]; simp [own_ns_173, c176_124]), pre125⟩
            · skip
              have pre126 : Go p.tables e below S0 s₁ (mkF m 182 #[vI p0] [(.int (65533 : Int32)), (.int p0)]) := fun t k => pre123 t (by
                refine XS.icmpNo X0.here hx rfl (hb hby d1_176) rfl (flt c176_124).1 ?_
                show Steps p.tables e below (s₁.setTop (mkF m 179 #[vI p0] [])) _
                refine XS.iloadN X0.here hx rfl (hb hby d1_179) rfl ?_
                show Steps p.tables e below (s₁.setTop (mkF m 180 #[vI p0] [(.int p0)])) _
                refine X0.ldcInt hx hown (mvT hZ (hw _ (List.mem_of_getElem? (i := 20) rfl))) (g := (mkF m 180 #[vI p0] [(.int p0)])) rfl (hb hby d1_180) _ ?_
                show Steps p.tables e below (s₁.setTop (mkF m 182 #[vI p0] [(.int (65533 : Int32)), (.int p0)])) _
                exact k)
              by_cases c182_127 : (65533 : Int32) < p0
              · skip
                have pre128 : Go p.tables e below S0 s₁ (mkF m 185 #[vI p0] []) := fun t k => pre126 t (by
                  refine XS.icmpNo X0.here hx rfl (hb hby d1_182) rfl (tlt c182_127).2.2.2 ?_
                  show Steps p.tables e below (s₁.setTop (mkF m 185 #[vI p0] [])) _
                  exact k)
                exact tail132 ⟨(by rw [hj173_120]; simp [own_ns_173, c176_124, c182_127]), pre128⟩
              · skip
                have pre129 : Go p.tables e below S0 s₁ (mkF m 202 #[vI p0] [(.int (1 : Int32))]) := fun t k => pre126 t (by
                  refine XS.icmpYes X0.here hx rfl (pc0 := 182) (pc' := 197) rfl (hb hby d1_182) rfl (flt c182_127).2.2.2 (by decide) (by decide) ?_
                  show Steps p.tables e below (s₁.setTop (mkF m 197 #[vI p0] [])) _
                  refine XS.iconst X0.here hx rfl (hb hby d1_197) ?_
                  show Steps p.tables e below (s₁.setTop (mkF m 198 #[vI p0] [(.int (1 : Int32))])) _
                  refine XS.goto X0.here hx rfl (pc0 := 198) (pc' := 202) rfl (hb hby d1_198) (by decide) (by decide) ?_
                  show Steps p.tables e below (s₁.setTop (mkF m 202 #[vI p0] [(.int (1 : Int32))])) _
                  exact k)
                obtain ⟨fs, hr, hrun, hended, hW, hsame⟩ := X0.leave (v := some (.int (1 : Int32))) (fun h => by rw [Bd.returns] at h; cases h)
                exact ⟨_, _, pre129.fin hS0 (retN X0 hx (t := .boolean) Bd.returns (by simp) (hb hby d1_202) hr), hrun, hended, _, _, rfl, (by
                  show Q1 Z p0 h0 n0 _ s₁.heap _
                  rw [e0]
                  exact ⟨congrArg (fun z => some (Value.int z)) (by rw [hj173_120]; simp [own_ns_173, c176_124, c182_127]), N0, rfl⟩), ⟨_, rfl⟩, hW, hsame.mono (by decide) (by decide)⟩
          rintro ⟨hj185_130, pre131⟩
          have pre133 : Go p.tables e below S0 s₁ (mkF m 188 #[vI p0] [(.int (65536 : Int32)), (.int p0)]) := fun t k => pre131 t (by
            refine XS.iloadN X0.here hx rfl (hb hby d1_185) rfl ?_
            show Steps p.tables e below (s₁.setTop (mkF m 186 #[vI p0] [(.int p0)])) _
            refine X0.ldcInt hx hown (mvT hZ (hw _ (List.mem_of_getElem? (i := 17) rfl))) (g := (mkF m 186 #[vI p0] [(.int p0)])) rfl (hb hby d1_186) _ ?_
            show Steps p.tables e below (s₁.setTop (mkF m 188 #[vI p0] [(.int (65536 : Int32)), (.int p0)])) _
            exact k)
          by_cases c188_134 : p0 < (65536 : Int32)
          · skip
            have pre135 : Go p.tables e below S0 s₁ (mkF m 202 #[vI p0] [(.int (0 : Int32))]) := fun t k => pre133 t (by
              refine XS.icmpYes X0.here hx rfl (pc0 := 188) (pc' := 201) rfl (hb hby d1_188) rfl (tlt c188_134).1 (by decide) (by decide) ?_
              show Steps p.tables e below (s₁.setTop (mkF m 201 #[vI p0] [])) _
              refine XS.iconst X0.here hx rfl (hb hby d1_201) ?_
              show Steps p.tables e below (s₁.setTop (mkF m 202 #[vI p0] [(.int (0 : Int32))])) _
              exact k)
            obtain ⟨fs, hr, hrun, hended, hW, hsame⟩ := X0.leave (v := some (.int (0 : Int32))) (fun h => by rw [Bd.returns] at h; cases h)
            exact ⟨_, _, pre135.fin hS0 (retN X0 hx (t := .boolean) Bd.returns (by simp) (hb hby d1_202) hr), hrun, hended, _, _, rfl, (by
              show Q1 Z p0 h0 n0 _ s₁.heap _
              rw [e0]
              exact ⟨congrArg (fun z => some (Value.int z)) (by rw [hj185_130]; simp [own_ns_185, c188_134]), N0, rfl⟩), ⟨_, rfl⟩, hW, hsame.mono (by decide) (by decide)⟩
          · skip
            have pre136 : Go p.tables e below S0 s₁ (mkF m 194 #[vI p0] [(.int (983039 : Int32)), (.int p0)]) := fun t k => pre133 t (by
              refine XS.icmpNo X0.here hx rfl (hb hby d1_188) rfl (flt c188_134).1 ?_
              show Steps p.tables e below (s₁.setTop (mkF m 191 #[vI p0] [])) _
              refine XS.iloadN X0.here hx rfl (hb hby d1_191) rfl ?_
              show Steps p.tables e below (s₁.setTop (mkF m 192 #[vI p0] [(.int p0)])) _
              refine X0.ldcInt hx hown (mvT hZ (hw _ (List.mem_of_getElem? (i := 21) rfl))) (g := (mkF m 192 #[vI p0] [(.int p0)])) rfl (hb hby d1_192) _ ?_
              show Steps p.tables e below (s₁.setTop (mkF m 194 #[vI p0] [(.int (983039 : Int32)), (.int p0)])) _
              exact k)
            by_cases c194_137 : (983039 : Int32) < p0
            · skip
              have pre138 : Go p.tables e below S0 s₁ (mkF m 202 #[vI p0] [(.int (0 : Int32))]) := fun t k => pre136 t (by
                refine XS.icmpYes X0.here hx rfl (pc0 := 194) (pc' := 201) rfl (hb hby d1_194) rfl (tlt c194_137).2.2.1 (by decide) (by decide) ?_
                show Steps p.tables e below (s₁.setTop (mkF m 201 #[vI p0] [])) _
                refine XS.iconst X0.here hx rfl (hb hby d1_201) ?_
                show Steps p.tables e below (s₁.setTop (mkF m 202 #[vI p0] [(.int (0 : Int32))])) _
                exact k)
              obtain ⟨fs, hr, hrun, hended, hW, hsame⟩ := X0.leave (v := some (.int (0 : Int32))) (fun h => by rw [Bd.returns] at h; cases h)
              exact ⟨_, _, pre138.fin hS0 (retN X0 hx (t := .boolean) Bd.returns (by simp) (hb hby d1_202) hr), hrun, hended, _, _, rfl, (by
                show Q1 Z p0 h0 n0 _ s₁.heap _
                rw [e0]
                exact ⟨congrArg (fun z => some (Value.int z)) (by rw [hj185_130]; simp [own_ns_185, c188_134, c194_137]), N0, rfl⟩), ⟨_, rfl⟩, hW, hsame.mono (by decide) (by decide)⟩
            · skip
              have pre139 : Go p.tables e below S0 s₁ (mkF m 202 #[vI p0] [(.int (1 : Int32))]) := fun t k => pre136 t (by
                refine XS.icmpNo X0.here hx rfl (hb hby d1_194) rfl (flt c194_137).2.2.1 ?_
                show Steps p.tables e below (s₁.setTop (mkF m 197 #[vI p0] [])) _
                refine XS.iconst X0.here hx rfl (hb hby d1_197) ?_
                show Steps p.tables e below (s₁.setTop (mkF m 198 #[vI p0] [(.int (1 : Int32))])) _
                refine XS.goto X0.here hx rfl (pc0 := 198) (pc' := 202) rfl (hb hby d1_198) (by decide) (by decide) ?_
                show Steps p.tables e below (s₁.setTop (mkF m 202 #[vI p0] [(.int (1 : Int32))])) _
                exact k)
              obtain ⟨fs, hr, hrun, hended, hW, hsame⟩ := X0.leave (v := some (.int (1 : Int32))) (fun h => by rw [Bd.returns] at h; cases h)
              exact ⟨_, _, pre139.fin hS0 (retN X0 hx (t := .boolean) Bd.returns (by simp) (hb hby d1_202) hr), hrun, hended, _, _, rfl, (by
                show Q1 Z p0 h0 n0 _ s₁.heap _
                rw [e0]
                exact ⟨congrArg (fun z => some (Value.int z)) (by rw [hj185_130]; simp [own_ns_185, c188_134, c194_137]), N0, rfl⟩), ⟨_, rfl⟩, hW, hsame.mono (by decide) (by decide)⟩
def own_xs : List Int32 := [(-2147483648 : Int32), (58 : Int32), (59 : Int32), (65 : Int32), (91 : Int32), (95 : Int32), (96 : Int32), (97 : Int32), (123 : Int32), (192 : Int32), (215 : Int32), (216 : Int32), (247 : Int32), (248 : Int32), (768 : Int32), (880 : Int32), (894 : Int32), (895 : Int32), (8192 : Int32), (8204 : Int32), (8206 : Int32), (8304 : Int32), (8592 : Int32), (11264 : Int32), (12272 : Int32), (12289 : Int32), (55296 : Int32), (63744 : Int32), (64976 : Int32), (65008 : Int32), (65534 : Int32), (65536 : Int32), (983040 : Int32)]
theorem own_rg {c lo hi f : Int32} {R : Prop} (ih : f = 1 ↔ R) : (if c < lo then f else (if hi < c then f else (1 : Int32))) = 1 ↔ (lo.toInt ≤ c.toInt ∧ c.toInt ≤ hi.toInt) ∨ R := by
  by_cases h1 : c < lo
  · rw [if_pos h1, ih]; rw [Int32.lt_iff_toInt_lt] at h1
    exact ⟨Or.inr, fun q => q.elim (fun z => absurd z.1 (by omega)) id⟩
  · rw [if_neg h1]
    by_cases h2 : hi < c
    · rw [if_pos h2, ih]; rw [Int32.lt_iff_toInt_lt] at h2
      exact ⟨Or.inr, fun q => q.elim (fun z => absurd z.2 (by omega)) id⟩
    · rw [if_neg h2]; rw [Int32.lt_iff_toInt_lt] at h1 h2
      exact ⟨fun _ => Or.inl ⟨by omega, by omega⟩, fun _ => rfl⟩
theorem own_re {c k f : Int32} {R : Prop} (ih : f = 1 ↔ R) : (if c = k then (1 : Int32) else f) = 1 ↔ (k.toInt ≤ c.toInt ∧ c.toInt ≤ k.toInt) ∨ R := by
  by_cases h1 : c = k
  · rw [if_pos h1, h1]; exact ⟨fun _ => Or.inl ⟨Int.le_refl _, Int.le_refl _⟩, fun _ => rfl⟩
  · rw [if_neg h1, ih]; rw [← Int32.toInt_inj] at h1
    exact ⟨Or.inr, fun q => q.elim (fun z => absurd (Int.le_antisymm z.2 z.1) h1) id⟩
theorem own_r0 {c lo hi : Int32} : (if c < lo then (0 : Int32) else (if hi < c then (0 : Int32) else (1 : Int32))) = 1 ↔ (lo.toInt ≤ c.toInt ∧ c.toInt ≤ hi.toInt) ∨ False := own_rg (by decide)
theorem own_i_185 (c : Int32) : own_ns_185 c = 1 ↔ ((65536 : Int32).toInt ≤ c.toInt ∧ c.toInt ≤ (983039 : Int32).toInt) ∨ False := own_r0
theorem own_i_173 (c : Int32) : own_ns_173 c = 1 ↔ ((65008 : Int32).toInt ≤ c.toInt ∧ c.toInt ≤ (65533 : Int32).toInt) ∨ ((65536 : Int32).toInt ≤ c.toInt ∧ c.toInt ≤ (983039 : Int32).toInt) ∨ False := (own_rg (own_i_185 c))
theorem own_i_161 (c : Int32) : own_ns_161 c = 1 ↔ ((63744 : Int32).toInt ≤ c.toInt ∧ c.toInt ≤ (64975 : Int32).toInt) ∨ ((65008 : Int32).toInt ≤ c.toInt ∧ c.toInt ≤ (65533 : Int32).toInt) ∨ ((65536 : Int32).toInt ≤ c.toInt ∧ c.toInt ≤ (983039 : Int32).toInt) ∨ False := (own_rg (own_i_173 c))
theorem own_i_148 (c : Int32) : own_ns_148 c = 1 ↔ ((12289 : Int32).toInt ≤ c.toInt ∧ c.toInt ≤ (55295 : Int32).toInt) ∨ ((63744 : Int32).toInt ≤ c.toInt ∧ c.toInt ≤ (64975 : Int32).toInt) ∨ ((65008 : Int32).toInt ≤ c.toInt ∧ c.toInt ≤ (65533 : Int32).toInt) ∨ ((65536 : Int32).toInt ≤ c.toInt ∧ c.toInt ≤ (983039 : Int32).toInt) ∨ False := (own_rg (own_i_161 c))
theorem own_i_134 (c : Int32) : own_ns_134 c = 1 ↔ ((11264 : Int32).toInt ≤ c.toInt ∧ c.toInt ≤ (12271 : Int32).toInt) ∨ ((12289 : Int32).toInt ≤ c.toInt ∧ c.toInt ≤ (55295 : Int32).toInt) ∨ ((63744 : Int32).toInt ≤ c.toInt ∧ c.toInt ≤ (64975 : Int32).toInt) ∨ ((65008 : Int32).toInt ≤ c.toInt ∧ c.toInt ≤ (65533 : Int32).toInt) ∨ ((65536 : Int32).toInt ≤ c.toInt ∧ c.toInt ≤ (983039 : Int32).toInt) ∨ False := (own_rg (own_i_148 c))
theorem own_i_106 (c : Int32) : own_ns_106 c = 1 ↔ ((8204 : Int32).toInt ≤ c.toInt ∧ c.toInt ≤ (8204 : Int32).toInt) ∨ ((8205 : Int32).toInt ≤ c.toInt ∧ c.toInt ≤ (8205 : Int32).toInt) ∨ ((8304 : Int32).toInt ≤ c.toInt ∧ c.toInt ≤ (8591 : Int32).toInt) ∨ ((11264 : Int32).toInt ≤ c.toInt ∧ c.toInt ≤ (12271 : Int32).toInt) ∨ ((12289 : Int32).toInt ≤ c.toInt ∧ c.toInt ≤ (55295 : Int32).toInt) ∨ ((63744 : Int32).toInt ≤ c.toInt ∧ c.toInt ≤ (64975 : Int32).toInt) ∨ ((65008 : Int32).toInt ≤ c.toInt ∧ c.toInt ≤ (65533 : Int32).toInt) ∨ ((65536 : Int32).toInt ≤ c.toInt ∧ c.toInt ≤ (983039 : Int32).toInt) ∨ False := (own_re (own_re (own_rg (own_i_134 c))))
theorem own_i_92 (c : Int32) : own_ns_92 c = 1 ↔ ((895 : Int32).toInt ≤ c.toInt ∧ c.toInt ≤ (8191 : Int32).toInt) ∨ ((8204 : Int32).toInt ≤ c.toInt ∧ c.toInt ≤ (8204 : Int32).toInt) ∨ ((8205 : Int32).toInt ≤ c.toInt ∧ c.toInt ≤ (8205 : Int32).toInt) ∨ ((8304 : Int32).toInt ≤ c.toInt ∧ c.toInt ≤ (8591 : Int32).toInt) ∨ ((11264 : Int32).toInt ≤ c.toInt ∧ c.toInt ≤ (12271 : Int32).toInt) ∨ ((12289 : Int32).toInt ≤ c.toInt ∧ c.toInt ≤ (55295 : Int32).toInt) ∨ ((63744 : Int32).toInt ≤ c.toInt ∧ c.toInt ≤ (64975 : Int32).toInt) ∨ ((65008 : Int32).toInt ≤ c.toInt ∧ c.toInt ≤ (65533 : Int32).toInt) ∨ ((65536 : Int32).toInt ≤ c.toInt ∧ c.toInt ≤ (983039 : Int32).toInt) ∨ False := (own_rg (own_i_106 c))
theorem own_i_78 (c : Int32) : own_ns_78 c = 1 ↔ ((880 : Int32).toInt ≤ c.toInt ∧ c.toInt ≤ (893 : Int32).toInt) ∨ ((895 : Int32).toInt ≤ c.toInt ∧ c.toInt ≤ (8191 : Int32).toInt) ∨ ((8204 : Int32).toInt ≤ c.toInt ∧ c.toInt ≤ (8204 : Int32).toInt) ∨ ((8205 : Int32).toInt ≤ c.toInt ∧ c.toInt ≤ (8205 : Int32).toInt) ∨ ((8304 : Int32).toInt ≤ c.toInt ∧ c.toInt ≤ (8591 : Int32).toInt) ∨ ((11264 : Int32).toInt ≤ c.toInt ∧ c.toInt ≤ (12271 : Int32).toInt) ∨ ((12289 : Int32).toInt ≤ c.toInt ∧ c.toInt ≤ (55295 : Int32).toInt) ∨ ((63744 : Int32).toInt ≤ c.toInt ∧ c.toInt ≤ (64975 : Int32).toInt) ∨ ((65008 : Int32).toInt ≤ c.toInt ∧ c.toInt ≤ (65533 : Int32).toInt) ∨ ((65536 : Int32).toInt ≤ c.toInt ∧ c.toInt ≤ (983039 : Int32).toInt) ∨ False := (own_rg (own_i_92 c))
theorem own_i_64 (c : Int32) : own_ns_64 c = 1 ↔ ((248 : Int32).toInt ≤ c.toInt ∧ c.toInt ≤ (767 : Int32).toInt) ∨ ((880 : Int32).toInt ≤ c.toInt ∧ c.toInt ≤ (893 : Int32).toInt) ∨ ((895 : Int32).toInt ≤ c.toInt ∧ c.toInt ≤ (8191 : Int32).toInt) ∨ ((8204 : Int32).toInt ≤ c.toInt ∧ c.toInt ≤ (8204 : Int32).toInt) ∨ ((8205 : Int32).toInt ≤ c.toInt ∧ c.toInt ≤ (8205 : Int32).toInt) ∨ ((8304 : Int32).toInt ≤ c.toInt ∧ c.toInt ≤ (8591 : Int32).toInt) ∨ ((11264 : Int32).toInt ≤ c.toInt ∧ c.toInt ≤ (12271 : Int32).toInt) ∨ ((12289 : Int32).toInt ≤ c.toInt ∧ c.toInt ≤ (55295 : Int32).toInt) ∨ ((63744 : Int32).toInt ≤ c.toInt ∧ c.toInt ≤ (64975 : Int32).toInt) ∨ ((65008 : Int32).toInt ≤ c.toInt ∧ c.toInt ≤ (65533 : Int32).toInt) ∨ ((65536 : Int32).toInt ≤ c.toInt ∧ c.toInt ≤ (983039 : Int32).toInt) ∨ False := (own_rg (own_i_78 c))
theorem own_i_50 (c : Int32) : own_ns_50 c = 1 ↔ ((216 : Int32).toInt ≤ c.toInt ∧ c.toInt ≤ (246 : Int32).toInt) ∨ ((248 : Int32).toInt ≤ c.toInt ∧ c.toInt ≤ (767 : Int32).toInt) ∨ ((880 : Int32).toInt ≤ c.toInt ∧ c.toInt ≤ (893 : Int32).toInt) ∨ ((895 : Int32).toInt ≤ c.toInt ∧ c.toInt ≤ (8191 : Int32).toInt) ∨ ((8204 : Int32).toInt ≤ c.toInt ∧ c.toInt ≤ (8204 : Int32).toInt) ∨ ((8205 : Int32).toInt ≤ c.toInt ∧ c.toInt ≤ (8205 : Int32).toInt) ∨ ((8304 : Int32).toInt ≤ c.toInt ∧ c.toInt ≤ (8591 : Int32).toInt) ∨ ((11264 : Int32).toInt ≤ c.toInt ∧ c.toInt ≤ (12271 : Int32).toInt) ∨ ((12289 : Int32).toInt ≤ c.toInt ∧ c.toInt ≤ (55295 : Int32).toInt) ∨ ((63744 : Int32).toInt ≤ c.toInt ∧ c.toInt ≤ (64975 : Int32).toInt) ∨ ((65008 : Int32).toInt ≤ c.toInt ∧ c.toInt ≤ (65533 : Int32).toInt) ∨ ((65536 : Int32).toInt ≤ c.toInt ∧ c.toInt ≤ (983039 : Int32).toInt) ∨ False := (own_rg (own_i_64 c))
theorem own_i_24 (c : Int32) : own_ns_24 c = 1 ↔ ((58 : Int32).toInt ≤ c.toInt ∧ c.toInt ≤ (58 : Int32).toInt) ∨ ((95 : Int32).toInt ≤ c.toInt ∧ c.toInt ≤ (95 : Int32).toInt) ∨ ((192 : Int32).toInt ≤ c.toInt ∧ c.toInt ≤ (214 : Int32).toInt) ∨ ((216 : Int32).toInt ≤ c.toInt ∧ c.toInt ≤ (246 : Int32).toInt) ∨ ((248 : Int32).toInt ≤ c.toInt ∧ c.toInt ≤ (767 : Int32).toInt) ∨ ((880 : Int32).toInt ≤ c.toInt ∧ c.toInt ≤ (893 : Int32).toInt) ∨ ((895 : Int32).toInt ≤ c.toInt ∧ c.toInt ≤ (8191 : Int32).toInt) ∨ ((8204 : Int32).toInt ≤ c.toInt ∧ c.toInt ≤ (8204 : Int32).toInt) ∨ ((8205 : Int32).toInt ≤ c.toInt ∧ c.toInt ≤ (8205 : Int32).toInt) ∨ ((8304 : Int32).toInt ≤ c.toInt ∧ c.toInt ≤ (8591 : Int32).toInt) ∨ ((11264 : Int32).toInt ≤ c.toInt ∧ c.toInt ≤ (12271 : Int32).toInt) ∨ ((12289 : Int32).toInt ≤ c.toInt ∧ c.toInt ≤ (55295 : Int32).toInt) ∨ ((63744 : Int32).toInt ≤ c.toInt ∧ c.toInt ≤ (64975 : Int32).toInt) ∨ ((65008 : Int32).toInt ≤ c.toInt ∧ c.toInt ≤ (65533 : Int32).toInt) ∨ ((65536 : Int32).toInt ≤ c.toInt ∧ c.toInt ≤ (983039 : Int32).toInt) ∨ False := (own_re (own_re (own_rg (own_i_50 c))))
theorem own_i_12 (c : Int32) : own_ns_12 c = 1 ↔ ((65 : Int32).toInt ≤ c.toInt ∧ c.toInt ≤ (90 : Int32).toInt) ∨ ((58 : Int32).toInt ≤ c.toInt ∧ c.toInt ≤ (58 : Int32).toInt) ∨ ((95 : Int32).toInt ≤ c.toInt ∧ c.toInt ≤ (95 : Int32).toInt) ∨ ((192 : Int32).toInt ≤ c.toInt ∧ c.toInt ≤ (214 : Int32).toInt) ∨ ((216 : Int32).toInt ≤ c.toInt ∧ c.toInt ≤ (246 : Int32).toInt) ∨ ((248 : Int32).toInt ≤ c.toInt ∧ c.toInt ≤ (767 : Int32).toInt) ∨ ((880 : Int32).toInt ≤ c.toInt ∧ c.toInt ≤ (893 : Int32).toInt) ∨ ((895 : Int32).toInt ≤ c.toInt ∧ c.toInt ≤ (8191 : Int32).toInt) ∨ ((8204 : Int32).toInt ≤ c.toInt ∧ c.toInt ≤ (8204 : Int32).toInt) ∨ ((8205 : Int32).toInt ≤ c.toInt ∧ c.toInt ≤ (8205 : Int32).toInt) ∨ ((8304 : Int32).toInt ≤ c.toInt ∧ c.toInt ≤ (8591 : Int32).toInt) ∨ ((11264 : Int32).toInt ≤ c.toInt ∧ c.toInt ≤ (12271 : Int32).toInt) ∨ ((12289 : Int32).toInt ≤ c.toInt ∧ c.toInt ≤ (55295 : Int32).toInt) ∨ ((63744 : Int32).toInt ≤ c.toInt ∧ c.toInt ≤ (64975 : Int32).toInt) ∨ ((65008 : Int32).toInt ≤ c.toInt ∧ c.toInt ≤ (65533 : Int32).toInt) ∨ ((65536 : Int32).toInt ≤ c.toInt ∧ c.toInt ≤ (983039 : Int32).toInt) ∨ False := (own_rg (own_i_24 c))
theorem own_i_0 (c : Int32) : own_ns c = 1 ↔ ((97 : Int32).toInt ≤ c.toInt ∧ c.toInt ≤ (122 : Int32).toInt) ∨ ((65 : Int32).toInt ≤ c.toInt ∧ c.toInt ≤ (90 : Int32).toInt) ∨ ((58 : Int32).toInt ≤ c.toInt ∧ c.toInt ≤ (58 : Int32).toInt) ∨ ((95 : Int32).toInt ≤ c.toInt ∧ c.toInt ≤ (95 : Int32).toInt) ∨ ((192 : Int32).toInt ≤ c.toInt ∧ c.toInt ≤ (214 : Int32).toInt) ∨ ((216 : Int32).toInt ≤ c.toInt ∧ c.toInt ≤ (246 : Int32).toInt) ∨ ((248 : Int32).toInt ≤ c.toInt ∧ c.toInt ≤ (767 : Int32).toInt) ∨ ((880 : Int32).toInt ≤ c.toInt ∧ c.toInt ≤ (893 : Int32).toInt) ∨ ((895 : Int32).toInt ≤ c.toInt ∧ c.toInt ≤ (8191 : Int32).toInt) ∨ ((8204 : Int32).toInt ≤ c.toInt ∧ c.toInt ≤ (8204 : Int32).toInt) ∨ ((8205 : Int32).toInt ≤ c.toInt ∧ c.toInt ≤ (8205 : Int32).toInt) ∨ ((8304 : Int32).toInt ≤ c.toInt ∧ c.toInt ≤ (8591 : Int32).toInt) ∨ ((11264 : Int32).toInt ≤ c.toInt ∧ c.toInt ≤ (12271 : Int32).toInt) ∨ ((12289 : Int32).toInt ≤ c.toInt ∧ c.toInt ≤ (55295 : Int32).toInt) ∨ ((63744 : Int32).toInt ≤ c.toInt ∧ c.toInt ≤ (64975 : Int32).toInt) ∨ ((65008 : Int32).toInt ≤ c.toInt ∧ c.toInt ≤ (65533 : Int32).toInt) ∨ ((65536 : Int32).toInt ≤ c.toInt ∧ c.toInt ≤ (983039 : Int32).toInt) ∨ False := (own_rg (own_i_12 c))
theorem own_b_185 (c : Int32) : own_ns_185 c = 0 ∨ own_ns_185 c = 1 := by
  unfold own_ns_185
  repeat' split
  all_goals first | exact Or.inl rfl | exact Or.inr rfl
theorem own_b_173 (c : Int32) : own_ns_173 c = 0 ∨ own_ns_173 c = 1 := by
  unfold own_ns_173
  repeat' split
  all_goals first | exact Or.inl rfl | exact Or.inr rfl | exact own_b_185 c
theorem own_b_161 (c : Int32) : own_ns_161 c = 0 ∨ own_ns_161 c = 1 := by
  unfold own_ns_161
  repeat' split
  all_goals first | exact Or.inl rfl | exact Or.inr rfl | exact own_b_173 c
theorem own_b_148 (c : Int32) : own_ns_148 c = 0 ∨ own_ns_148 c = 1 := by
  unfold own_ns_148
  repeat' split
  all_goals first | exact Or.inl rfl | exact Or.inr rfl | exact own_b_161 c
theorem own_b_134 (c : Int32) : own_ns_134 c = 0 ∨ own_ns_134 c = 1 := by
  unfold own_ns_134
  repeat' split
  all_goals first | exact Or.inl rfl | exact Or.inr rfl | exact own_b_148 c
theorem own_b_106 (c : Int32) : own_ns_106 c = 0 ∨ own_ns_106 c = 1 := by
  unfold own_ns_106
  repeat' split
  all_goals first | exact Or.inl rfl | exact Or.inr rfl | exact own_b_134 c
theorem own_b_92 (c : Int32) : own_ns_92 c = 0 ∨ own_ns_92 c = 1 := by
  unfold own_ns_92
  repeat' split
  all_goals first | exact Or.inl rfl | exact Or.inr rfl | exact own_b_106 c
theorem own_b_78 (c : Int32) : own_ns_78 c = 0 ∨ own_ns_78 c = 1 := by
  unfold own_ns_78
  repeat' split
  all_goals first | exact Or.inl rfl | exact Or.inr rfl | exact own_b_92 c
theorem own_b_64 (c : Int32) : own_ns_64 c = 0 ∨ own_ns_64 c = 1 := by
  unfold own_ns_64
  repeat' split
  all_goals first | exact Or.inl rfl | exact Or.inr rfl | exact own_b_78 c
theorem own_b_50 (c : Int32) : own_ns_50 c = 0 ∨ own_ns_50 c = 1 := by
  unfold own_ns_50
  repeat' split
  all_goals first | exact Or.inl rfl | exact Or.inr rfl | exact own_b_64 c
theorem own_b_24 (c : Int32) : own_ns_24 c = 0 ∨ own_ns_24 c = 1 := by
  unfold own_ns_24
  repeat' split
  all_goals first | exact Or.inl rfl | exact Or.inr rfl | exact own_b_50 c
theorem own_b_12 (c : Int32) : own_ns_12 c = 0 ∨ own_ns_12 c = 1 := by
  unfold own_ns_12
  repeat' split
  all_goals first | exact Or.inl rfl | exact Or.inr rfl | exact own_b_24 c
theorem own_b_0 (c : Int32) : own_ns c = 0 ∨ own_ns c = 1 := by
  unfold own_ns
  repeat' split
  all_goals first | exact Or.inl rfl | exact Or.inr rfl | exact own_b_12 c
theorem own_one (c : Int32) : own_ns c = 1 ↔ (97 ≤ c.toInt ∧ c.toInt ≤ 122) ∨ (65 ≤ c.toInt ∧ c.toInt ≤ 90) ∨ (58 ≤ c.toInt ∧ c.toInt ≤ 58) ∨ (95 ≤ c.toInt ∧ c.toInt ≤ 95) ∨ (192 ≤ c.toInt ∧ c.toInt ≤ 214) ∨ (216 ≤ c.toInt ∧ c.toInt ≤ 246) ∨ (248 ≤ c.toInt ∧ c.toInt ≤ 767) ∨ (880 ≤ c.toInt ∧ c.toInt ≤ 893) ∨ (895 ≤ c.toInt ∧ c.toInt ≤ 8191) ∨ (8204 ≤ c.toInt ∧ c.toInt ≤ 8204) ∨ (8205 ≤ c.toInt ∧ c.toInt ≤ 8205) ∨ (8304 ≤ c.toInt ∧ c.toInt ≤ 8591) ∨ (11264 ≤ c.toInt ∧ c.toInt ≤ 12271) ∨ (12289 ≤ c.toInt ∧ c.toInt ≤ 55295) ∨ (63744 ≤ c.toInt ∧ c.toInt ≤ 64975) ∨ (65008 ≤ c.toInt ∧ c.toInt ≤ 65533) ∨ (65536 ≤ c.toInt ∧ c.toInt ≤ 983039) := by
  rw [own_i_0]; simp only [Int32.reduceToInt, or_false]
theorem own_getI (xs : List Int32) (k : Nat) : (xs.map Value.int).getD k (.int (0 : Int32)) = .int (xs.getD k 0) := by
  induction xs generalizing k with
  | nil => rfl
  | cons a t ih => cases k with
    | zero => rfl
    | succ n => exact ih n
theorem own_idx {x i : Int32} (h : i = (x &&& (2147483647 : Int32)) % (33 : Int32)) : ∃ k : Nat, k < 33 ∧ i = Int32.ofNat k := by
  have h0 : 0 ≤ (x &&& (2147483647 : Int32)).toInt := by rw [c_mask x (2147483647 : Int32) 31 (by decide) (by decide)]; omega
  have h1 := (c_iremV (x &&& (2147483647 : Int32)) (33 : Int32)).1 h0 (by decide)
  rw [← h] at h1
  have t : (33 : Int32).toInt = 33 := rfl
  refine ⟨i.toInt.toNat, by omega, Int32.toInt_inj.mp ?_⟩
  rw [Int32.toInt_ofNat_of_lt (by omega)]; omega
theorem own_in {i : Int32} (h : ∃ k : Nat, k < 33 ∧ i = Int32.ofNat k) : ¬ i < 0 ∧ i < (33 : Int32) := by
  obtain ⟨k, hk, rfl⟩ := h
  have e : (Int32.ofNat k).toInt = k := Int32.toInt_ofNat_of_lt (by omega)
  simp only [Int32.lt_iff_toInt_lt, e, Int32.reduceToInt]; omega
theorem own_in1 {i : Int32} (h : ∃ k : Nat, k < 33 ∧ i = Int32.ofNat k) (hn : ¬ (i = (32 : Int32))) : ¬ (i + (1 : Int32)) < 0 ∧ (i + (1 : Int32)) < (33 : Int32) := by
  obtain ⟨k, hk, rfl⟩ := h
  have e : (Int32.ofNat k).toInt = k := Int32.toInt_ofNat_of_lt (by omega)
  have a := c_iadd (Int32.ofNat k) (1 : Int32)
  have b := rng32 (Int32.ofNat k + (1 : Int32))
  rw [← Int32.toInt_inj, e] at hn
  rw [e] at a
  simp only [Int32.lt_iff_toInt_lt, Int32.reduceToInt] at *; omega
theorem own_par : ∀ k : Fin 33, ((Int32.ofNat k.val) &&& (1 : Int32)) = (1 : Int32) ↔ k.val % 2 = 1 := by decide +kernel
def own_lo (k : Nat) : Int := ([-2147483648, 58, 59, 65, 91, 95, 96, 97, 123, 192, 215, 216, 247, 248, 768, 880, 894, 895, 8192, 8204, 8206, 8304, 8592, 11264, 12272, 12289, 55296, 63744, 64976, 65008, 65534, 65536, 983040] : List Int).getD k 0
def own_hi (k : Nat) : Int := ([57, 58, 64, 90, 94, 95, 96, 122, 191, 214, 215, 246, 247, 767, 879, 893, 894, 8191, 8203, 8205, 8303, 8591, 11263, 12271, 12288, 55295, 63743, 64975, 65007, 65533, 65535, 983039, 2147483647] : List Int).getD k 0
theorem own_tlo : ∀ k : Fin 33, (own_xs.getD (Int32.ofNat k.val).toNatClampNeg 0).toInt = own_lo k.val := by decide +kernel
theorem own_thi : ∀ k : Fin 32, ((own_xs.getD (Int32.ofNat k.val + (1 : Int32)).toNatClampNeg 0) - (1 : Int32)).toInt = own_hi k.val := by decide +kernel
theorem own_ord : ∀ k : Fin 33, own_lo k.val ≤ own_hi k.val := by decide +kernel
theorem own_yes {c : Int32} (h : own_ns c = 1) {k : Nat} (hk : k % 2 = 1) : own_ns c = if k % 2 = 1 then 1 else 0 := by rw [if_pos hk]; exact h
theorem own_not {c : Int32} (h : ¬ own_ns c = 1) {k : Nat} (hk : ¬ k % 2 = 1) : own_ns c = if k % 2 = 1 then 1 else 0 := by rw [if_neg hk]; exact (own_b_0 c).elim id fun q => absurd q h
theorem own_cl0 (c : Int32) (h1 : (-2147483648 : Int) ≤ c.toInt) (h2 : c.toInt ≤ (57 : Int)) : ¬ own_ns c = 1 := fun q => by
  have o := (own_one c).mp q
  omega
theorem own_cl1 (c : Int32) (h1 : (58 : Int) ≤ c.toInt) (h2 : c.toInt ≤ (58 : Int)) : own_ns c = 1 := (own_one c).mpr (Or.inr (Or.inr (Or.inl ⟨h1, h2⟩)))
theorem own_cl2 (c : Int32) (h1 : (59 : Int) ≤ c.toInt) (h2 : c.toInt ≤ (64 : Int)) : ¬ own_ns c = 1 := fun q => by
  have o := (own_one c).mp q
  omega
theorem own_cl3 (c : Int32) (h1 : (65 : Int) ≤ c.toInt) (h2 : c.toInt ≤ (90 : Int)) : own_ns c = 1 := (own_one c).mpr (Or.inr (Or.inl ⟨h1, h2⟩))
theorem own_cl4 (c : Int32) (h1 : (91 : Int) ≤ c.toInt) (h2 : c.toInt ≤ (94 : Int)) : ¬ own_ns c = 1 := fun q => by
  have o := (own_one c).mp q
  omega
theorem own_cl5 (c : Int32) (h1 : (95 : Int) ≤ c.toInt) (h2 : c.toInt ≤ (95 : Int)) : own_ns c = 1 := (own_one c).mpr (Or.inr (Or.inr (Or.inr (Or.inl ⟨h1, h2⟩))))
theorem own_cl6 (c : Int32) (h1 : (96 : Int) ≤ c.toInt) (h2 : c.toInt ≤ (96 : Int)) : ¬ own_ns c = 1 := fun q => by
  have o := (own_one c).mp q
  omega
theorem own_cl7 (c : Int32) (h1 : (97 : Int) ≤ c.toInt) (h2 : c.toInt ≤ (122 : Int)) : own_ns c = 1 := (own_one c).mpr (Or.inl ⟨h1, h2⟩)
theorem own_cl8 (c : Int32) (h1 : (123 : Int) ≤ c.toInt) (h2 : c.toInt ≤ (191 : Int)) : ¬ own_ns c = 1 := fun q => by
  have o := (own_one c).mp q
  omega
theorem own_cl9 (c : Int32) (h1 : (192 : Int) ≤ c.toInt) (h2 : c.toInt ≤ (214 : Int)) : own_ns c = 1 := (own_one c).mpr (Or.inr (Or.inr (Or.inr (Or.inr (Or.inl ⟨h1, h2⟩)))))
theorem own_cl10 (c : Int32) (h1 : (215 : Int) ≤ c.toInt) (h2 : c.toInt ≤ (215 : Int)) : ¬ own_ns c = 1 := fun q => by
  have o := (own_one c).mp q
  omega
theorem own_cl11 (c : Int32) (h1 : (216 : Int) ≤ c.toInt) (h2 : c.toInt ≤ (246 : Int)) : own_ns c = 1 := (own_one c).mpr (Or.inr (Or.inr (Or.inr (Or.inr (Or.inr (Or.inl ⟨h1, h2⟩))))))
theorem own_cl12 (c : Int32) (h1 : (247 : Int) ≤ c.toInt) (h2 : c.toInt ≤ (247 : Int)) : ¬ own_ns c = 1 := fun q => by
  have o := (own_one c).mp q
  omega
theorem own_cl13 (c : Int32) (h1 : (248 : Int) ≤ c.toInt) (h2 : c.toInt ≤ (767 : Int)) : own_ns c = 1 := (own_one c).mpr (Or.inr (Or.inr (Or.inr (Or.inr (Or.inr (Or.inr (Or.inl ⟨h1, h2⟩)))))))
theorem own_cl14 (c : Int32) (h1 : (768 : Int) ≤ c.toInt) (h2 : c.toInt ≤ (879 : Int)) : ¬ own_ns c = 1 := fun q => by
  have o := (own_one c).mp q
  omega
theorem own_cl15 (c : Int32) (h1 : (880 : Int) ≤ c.toInt) (h2 : c.toInt ≤ (893 : Int)) : own_ns c = 1 := (own_one c).mpr (Or.inr (Or.inr (Or.inr (Or.inr (Or.inr (Or.inr (Or.inr (Or.inl ⟨h1, h2⟩))))))))
theorem own_cl16 (c : Int32) (h1 : (894 : Int) ≤ c.toInt) (h2 : c.toInt ≤ (894 : Int)) : ¬ own_ns c = 1 := fun q => by
  have o := (own_one c).mp q
  omega
theorem own_cl17 (c : Int32) (h1 : (895 : Int) ≤ c.toInt) (h2 : c.toInt ≤ (8191 : Int)) : own_ns c = 1 := (own_one c).mpr (Or.inr (Or.inr (Or.inr (Or.inr (Or.inr (Or.inr (Or.inr (Or.inr (Or.inl ⟨h1, h2⟩)))))))))
theorem own_cl18 (c : Int32) (h1 : (8192 : Int) ≤ c.toInt) (h2 : c.toInt ≤ (8203 : Int)) : ¬ own_ns c = 1 := fun q => by
  have o := (own_one c).mp q
  omega
theorem own_cl19 (c : Int32) (h1 : (8204 : Int) ≤ c.toInt) (h2 : c.toInt ≤ (8205 : Int)) : own_ns c = 1 := (own_one c).mpr ((show c.toInt = 8204 ∨ c.toInt = 8205 by omega).elim (fun h => Or.inr (Or.inr (Or.inr (Or.inr (Or.inr (Or.inr (Or.inr (Or.inr (Or.inr (Or.inl ⟨by omega, by omega⟩)))))))))) (fun h => Or.inr (Or.inr (Or.inr (Or.inr (Or.inr (Or.inr (Or.inr (Or.inr (Or.inr (Or.inr (Or.inl ⟨by omega, by omega⟩))))))))))))
theorem own_cl20 (c : Int32) (h1 : (8206 : Int) ≤ c.toInt) (h2 : c.toInt ≤ (8303 : Int)) : ¬ own_ns c = 1 := fun q => by
  have o := (own_one c).mp q
  omega
theorem own_cl21 (c : Int32) (h1 : (8304 : Int) ≤ c.toInt) (h2 : c.toInt ≤ (8591 : Int)) : own_ns c = 1 := (own_one c).mpr (Or.inr (Or.inr (Or.inr (Or.inr (Or.inr (Or.inr (Or.inr (Or.inr (Or.inr (Or.inr (Or.inr (Or.inl ⟨h1, h2⟩))))))))))))
theorem own_cl22 (c : Int32) (h1 : (8592 : Int) ≤ c.toInt) (h2 : c.toInt ≤ (11263 : Int)) : ¬ own_ns c = 1 := fun q => by
  have o := (own_one c).mp q
  omega
theorem own_cl23 (c : Int32) (h1 : (11264 : Int) ≤ c.toInt) (h2 : c.toInt ≤ (12271 : Int)) : own_ns c = 1 := (own_one c).mpr (Or.inr (Or.inr (Or.inr (Or.inr (Or.inr (Or.inr (Or.inr (Or.inr (Or.inr (Or.inr (Or.inr (Or.inr (Or.inl ⟨h1, h2⟩)))))))))))))
theorem own_cl24 (c : Int32) (h1 : (12272 : Int) ≤ c.toInt) (h2 : c.toInt ≤ (12288 : Int)) : ¬ own_ns c = 1 := fun q => by
  have o := (own_one c).mp q
  omega
theorem own_cl25 (c : Int32) (h1 : (12289 : Int) ≤ c.toInt) (h2 : c.toInt ≤ (55295 : Int)) : own_ns c = 1 := (own_one c).mpr (Or.inr (Or.inr (Or.inr (Or.inr (Or.inr (Or.inr (Or.inr (Or.inr (Or.inr (Or.inr (Or.inr (Or.inr (Or.inr (Or.inl ⟨h1, h2⟩))))))))))))))
theorem own_cl26 (c : Int32) (h1 : (55296 : Int) ≤ c.toInt) (h2 : c.toInt ≤ (63743 : Int)) : ¬ own_ns c = 1 := fun q => by
  have o := (own_one c).mp q
  omega
theorem own_cl27 (c : Int32) (h1 : (63744 : Int) ≤ c.toInt) (h2 : c.toInt ≤ (64975 : Int)) : own_ns c = 1 := (own_one c).mpr (Or.inr (Or.inr (Or.inr (Or.inr (Or.inr (Or.inr (Or.inr (Or.inr (Or.inr (Or.inr (Or.inr (Or.inr (Or.inr (Or.inr (Or.inl ⟨h1, h2⟩)))))))))))))))
theorem own_cl28 (c : Int32) (h1 : (64976 : Int) ≤ c.toInt) (h2 : c.toInt ≤ (65007 : Int)) : ¬ own_ns c = 1 := fun q => by
  have o := (own_one c).mp q
  omega
theorem own_cl29 (c : Int32) (h1 : (65008 : Int) ≤ c.toInt) (h2 : c.toInt ≤ (65533 : Int)) : own_ns c = 1 := (own_one c).mpr (Or.inr (Or.inr (Or.inr (Or.inr (Or.inr (Or.inr (Or.inr (Or.inr (Or.inr (Or.inr (Or.inr (Or.inr (Or.inr (Or.inr (Or.inr (Or.inl ⟨h1, h2⟩))))))))))))))))
theorem own_cl30 (c : Int32) (h1 : (65534 : Int) ≤ c.toInt) (h2 : c.toInt ≤ (65535 : Int)) : ¬ own_ns c = 1 := fun q => by
  have o := (own_one c).mp q
  omega
theorem own_cl31 (c : Int32) (h1 : (65536 : Int) ≤ c.toInt) (h2 : c.toInt ≤ (983039 : Int)) : own_ns c = 1 := (own_one c).mpr (Or.inr (Or.inr (Or.inr (Or.inr (Or.inr (Or.inr (Or.inr (Or.inr (Or.inr (Or.inr (Or.inr (Or.inr (Or.inr (Or.inr (Or.inr (Or.inr (⟨h1, h2⟩)))))))))))))))))
theorem own_cl32 (c : Int32) (h1 : (983040 : Int) ≤ c.toInt) (h2 : c.toInt ≤ (2147483647 : Int)) : ¬ own_ns c = 1 := fun q => by
  have o := (own_one c).mp q
  omega
theorem own_cls (k : Nat) (hk : k < 33) (c : Int32) (h1 : own_lo k ≤ c.toInt) (h2 : c.toInt ≤ own_hi k) : own_ns c = if k % 2 = 1 then 1 else 0 :=
  match k, hk, h1, h2 with
  | 0, _, h1, h2 => own_not (own_cl0 c h1 h2) (by decide)
  | 1, _, h1, h2 => own_yes (own_cl1 c h1 h2) (by decide)
  | 2, _, h1, h2 => own_not (own_cl2 c h1 h2) (by decide)
  | 3, _, h1, h2 => own_yes (own_cl3 c h1 h2) (by decide)
  | 4, _, h1, h2 => own_not (own_cl4 c h1 h2) (by decide)
  | 5, _, h1, h2 => own_yes (own_cl5 c h1 h2) (by decide)
  | 6, _, h1, h2 => own_not (own_cl6 c h1 h2) (by decide)
  | 7, _, h1, h2 => own_yes (own_cl7 c h1 h2) (by decide)
  | 8, _, h1, h2 => own_not (own_cl8 c h1 h2) (by decide)
  | 9, _, h1, h2 => own_yes (own_cl9 c h1 h2) (by decide)
  | 10, _, h1, h2 => own_not (own_cl10 c h1 h2) (by decide)
  | 11, _, h1, h2 => own_yes (own_cl11 c h1 h2) (by decide)
  | 12, _, h1, h2 => own_not (own_cl12 c h1 h2) (by decide)
  | 13, _, h1, h2 => own_yes (own_cl13 c h1 h2) (by decide)
  | 14, _, h1, h2 => own_not (own_cl14 c h1 h2) (by decide)
  | 15, _, h1, h2 => own_yes (own_cl15 c h1 h2) (by decide)
  | 16, _, h1, h2 => own_not (own_cl16 c h1 h2) (by decide)
  | 17, _, h1, h2 => own_yes (own_cl17 c h1 h2) (by decide)
  | 18, _, h1, h2 => own_not (own_cl18 c h1 h2) (by decide)
  | 19, _, h1, h2 => own_yes (own_cl19 c h1 h2) (by decide)
  | 20, _, h1, h2 => own_not (own_cl20 c h1 h2) (by decide)
  | 21, _, h1, h2 => own_yes (own_cl21 c h1 h2) (by decide)
  | 22, _, h1, h2 => own_not (own_cl22 c h1 h2) (by decide)
  | 23, _, h1, h2 => own_yes (own_cl23 c h1 h2) (by decide)
  | 24, _, h1, h2 => own_not (own_cl24 c h1 h2) (by decide)
  | 25, _, h1, h2 => own_yes (own_cl25 c h1 h2) (by decide)
  | 26, _, h1, h2 => own_not (own_cl26 c h1 h2) (by decide)
  | 27, _, h1, h2 => own_yes (own_cl27 c h1 h2) (by decide)
  | 28, _, h1, h2 => own_not (own_cl28 c h1 h2) (by decide)
  | 29, _, h1, h2 => own_yes (own_cl29 c h1 h2) (by decide)
  | 30, _, h1, h2 => own_not (own_cl30 c h1 h2) (by decide)
  | 31, _, h1, h2 => own_yes (own_cl31 c h1 h2) (by decide)
  | 32, _, h1, h2 => own_not (own_cl32 c h1 h2) (by decide)
  | n + 33, hk, _, _ => absurd hk (by omega)
theorem own_seg {i lo hi j : Int32} (h : ∃ k : Nat, k < 33 ∧ i = Int32.ofNat k) (hlo : lo = own_xs.getD i.toNatClampNeg 0)
    (hh : (hi = (2147483647 : Int32) ∧ i = (32 : Int32)) ∨ (hi = own_xs.getD (i + (1 : Int32)).toNatClampNeg 0 - (1 : Int32) ∧ ¬ (i = (32 : Int32))))
    (hj : (j = (1 : Int32) ∧ (i &&& (1 : Int32)) = (1 : Int32)) ∨ (j = (0 : Int32) ∧ ¬ ((i &&& (1 : Int32)) = (1 : Int32)))) : ∀ c : Int32, lo.toInt ≤ c.toInt → c.toInt ≤ hi.toInt → own_ns c = j := by
  obtain ⟨k, hk, rfl⟩ := h
  have e1 := own_tlo ⟨k, hk⟩
  have e2 := own_par ⟨k, hk⟩
  dsimp only at e1 e2
  have e3 : hi.toInt = own_hi k := by
    rcases hh with ⟨rfl, q⟩ | ⟨rfl, q⟩
    · have : k = 32 := by
        have := congrArg Int32.toInt q
        rw [Int32.toInt_ofNat_of_lt (by omega)] at this
        have t : (32 : Int32).toInt = 32 := rfl
        omega
      subst this; decide +kernel
    · have : k ≠ 32 := fun r => q (by rw [r]; rfl)
      exact own_thi ⟨k, by omega⟩
  intro c h1 h2
  rw [hlo, e1] at h1
  rw [e3] at h2
  rw [own_cls k hk c h1 h2]
  rcases hj with ⟨rfl, q⟩ | ⟨rfl, q⟩
  · rw [if_pos (e2.mp q)]
  · rw [if_neg fun r => q (e2.mpr r)]
theorem own_le {i lo hi : Int32} (h : ∃ k : Nat, k < 33 ∧ i = Int32.ofNat k) (hlo : lo = own_xs.getD i.toNatClampNeg 0)
    (hh : (hi = (2147483647 : Int32) ∧ i = (32 : Int32)) ∨ (hi = own_xs.getD (i + (1 : Int32)).toNatClampNeg 0 - (1 : Int32) ∧ ¬ (i = (32 : Int32)))) : lo.toInt ≤ hi.toInt := by
  obtain ⟨k, hk, rfl⟩ := h
  have e1 := own_tlo ⟨k, hk⟩
  dsimp only at e1
  have e3 : hi.toInt = own_hi k := by
    rcases hh with ⟨rfl, q⟩ | ⟨rfl, q⟩
    · have : k = 32 := by
        have := congrArg Int32.toInt q
        rw [Int32.toInt_ofNat_of_lt (by omega)] at this
        have t : (32 : Int32).toInt = 32 := rfl
        omega
      subst this; decide +kernel
    · have : k ≠ 32 := fun r => q (by rw [r]; rfl)
      exact own_thi ⟨k, by omega⟩
  rw [hlo, e1, e3]; exact own_ord ⟨k, hk⟩
theorem own_len {lo hi : Int32} {len : Int64} (h : lo.toInt ≤ hi.toInt) (e : len = (hi.toInt64 - lo.toInt64) + (1 : Int64)) : len.toInt = hi.toInt - lo.toInt + 1 := by
  have a := c_lsub hi.toInt64 lo.toInt64
  have b := c_ladd (hi.toInt64 - lo.toInt64) (1 : Int64)
  rw [c_i2l, c_i2l] at a
  have r1 := rng32 lo
  have r2 := rng32 hi
  have r3 := rng64 (hi.toInt64 - lo.toInt64)
  have r4 := rng64 ((hi.toInt64 - lo.toInt64) + (1 : Int64))
  have t : (1 : Int64).toInt = 1 := rfl
  rw [e]; omega
theorem own_lnz {len : Int64} {x : Int} (h : len.toInt = x + 1) (hx : 0 ≤ x) : len ≠ 0 := fun q => by
  rw [q] at h; have t : (0 : Int64).toInt = 0 := rfl; omega
theorem own_c {lo hi off c : Int32} {len r : Int64} (h : lo.toInt ≤ hi.toInt) (hl : len.toInt = hi.toInt - lo.toInt + 1) (hr : r = (off.toInt64 &&& (4294967295 : Int64)) % len) (hc : c = (lo.toInt64 + r).toInt32) : lo.toInt ≤ c.toInt ∧ c.toInt ≤ hi.toInt := by
  have m : 0 ≤ (off.toInt64 &&& (4294967295 : Int64)).toInt := by rw [c_maskL off.toInt64 (4294967295 : Int64) 32 (by decide) (by decide)]; omega
  have r1 : r.toInt = (off.toInt64 &&& (4294967295 : Int64)).toInt % len.toInt := by rw [hr, Int64.toInt_mod, Int.tmod_eq_emod_of_nonneg m]
  have r2 := Int.emod_nonneg (off.toInt64 &&& (4294967295 : Int64)).toInt (show len.toInt ≠ 0 by omega)
  have r3 := Int.emod_lt_of_pos (off.toInt64 &&& (4294967295 : Int64)).toInt (show 0 < len.toInt by omega)
  have a := c_ladd lo.toInt64 r
  rw [c_i2l] at a
  have b := c_l2i (lo.toInt64 + r)
  have q1 := rng32 lo
  have q2 := rng32 hi
  have q3 := rng64 (lo.toInt64 + r)
  have q4 := rng32 (lo.toInt64 + r).toInt32
  rw [hc]; omega
theorem ef_0 (m : MethodId) (x0 : Int32) (x1 : Int32) : entryFrame m #[(.int x0), (.int x1)] maxLocals = mkF m 0 #[.val (.int x0), .val (.int x1), .unset, .unset, .unset, .unset, .unset, .unset, .unset, .unset, .unset, .unset] [] := by first | (simp [entryFrame, mkF, argsToLocals, Value.category, maxLocals]; done) | rfl
theorem pn_1 : plainName "com/example/ratatoskr/ratatoskr/xml/XmlCharsIsNameStartPinLaw" = true := by first | (simp [plainName, overriddenIn]; done) | decide +kernel
theorem pd_0 : parseMethodDescriptor "(I)Z" = some ⟨[.int], some .boolean⟩ := by decide +kernel
def Q0 (Z : State) (p0 p1 : Int32) (h0 : Heap) (n0 : Nat) (v : Option Value) (h : Heap) (L : List Loc) : Prop := v = some (.int 1) ∧ Fr n0 L
set_option maxRecDepth 65536 in
set_option maxHeartbeats 40000000 in
theorem rm0 (l : Launch) (Z : State) (A0 : Array Value) (hw : ∀ d ∈ tables_1, d.before A0 Z = true) (ws : List Jvm.Cond) (p0 : Int32) (p1 : Int32)  (h0 : Heap) (n0 : Nat) (Z0 : n0 ≤ h0.size)  :
    MetFree l x (head1 (Jvm.Cond.code x code maxLocals ret :: ws) room_1) (fun a U => a = #[(.int p0), (.int p1)] ∧ Z.Warmed39 U.vm ∧ U.heap = h0) (fun _ _ _ _ _ => True) (fun _ U o U' => ∃ v L, o = .returned v ∧ Q0 Z p0 p1 h0 n0 v U'.heap L ∧ FrameEnd U o U' L 1 33) := by
  refine MetFree.of_bodySF (plainFor_of_name pn_1) hisR ?_
  intro p e s m args below meth c s₁ Bd hml0 hP hK
  obtain ⟨rfl, hZ, hh⟩ := hP
  have hx := Bd.exec
  have hby := Bd.bytes
  have hml : c.maxLocals = 12 := hml0
  have hown : s.vm.findClass "com/example/ratatoskr/ratatoskr/xml/XmlCharsIsNameStartPinLaw" = some m.cls := findClass_of_methodNamed Bd.named
  have hnm := (name_of_methodNamed Bd.named Bd.method).1
  have X0 : Stand p l e room_1 s m #[(.int p0), (.int p1)] below meth c s₁ [] 0 0 := Stand.of_body Bd
  have e0 : s₁.heap = h0 := by rw [← hh, Bd.state]; rfl
  have N0 := Fr.nil n0
  obtain ⟨S0, hS0⟩ : ∃ z, z = s₁.setTop (entryFrame m #[(.int p0), (.int p1)] maxLocals) := ⟨_, rfl⟩
  have pre0 : Go p.tables e below S0 s₁ (mkF m 0 #[vI p0, vI p1, .unset, .unset, .unset, .unset, .unset, .unset, .unset, .unset, .unset, .unset] []) := fun t k => by rw [hS0]; exact castTop (ef_0 m p0 p1) k
  have pre1 : Go p.tables e below S0 s₁ (mkF m 2 #[vI p0, vI p1, .unset, .unset, .unset, .unset, .unset, .unset, .unset, .unset, .unset, .unset] [(.int (33 : Int32))]) := fun t k => pre0 t (by
    refine XS.bipush X0.here hx rfl (hb hby at_0) ?_
    show Steps p.tables e below (s₁.setTop (mkF m 2 #[vI p0, vI p1, .unset, .unset, .unset, .unset, .unset, .unset, .unset, .unset, .unset, .unset] [(.int (33 : Int32))])) _
    exact k)
  obtain ⟨T2, h2, kA2, X2, e2, E2, A2, st2⟩ := newP X0 hx hZ (hw _ (List.mem_of_getElem? (i := 0) rfl)) e0 (g := (mkF m 2 #[vI p0, vI p1, .unset, .unset, .unset, .unset, .unset, .unset, .unset, .unset, .unset, .unset] [(.int (33 : Int32))])) rfl (hb hby at_2) rfl (by decide) (cap := 33) (by decide) (by decide) (by decide) (by decide)
  obtain ⟨b2, g2⟩ : ∃ z, z = h0.size := ⟨_, rfl⟩
  rw [← g2] at A2 st2
  have pre2 : Go p.tables e below S0 T2 (mkF m 4 #[vI p0, vI p1, .unset, .unset, .unset, .unset, .unset, .unset, .unset, .unset, .unset, .unset] [(.ref b2)]) := fun t k => pre1 t (st2 t k)
  have bo2 : n0 ≤ b2 := Nat.le_trans Z0 (Nat.le_of_eq g2.symm)
  have zz4 : n0 ≤ h2.size := Nat.le_trans Z0 E2.1
  have av2 : Arv Z h2 b2 kA2 .int (33 : Int32) [(.int (0 : Int32)), (.int (0 : Int32)), (.int (0 : Int32)), (.int (0 : Int32)), (.int (0 : Int32)), (.int (0 : Int32)), (.int (0 : Int32)), (.int (0 : Int32)), (.int (0 : Int32)), (.int (0 : Int32)), (.int (0 : Int32)), (.int (0 : Int32)), (.int (0 : Int32)), (.int (0 : Int32)), (.int (0 : Int32)), (.int (0 : Int32)), (.int (0 : Int32)), (.int (0 : Int32)), (.int (0 : Int32)), (.int (0 : Int32)), (.int (0 : Int32)), (.int (0 : Int32)), (.int (0 : Int32)), (.int (0 : Int32)), (.int (0 : Int32)), (.int (0 : Int32)), (.int (0 : Int32)), (.int (0 : Int32)), (.int (0 : Int32)), (.int (0 : Int32)), (.int (0 : Int32)), (.int (0 : Int32)), (.int (0 : Int32))] (.int (0 : Int32)) := (Arv.new A2 (by decide)).pad (pad_rep [] (.int (0 : Int32)) 33)
  have pre5 : Go p.tables e below S0 T2 (mkF m 8 #[vI p0, vI p1, .unset, .unset, .unset, .unset, .unset, .unset, .unset, .unset, .unset, .unset] [(.int (-2147483648 : Int32)), (.int (0 : Int32)), (.ref b2), (.ref b2)]) := fun t k => pre2 t (by
    refine XS.dup X2.here hx rfl (hb hby at_4) rfl rfl ?_
    show Steps p.tables e below (T2.setTop (mkF m 5 #[vI p0, vI p1, .unset, .unset, .unset, .unset, .unset, .unset, .unset, .unset, .unset, .unset] [(.ref b2), (.ref b2)])) _
    refine XS.iconst X2.here hx rfl (hb hby at_5) ?_
    show Steps p.tables e below (T2.setTop (mkF m 6 #[vI p0, vI p1, .unset, .unset, .unset, .unset, .unset, .unset, .unset, .unset, .unset, .unset] [(.int (0 : Int32)), (.ref b2), (.ref b2)])) _
    refine X2.ldcInt hx hown (mvT hZ (hw _ (List.mem_of_getElem? (i := 1) rfl))) (g := (mkF m 6 #[vI p0, vI p1, .unset, .unset, .unset, .unset, .unset, .unset, .unset, .unset, .unset, .unset] [(.int (0 : Int32)), (.ref b2), (.ref b2)])) rfl (hb hby at_6) _ ?_
    show Steps p.tables e below (T2.setTop (mkF m 8 #[vI p0, vI p1, .unset, .unset, .unset, .unset, .unset, .unset, .unset, .unset, .unset, .unset] [(.int (-2147483648 : Int32)), (.int (0 : Int32)), (.ref b2), (.ref b2)])) _
    exact k)
  obtain ⟨cl6, Ar6, q6, S6, M6, H6, G6⟩ := id av2
  have in6 : ¬ ((0 : Int32) < 0 ∨ cl6.slots.size ≤ ((0 : Int32)).toNatClampNeg) := inb_of S6 ⟨by decide, by decide⟩
  obtain ⟨T6, h6, X6, e6, W6, st6⟩ := stI X2 hx hZ e2 Ar6 (j := (0 : Int32)) in6 (g := (mkF m 8 #[vI p0, vI p1, .unset, .unset, .unset, .unset, .unset, .unset, .unset, .unset, .unset, .unset] [(.int (-2147483648 : Int32)), (.int (0 : Int32)), (.ref b2), (.ref b2)])) rfl rfl (hb hby at_8)
  have pre6 : Go p.tables e below S0 T6 (mkF m 9 #[vI p0, vI p1, .unset, .unset, .unset, .unset, .unset, .unset, .unset, .unset, .unset, .unset] [(.ref b2)]) := fun t k => pre5 t (st6 t k)
  obtain ⟨lo6, N6, X6⟩ : ∃ lo, Fr n0 lo ∧ Stand p l e room_1 s m #[(.int p0), (.int p1)] below meth c T6 lo 1 33 := ⟨_, Fr.snoc X6 N0 bo2, X6⟩
  have av6 : Arv Z h6 b2 kA2 .int (33 : Int32) [(.int (-2147483648 : Int32)), (.int (0 : Int32)), (.int (0 : Int32)), (.int (0 : Int32)), (.int (0 : Int32)), (.int (0 : Int32)), (.int (0 : Int32)), (.int (0 : Int32)), (.int (0 : Int32)), (.int (0 : Int32)), (.int (0 : Int32)), (.int (0 : Int32)), (.int (0 : Int32)), (.int (0 : Int32)), (.int (0 : Int32)), (.int (0 : Int32)), (.int (0 : Int32)), (.int (0 : Int32)), (.int (0 : Int32)), (.int (0 : Int32)), (.int (0 : Int32)), (.int (0 : Int32)), (.int (0 : Int32)), (.int (0 : Int32)), (.int (0 : Int32)), (.int (0 : Int32)), (.int (0 : Int32)), (.int (0 : Int32)), (.int (0 : Int32)), (.int (0 : Int32)), (.int (0 : Int32)), (.int (0 : Int32)), (.int (0 : Int32))] (.int (0 : Int32)) := Arv.set Ar6 q6 S6 M6 H6 G6 rfl W6 0 rfl (Nat.le_of_ble_eq_true rfl)
  have zz8 : n0 ≤ h6.size := Nat.le_trans zz4 (Keep.of_wr W6).1
  have pre9 : Go p.tables e below S0 T6 (mkF m 13 #[vI p0, vI p1, .unset, .unset, .unset, .unset, .unset, .unset, .unset, .unset, .unset, .unset] [(.int (58 : Int32)), (.int (1 : Int32)), (.ref b2), (.ref b2)]) := fun t k => pre6 t (by
    refine XS.dup X6.here hx rfl (hb hby at_9) rfl rfl ?_
    show Steps p.tables e below (T6.setTop (mkF m 10 #[vI p0, vI p1, .unset, .unset, .unset, .unset, .unset, .unset, .unset, .unset, .unset, .unset] [(.ref b2), (.ref b2)])) _
    refine XS.iconst X6.here hx rfl (hb hby at_10) ?_
    show Steps p.tables e below (T6.setTop (mkF m 11 #[vI p0, vI p1, .unset, .unset, .unset, .unset, .unset, .unset, .unset, .unset, .unset, .unset] [(.int (1 : Int32)), (.ref b2), (.ref b2)])) _
    refine XS.bipush X6.here hx rfl (hb hby at_11) ?_
    show Steps p.tables e below (T6.setTop (mkF m 13 #[vI p0, vI p1, .unset, .unset, .unset, .unset, .unset, .unset, .unset, .unset, .unset, .unset] [(.int (58 : Int32)), (.int (1 : Int32)), (.ref b2), (.ref b2)])) _
    exact k)
  obtain ⟨cl10, Ar10, q10, S10, M10, H10, G10⟩ := id av6
  have in10 : ¬ ((1 : Int32) < 0 ∨ cl10.slots.size ≤ ((1 : Int32)).toNatClampNeg) := inb_of S10 ⟨by decide, by decide⟩
  obtain ⟨T10, h10, X10, e10, W10, st10⟩ := stI X6 hx hZ e6 Ar10 (j := (1 : Int32)) in10 (g := (mkF m 13 #[vI p0, vI p1, .unset, .unset, .unset, .unset, .unset, .unset, .unset, .unset, .unset, .unset] [(.int (58 : Int32)), (.int (1 : Int32)), (.ref b2), (.ref b2)])) rfl rfl (hb hby at_13)
  have pre10 : Go p.tables e below S0 T10 (mkF m 14 #[vI p0, vI p1, .unset, .unset, .unset, .unset, .unset, .unset, .unset, .unset, .unset, .unset] [(.ref b2)]) := fun t k => pre9 t (st10 t k)
  obtain ⟨lo10, N10, X10⟩ : ∃ lo, Fr n0 lo ∧ Stand p l e room_1 s m #[(.int p0), (.int p1)] below meth c T10 lo 1 33 := ⟨_, Fr.snoc X10 N6 bo2, X10⟩
  have av10 : Arv Z h10 b2 kA2 .int (33 : Int32) [(.int (-2147483648 : Int32)), (.int (58 : Int32)), (.int (0 : Int32)), (.int (0 : Int32)), (.int (0 : Int32)), (.int (0 : Int32)), (.int (0 : Int32)), (.int (0 : Int32)), (.int (0 : Int32)), (.int (0 : Int32)), (.int (0 : Int32)), (.int (0 : Int32)), (.int (0 : Int32)), (.int (0 : Int32)), (.int (0 : Int32)), (.int (0 : Int32)), (.int (0 : Int32)), (.int (0 : Int32)), (.int (0 : Int32)), (.int (0 : Int32)), (.int (0 : Int32)), (.int (0 : Int32)), (.int (0 : Int32)), (.int (0 : Int32)), (.int (0 : Int32)), (.int (0 : Int32)), (.int (0 : Int32)), (.int (0 : Int32)), (.int (0 : Int32)), (.int (0 : Int32)), (.int (0 : Int32)), (.int (0 : Int32)), (.int (0 : Int32))] (.int (0 : Int32)) := Arv.set Ar10 q10 S10 M10 H10 G10 rfl W10 1 rfl (Nat.le_of_ble_eq_true rfl)
  have zz12 : n0 ≤ h10.size := Nat.le_trans zz8 (Keep.of_wr W10).1
  have pre13 : Go p.tables e below S0 T10 (mkF m 18 #[vI p0, vI p1, .unset, .unset, .unset, .unset, .unset, .unset, .unset, .unset, .unset, .unset] [(.int (59 : Int32)), (.int (2 : Int32)), (.ref b2), (.ref b2)]) := fun t k => pre10 t (by
    refine XS.dup X10.here hx rfl (hb hby at_14) rfl rfl ?_
    show Steps p.tables e below (T10.setTop (mkF m 15 #[vI p0, vI p1, .unset, .unset, .unset, .unset, .unset, .unset, .unset, .unset, .unset, .unset] [(.ref b2), (.ref b2)])) _
    refine XS.iconst X10.here hx rfl (hb hby at_15) ?_
    show Steps p.tables e below (T10.setTop (mkF m 16 #[vI p0, vI p1, .unset, .unset, .unset, .unset, .unset, .unset, .unset, .unset, .unset, .unset] [(.int (2 : Int32)), (.ref b2), (.ref b2)])) _
    refine XS.bipush X10.here hx rfl (hb hby at_16) ?_
    show Steps p.tables e below (T10.setTop (mkF m 18 #[vI p0, vI p1, .unset, .unset, .unset, .unset, .unset, .unset, .unset, .unset, .unset, .unset] [(.int (59 : Int32)), (.int (2 : Int32)), (.ref b2), (.ref b2)])) _
    exact k)
  obtain ⟨cl14, Ar14, q14, S14, M14, H14, G14⟩ := id av10
  have in14 : ¬ ((2 : Int32) < 0 ∨ cl14.slots.size ≤ ((2 : Int32)).toNatClampNeg) := inb_of S14 ⟨by decide, by decide⟩
  obtain ⟨T14, h14, X14, e14, W14, st14⟩ := stI X10 hx hZ e10 Ar14 (j := (2 : Int32)) in14 (g := (mkF m 18 #[vI p0, vI p1, .unset, .unset, .unset, .unset, .unset, .unset, .unset, .unset, .unset, .unset] [(.int (59 : Int32)), (.int (2 : Int32)), (.ref b2), (.ref b2)])) rfl rfl (hb hby at_18)
  have pre14 : Go p.tables e below S0 T14 (mkF m 19 #[vI p0, vI p1, .unset, .unset, .unset, .unset, .unset, .unset, .unset, .unset, .unset, .unset] [(.ref b2)]) := fun t k => pre13 t (st14 t k)
  obtain ⟨lo14, N14, X14⟩ : ∃ lo, Fr n0 lo ∧ Stand p l e room_1 s m #[(.int p0), (.int p1)] below meth c T14 lo 1 33 := ⟨_, Fr.snoc X14 N10 bo2, X14⟩
  have av14 : Arv Z h14 b2 kA2 .int (33 : Int32) [(.int (-2147483648 : Int32)), (.int (58 : Int32)), (.int (59 : Int32)), (.int (0 : Int32)), (.int (0 : Int32)), (.int (0 : Int32)), (.int (0 : Int32)), (.int (0 : Int32)), (.int (0 : Int32)), (.int (0 : Int32)), (.int (0 : Int32)), (.int (0 : Int32)), (.int (0 : Int32)), (.int (0 : Int32)), (.int (0 : Int32)), (.int (0 : Int32)), (.int (0 : Int32)), (.int (0 : Int32)), (.int (0 : Int32)), (.int (0 : Int32)), (.int (0 : Int32)), (.int (0 : Int32)), (.int (0 : Int32)), (.int (0 : Int32)), (.int (0 : Int32)), (.int (0 : Int32)), (.int (0 : Int32)), (.int (0 : Int32)), (.int (0 : Int32)), (.int (0 : Int32)), (.int (0 : Int32)), (.int (0 : Int32)), (.int (0 : Int32))] (.int (0 : Int32)) := Arv.set Ar14 q14 S14 M14 H14 G14 rfl W14 2 rfl (Nat.le_of_ble_eq_true rfl)
  have zz16 : n0 ≤ h14.size := Nat.le_trans zz12 (Keep.of_wr W14).1
  have pre17 : Go p.tables e below S0 T14 (mkF m 23 #[vI p0, vI p1, .unset, .unset, .unset, .unset, .unset, .unset, .unset, .unset, .unset, .unset] [(.int (65 : Int32)), (.int (3 : Int32)), (.ref b2), (.ref b2)]) := fun t k => pre14 t (by
    refine XS.dup X14.here hx rfl (hb hby at_19) rfl rfl ?_
    show Steps p.tables e below (T14.setTop (mkF m 20 #[vI p0, vI p1, .unset, .unset, .unset, .unset, .unset, .unset, .unset, .unset, .unset, .unset] [(.ref b2), (.ref b2)])) _
    refine XS.iconst X14.here hx rfl (hb hby at_20) ?_
    show Steps p.tables e below (T14.setTop (mkF m 21 #[vI p0, vI p1, .unset, .unset, .unset, .unset, .unset, .unset, .unset, .unset, .unset, .unset] [(.int (3 : Int32)), (.ref b2), (.ref b2)])) _
    refine XS.bipush X14.here hx rfl (hb hby at_21) ?_
    show Steps p.tables e below (T14.setTop (mkF m 23 #[vI p0, vI p1, .unset, .unset, .unset, .unset, .unset, .unset, .unset, .unset, .unset, .unset] [(.int (65 : Int32)), (.int (3 : Int32)), (.ref b2), (.ref b2)])) _
    exact k)
  obtain ⟨cl18, Ar18, q18, S18, M18, H18, G18⟩ := id av14
  have in18 : ¬ ((3 : Int32) < 0 ∨ cl18.slots.size ≤ ((3 : Int32)).toNatClampNeg) := inb_of S18 ⟨by decide, by decide⟩
  obtain ⟨T18, h18, X18, e18, W18, st18⟩ := stI X14 hx hZ e14 Ar18 (j := (3 : Int32)) in18 (g := (mkF m 23 #[vI p0, vI p1, .unset, .unset, .unset, .unset, .unset, .unset, .unset, .unset, .unset, .unset] [(.int (65 : Int32)), (.int (3 : Int32)), (.ref b2), (.ref b2)])) rfl rfl (hb hby at_23)
  have pre18 : Go p.tables e below S0 T18 (mkF m 24 #[vI p0, vI p1, .unset, .unset, .unset, .unset, .unset, .unset, .unset, .unset, .unset, .unset] [(.ref b2)]) := fun t k => pre17 t (st18 t k)
  obtain ⟨lo18, N18, X18⟩ : ∃ lo, Fr n0 lo ∧ Stand p l e room_1 s m #[(.int p0), (.int p1)] below meth c T18 lo 1 33 := ⟨_, Fr.snoc X18 N14 bo2, X18⟩
  have av18 : Arv Z h18 b2 kA2 .int (33 : Int32) [(.int (-2147483648 : Int32)), (.int (58 : Int32)), (.int (59 : Int32)), (.int (65 : Int32)), (.int (0 : Int32)), (.int (0 : Int32)), (.int (0 : Int32)), (.int (0 : Int32)), (.int (0 : Int32)), (.int (0 : Int32)), (.int (0 : Int32)), (.int (0 : Int32)), (.int (0 : Int32)), (.int (0 : Int32)), (.int (0 : Int32)), (.int (0 : Int32)), (.int (0 : Int32)), (.int (0 : Int32)), (.int (0 : Int32)), (.int (0 : Int32)), (.int (0 : Int32)), (.int (0 : Int32)), (.int (0 : Int32)), (.int (0 : Int32)), (.int (0 : Int32)), (.int (0 : Int32)), (.int (0 : Int32)), (.int (0 : Int32)), (.int (0 : Int32)), (.int (0 : Int32)), (.int (0 : Int32)), (.int (0 : Int32)), (.int (0 : Int32))] (.int (0 : Int32)) := Arv.set Ar18 q18 S18 M18 H18 G18 rfl W18 3 rfl (Nat.le_of_ble_eq_true rfl)
  have zz20 : n0 ≤ h18.size := Nat.le_trans zz16 (Keep.of_wr W18).1
  have pre21 : Go p.tables e below S0 T18 (mkF m 28 #[vI p0, vI p1, .unset, .unset, .unset, .unset, .unset, .unset, .unset, .unset, .unset, .unset] [(.int (91 : Int32)), (.int (4 : Int32)), (.ref b2), (.ref b2)]) := fun t k => pre18 t (by
    refine XS.dup X18.here hx rfl (hb hby at_24) rfl rfl ?_
    show Steps p.tables e below (T18.setTop (mkF m 25 #[vI p0, vI p1, .unset, .unset, .unset, .unset, .unset, .unset, .unset, .unset, .unset, .unset] [(.ref b2), (.ref b2)])) _
    refine XS.iconst X18.here hx rfl (hb hby at_25) ?_
    show Steps p.tables e below (T18.setTop (mkF m 26 #[vI p0, vI p1, .unset, .unset, .unset, .unset, .unset, .unset, .unset, .unset, .unset, .unset] [(.int (4 : Int32)), (.ref b2), (.ref b2)])) _
    refine XS.bipush X18.here hx rfl (hb hby at_26) ?_
    show Steps p.tables e below (T18.setTop (mkF m 28 #[vI p0, vI p1, .unset, .unset, .unset, .unset, .unset, .unset, .unset, .unset, .unset, .unset] [(.int (91 : Int32)), (.int (4 : Int32)), (.ref b2), (.ref b2)])) _
    exact k)
  obtain ⟨cl22, Ar22, q22, S22, M22, H22, G22⟩ := id av18
  have in22 : ¬ ((4 : Int32) < 0 ∨ cl22.slots.size ≤ ((4 : Int32)).toNatClampNeg) := inb_of S22 ⟨by decide, by decide⟩
  obtain ⟨T22, h22, X22, e22, W22, st22⟩ := stI X18 hx hZ e18 Ar22 (j := (4 : Int32)) in22 (g := (mkF m 28 #[vI p0, vI p1, .unset, .unset, .unset, .unset, .unset, .unset, .unset, .unset, .unset, .unset] [(.int (91 : Int32)), (.int (4 : Int32)), (.ref b2), (.ref b2)])) rfl rfl (hb hby at_28)
  have pre22 : Go p.tables e below S0 T22 (mkF m 29 #[vI p0, vI p1, .unset, .unset, .unset, .unset, .unset, .unset, .unset, .unset, .unset, .unset] [(.ref b2)]) := fun t k => pre21 t (st22 t k)
  obtain ⟨lo22, N22, X22⟩ : ∃ lo, Fr n0 lo ∧ Stand p l e room_1 s m #[(.int p0), (.int p1)] below meth c T22 lo 1 33 := ⟨_, Fr.snoc X22 N18 bo2, X22⟩
  have av22 : Arv Z h22 b2 kA2 .int (33 : Int32) [(.int (-2147483648 : Int32)), (.int (58 : Int32)), (.int (59 : Int32)), (.int (65 : Int32)), (.int (91 : Int32)), (.int (0 : Int32)), (.int (0 : Int32)), (.int (0 : Int32)), (.int (0 : Int32)), (.int (0 : Int32)), (.int (0 : Int32)), (.int (0 : Int32)), (.int (0 : Int32)), (.int (0 : Int32)), (.int (0 : Int32)), (.int (0 : Int32)), (.int (0 : Int32)), (.int (0 : Int32)), (.int (0 : Int32)), (.int (0 : Int32)), (.int (0 : Int32)), (.int (0 : Int32)), (.int (0 : Int32)), (.int (0 : Int32)), (.int (0 : Int32)), (.int (0 : Int32)), (.int (0 : Int32)), (.int (0 : Int32)), (.int (0 : Int32)), (.int (0 : Int32)), (.int (0 : Int32)), (.int (0 : Int32)), (.int (0 : Int32))] (.int (0 : Int32)) := Arv.set Ar22 q22 S22 M22 H22 G22 rfl W22 4 rfl (Nat.le_of_ble_eq_true rfl)
  have zz24 : n0 ≤ h22.size := Nat.le_trans zz20 (Keep.of_wr W22).1
  have pre25 : Go p.tables e below S0 T22 (mkF m 33 #[vI p0, vI p1, .unset, .unset, .unset, .unset, .unset, .unset, .unset, .unset, .unset, .unset] [(.int (95 : Int32)), (.int (5 : Int32)), (.ref b2), (.ref b2)]) := fun t k => pre22 t (by
    refine XS.dup X22.here hx rfl (hb hby at_29) rfl rfl ?_
    show Steps p.tables e below (T22.setTop (mkF m 30 #[vI p0, vI p1, .unset, .unset, .unset, .unset, .unset, .unset, .unset, .unset, .unset, .unset] [(.ref b2), (.ref b2)])) _
    refine XS.iconst X22.here hx rfl (hb hby at_30) ?_
    show Steps p.tables e below (T22.setTop (mkF m 31 #[vI p0, vI p1, .unset, .unset, .unset, .unset, .unset, .unset, .unset, .unset, .unset, .unset] [(.int (5 : Int32)), (.ref b2), (.ref b2)])) _
    refine XS.bipush X22.here hx rfl (hb hby at_31) ?_
    show Steps p.tables e below (T22.setTop (mkF m 33 #[vI p0, vI p1, .unset, .unset, .unset, .unset, .unset, .unset, .unset, .unset, .unset, .unset] [(.int (95 : Int32)), (.int (5 : Int32)), (.ref b2), (.ref b2)])) _
    exact k)
  obtain ⟨cl26, Ar26, q26, S26, M26, H26, G26⟩ := id av22
  have in26 : ¬ ((5 : Int32) < 0 ∨ cl26.slots.size ≤ ((5 : Int32)).toNatClampNeg) := inb_of S26 ⟨by decide, by decide⟩
  obtain ⟨T26, h26, X26, e26, W26, st26⟩ := stI X22 hx hZ e22 Ar26 (j := (5 : Int32)) in26 (g := (mkF m 33 #[vI p0, vI p1, .unset, .unset, .unset, .unset, .unset, .unset, .unset, .unset, .unset, .unset] [(.int (95 : Int32)), (.int (5 : Int32)), (.ref b2), (.ref b2)])) rfl rfl (hb hby at_33)
  have pre26 : Go p.tables e below S0 T26 (mkF m 34 #[vI p0, vI p1, .unset, .unset, .unset, .unset, .unset, .unset, .unset, .unset, .unset, .unset] [(.ref b2)]) := fun t k => pre25 t (st26 t k)
  obtain ⟨lo26, N26, X26⟩ : ∃ lo, Fr n0 lo ∧ Stand p l e room_1 s m #[(.int p0), (.int p1)] below meth c T26 lo 1 33 := ⟨_, Fr.snoc X26 N22 bo2, X26⟩
  have av26 : Arv Z h26 b2 kA2 .int (33 : Int32) [(.int (-2147483648 : Int32)), (.int (58 : Int32)), (.int (59 : Int32)), (.int (65 : Int32)), (.int (91 : Int32)), (.int (95 : Int32)), (.int (0 : Int32)), (.int (0 : Int32)), (.int (0 : Int32)), (.int (0 : Int32)), (.int (0 : Int32)), (.int (0 : Int32)), (.int (0 : Int32)), (.int (0 : Int32)), (.int (0 : Int32)), (.int (0 : Int32)), (.int (0 : Int32)), (.int (0 : Int32)), (.int (0 : Int32)), (.int (0 : Int32)), (.int (0 : Int32)), (.int (0 : Int32)), (.int (0 : Int32)), (.int (0 : Int32)), (.int (0 : Int32)), (.int (0 : Int32)), (.int (0 : Int32)), (.int (0 : Int32)), (.int (0 : Int32)), (.int (0 : Int32)), (.int (0 : Int32)), (.int (0 : Int32)), (.int (0 : Int32))] (.int (0 : Int32)) := Arv.set Ar26 q26 S26 M26 H26 G26 rfl W26 5 rfl (Nat.le_of_ble_eq_true rfl)
  have zz28 : n0 ≤ h26.size := Nat.le_trans zz24 (Keep.of_wr W26).1
  have pre29 : Go p.tables e below S0 T26 (mkF m 39 #[vI p0, vI p1, .unset, .unset, .unset, .unset, .unset, .unset, .unset, .unset, .unset, .unset] [(.int (96 : Int32)), (.int (6 : Int32)), (.ref b2), (.ref b2)]) := fun t k => pre26 t (by
    refine XS.dup X26.here hx rfl (hb hby at_34) rfl rfl ?_
    show Steps p.tables e below (T26.setTop (mkF m 35 #[vI p0, vI p1, .unset, .unset, .unset, .unset, .unset, .unset, .unset, .unset, .unset, .unset] [(.ref b2), (.ref b2)])) _
    refine XS.bipush X26.here hx rfl (hb hby at_35) ?_
    show Steps p.tables e below (T26.setTop (mkF m 37 #[vI p0, vI p1, .unset, .unset, .unset, .unset, .unset, .unset, .unset, .unset, .unset, .unset] [(.int (6 : Int32)), (.ref b2), (.ref b2)])) _
    refine XS.bipush X26.here hx rfl (hb hby at_37) ?_
    show Steps p.tables e below (T26.setTop (mkF m 39 #[vI p0, vI p1, .unset, .unset, .unset, .unset, .unset, .unset, .unset, .unset, .unset, .unset] [(.int (96 : Int32)), (.int (6 : Int32)), (.ref b2), (.ref b2)])) _
    exact k)
  obtain ⟨cl30, Ar30, q30, S30, M30, H30, G30⟩ := id av26
  have in30 : ¬ ((6 : Int32) < 0 ∨ cl30.slots.size ≤ ((6 : Int32)).toNatClampNeg) := inb_of S30 ⟨by decide, by decide⟩
  obtain ⟨T30, h30, X30, e30, W30, st30⟩ := stI X26 hx hZ e26 Ar30 (j := (6 : Int32)) in30 (g := (mkF m 39 #[vI p0, vI p1, .unset, .unset, .unset, .unset, .unset, .unset, .unset, .unset, .unset, .unset] [(.int (96 : Int32)), (.int (6 : Int32)), (.ref b2), (.ref b2)])) rfl rfl (hb hby at_39)
  have pre30 : Go p.tables e below S0 T30 (mkF m 40 #[vI p0, vI p1, .unset, .unset, .unset, .unset, .unset, .unset, .unset, .unset, .unset, .unset] [(.ref b2)]) := fun t k => pre29 t (st30 t k)
  obtain ⟨lo30, N30, X30⟩ : ∃ lo, Fr n0 lo ∧ Stand p l e room_1 s m #[(.int p0), (.int p1)] below meth c T30 lo 1 33 := ⟨_, Fr.snoc X30 N26 bo2, X30⟩
  have av30 : Arv Z h30 b2 kA2 .int (33 : Int32) [(.int (-2147483648 : Int32)), (.int (58 : Int32)), (.int (59 : Int32)), (.int (65 : Int32)), (.int (91 : Int32)), (.int (95 : Int32)), (.int (96 : Int32)), (.int (0 : Int32)), (.int (0 : Int32)), (.int (0 : Int32)), (.int (0 : Int32)), (.int (0 : Int32)), (.int (0 : Int32)), (.int (0 : Int32)), (.int (0 : Int32)), (.int (0 : Int32)), (.int (0 : Int32)), (.int (0 : Int32)), (.int (0 : Int32)), (.int (0 : Int32)), (.int (0 : Int32)), (.int (0 : Int32)), (.int (0 : Int32)), (.int (0 : Int32)), (.int (0 : Int32)), (.int (0 : Int32)), (.int (0 : Int32)), (.int (0 : Int32)), (.int (0 : Int32)), (.int (0 : Int32)), (.int (0 : Int32)), (.int (0 : Int32)), (.int (0 : Int32))] (.int (0 : Int32)) := Arv.set Ar30 q30 S30 M30 H30 G30 rfl W30 6 rfl (Nat.le_of_ble_eq_true rfl)
  have zz32 : n0 ≤ h30.size := Nat.le_trans zz28 (Keep.of_wr W30).1
  have pre33 : Go p.tables e below S0 T30 (mkF m 45 #[vI p0, vI p1, .unset, .unset, .unset, .unset, .unset, .unset, .unset, .unset, .unset, .unset] [(.int (97 : Int32)), (.int (7 : Int32)), (.ref b2), (.ref b2)]) := fun t k => pre30 t (by
    refine XS.dup X30.here hx rfl (hb hby at_40) rfl rfl ?_
    show Steps p.tables e below (T30.setTop (mkF m 41 #[vI p0, vI p1, .unset, .unset, .unset, .unset, .unset, .unset, .unset, .unset, .unset, .unset] [(.ref b2), (.ref b2)])) _
    refine XS.bipush X30.here hx rfl (hb hby at_41) ?_
    show Steps p.tables e below (T30.setTop (mkF m 43 #[vI p0, vI p1, .unset, .unset, .unset, .unset, .unset, .unset, .unset, .unset, .unset, .unset] [(.int (7 : Int32)), (.ref b2), (.ref b2)])) _
    refine XS.bipush X30.here hx rfl (hb hby at_43) ?_
    show Steps p.tables e below (T30.setTop (mkF m 45 #[vI p0, vI p1, .unset, .unset, .unset, .unset, .unset, .unset, .unset, .unset, .unset, .unset] [(.int (97 : Int32)), (.int (7 : Int32)), (.ref b2), (.ref b2)])) _
    exact k)
  obtain ⟨cl34, Ar34, q34, S34, M34, H34, G34⟩ := id av30
  have in34 : ¬ ((7 : Int32) < 0 ∨ cl34.slots.size ≤ ((7 : Int32)).toNatClampNeg) := inb_of S34 ⟨by decide, by decide⟩
  obtain ⟨T34, h34, X34, e34, W34, st34⟩ := stI X30 hx hZ e30 Ar34 (j := (7 : Int32)) in34 (g := (mkF m 45 #[vI p0, vI p1, .unset, .unset, .unset, .unset, .unset, .unset, .unset, .unset, .unset, .unset] [(.int (97 : Int32)), (.int (7 : Int32)), (.ref b2), (.ref b2)])) rfl rfl (hb hby at_45)
  have pre34 : Go p.tables e below S0 T34 (mkF m 46 #[vI p0, vI p1, .unset, .unset, .unset, .unset, .unset, .unset, .unset, .unset, .unset, .unset] [(.ref b2)]) := fun t k => pre33 t (st34 t k)
  obtain ⟨lo34, N34, X34⟩ : ∃ lo, Fr n0 lo ∧ Stand p l e room_1 s m #[(.int p0), (.int p1)] below meth c T34 lo 1 33 := ⟨_, Fr.snoc X34 N30 bo2, X34⟩
  have av34 : Arv Z h34 b2 kA2 .int (33 : Int32) [(.int (-2147483648 : Int32)), (.int (58 : Int32)), (.int (59 : Int32)), (.int (65 : Int32)), (.int (91 : Int32)), (.int (95 : Int32)), (.int (96 : Int32)), (.int (97 : Int32)), (.int (0 : Int32)), (.int (0 : Int32)), (.int (0 : Int32)), (.int (0 : Int32)), (.int (0 : Int32)), (.int (0 : Int32)), (.int (0 : Int32)), (.int (0 : Int32)), (.int (0 : Int32)), (.int (0 : Int32)), (.int (0 : Int32)), (.int (0 : Int32)), (.int (0 : Int32)), (.int (0 : Int32)), (.int (0 : Int32)), (.int (0 : Int32)), (.int (0 : Int32)), (.int (0 : Int32)), (.int (0 : Int32)), (.int (0 : Int32)), (.int (0 : Int32)), (.int (0 : Int32)), (.int (0 : Int32)), (.int (0 : Int32)), (.int (0 : Int32))] (.int (0 : Int32)) := Arv.set Ar34 q34 S34 M34 H34 G34 rfl W34 7 rfl (Nat.le_of_ble_eq_true rfl)
  have zz36 : n0 ≤ h34.size := Nat.le_trans zz32 (Keep.of_wr W34).1
  have pre37 : Go p.tables e below S0 T34 (mkF m 51 #[vI p0, vI p1, .unset, .unset, .unset, .unset, .unset, .unset, .unset, .unset, .unset, .unset] [(.int (123 : Int32)), (.int (8 : Int32)), (.ref b2), (.ref b2)]) := fun t k => pre34 t (by
    refine XS.dup X34.here hx rfl (hb hby at_46) rfl rfl ?_
    show Steps p.tables e below (T34.setTop (mkF m 47 #[vI p0, vI p1, .unset, .unset, .unset, .unset, .unset, .unset, .unset, .unset, .unset, .unset] [(.ref b2), (.ref b2)])) _
    refine XS.bipush X34.here hx rfl (hb hby at_47) ?_
    show Steps p.tables e below (T34.setTop (mkF m 49 #[vI p0, vI p1, .unset, .unset, .unset, .unset, .unset, .unset, .unset, .unset, .unset, .unset] [(.int (8 : Int32)), (.ref b2), (.ref b2)])) _
    refine XS.bipush X34.here hx rfl (hb hby at_49) ?_
    show Steps p.tables e below (T34.setTop (mkF m 51 #[vI p0, vI p1, .unset, .unset, .unset, .unset, .unset, .unset, .unset, .unset, .unset, .unset] [(.int (123 : Int32)), (.int (8 : Int32)), (.ref b2), (.ref b2)])) _
    exact k)
  obtain ⟨cl38, Ar38, q38, S38, M38, H38, G38⟩ := id av34
  have in38 : ¬ ((8 : Int32) < 0 ∨ cl38.slots.size ≤ ((8 : Int32)).toNatClampNeg) := inb_of S38 ⟨by decide, by decide⟩
  obtain ⟨T38, h38, X38, e38, W38, st38⟩ := stI X34 hx hZ e34 Ar38 (j := (8 : Int32)) in38 (g := (mkF m 51 #[vI p0, vI p1, .unset, .unset, .unset, .unset, .unset, .unset, .unset, .unset, .unset, .unset] [(.int (123 : Int32)), (.int (8 : Int32)), (.ref b2), (.ref b2)])) rfl rfl (hb hby at_51)
  have pre38 : Go p.tables e below S0 T38 (mkF m 52 #[vI p0, vI p1, .unset, .unset, .unset, .unset, .unset, .unset, .unset, .unset, .unset, .unset] [(.ref b2)]) := fun t k => pre37 t (st38 t k)
  obtain ⟨lo38, N38, X38⟩ : ∃ lo, Fr n0 lo ∧ Stand p l e room_1 s m #[(.int p0), (.int p1)] below meth c T38 lo 1 33 := ⟨_, Fr.snoc X38 N34 bo2, X38⟩
  have av38 : Arv Z h38 b2 kA2 .int (33 : Int32) [(.int (-2147483648 : Int32)), (.int (58 : Int32)), (.int (59 : Int32)), (.int (65 : Int32)), (.int (91 : Int32)), (.int (95 : Int32)), (.int (96 : Int32)), (.int (97 : Int32)), (.int (123 : Int32)), (.int (0 : Int32)), (.int (0 : Int32)), (.int (0 : Int32)), (.int (0 : Int32)), (.int (0 : Int32)), (.int (0 : Int32)), (.int (0 : Int32)), (.int (0 : Int32)), (.int (0 : Int32)), (.int (0 : Int32)), (.int (0 : Int32)), (.int (0 : Int32)), (.int (0 : Int32)), (.int (0 : Int32)), (.int (0 : Int32)), (.int (0 : Int32)), (.int (0 : Int32)), (.int (0 : Int32)), (.int (0 : Int32)), (.int (0 : Int32)), (.int (0 : Int32)), (.int (0 : Int32)), (.int (0 : Int32)), (.int (0 : Int32))] (.int (0 : Int32)) := Arv.set Ar38 q38 S38 M38 H38 G38 rfl W38 8 rfl (Nat.le_of_ble_eq_true rfl)
  have zz40 : n0 ≤ h38.size := Nat.le_trans zz36 (Keep.of_wr W38).1
  have pre41 : Go p.tables e below S0 T38 (mkF m 58 #[vI p0, vI p1, .unset, .unset, .unset, .unset, .unset, .unset, .unset, .unset, .unset, .unset] [(.int (192 : Int32)), (.int (9 : Int32)), (.ref b2), (.ref b2)]) := fun t k => pre38 t (by
    refine XS.dup X38.here hx rfl (hb hby at_52) rfl rfl ?_
    show Steps p.tables e below (T38.setTop (mkF m 53 #[vI p0, vI p1, .unset, .unset, .unset, .unset, .unset, .unset, .unset, .unset, .unset, .unset] [(.ref b2), (.ref b2)])) _
    refine XS.bipush X38.here hx rfl (hb hby at_53) ?_
    show Steps p.tables e below (T38.setTop (mkF m 55 #[vI p0, vI p1, .unset, .unset, .unset, .unset, .unset, .unset, .unset, .unset, .unset, .unset] [(.int (9 : Int32)), (.ref b2), (.ref b2)])) _
    refine XS.sipush X38.here hx rfl (hb hby at_55) ?_
    show Steps p.tables e below (T38.setTop (mkF m 58 #[vI p0, vI p1, .unset, .unset, .unset, .unset, .unset, .unset, .unset, .unset, .unset, .unset] [(.int (192 : Int32)), (.int (9 : Int32)), (.ref b2), (.ref b2)])) _
    exact k)
  obtain ⟨cl42, Ar42, q42, S42, M42, H42, G42⟩ := id av38
  have in42 : ¬ ((9 : Int32) < 0 ∨ cl42.slots.size ≤ ((9 : Int32)).toNatClampNeg) := inb_of S42 ⟨by decide, by decide⟩
  obtain ⟨T42, h42, X42, e42, W42, st42⟩ := stI X38 hx hZ e38 Ar42 (j := (9 : Int32)) in42 (g := (mkF m 58 #[vI p0, vI p1, .unset, .unset, .unset, .unset, .unset, .unset, .unset, .unset, .unset, .unset] [(.int (192 : Int32)), (.int (9 : Int32)), (.ref b2), (.ref b2)])) rfl rfl (hb hby at_58)
  have pre42 : Go p.tables e below S0 T42 (mkF m 59 #[vI p0, vI p1, .unset, .unset, .unset, .unset, .unset, .unset, .unset, .unset, .unset, .unset] [(.ref b2)]) := fun t k => pre41 t (st42 t k)
  obtain ⟨lo42, N42, X42⟩ : ∃ lo, Fr n0 lo ∧ Stand p l e room_1 s m #[(.int p0), (.int p1)] below meth c T42 lo 1 33 := ⟨_, Fr.snoc X42 N38 bo2, X42⟩
  have av42 : Arv Z h42 b2 kA2 .int (33 : Int32) [(.int (-2147483648 : Int32)), (.int (58 : Int32)), (.int (59 : Int32)), (.int (65 : Int32)), (.int (91 : Int32)), (.int (95 : Int32)), (.int (96 : Int32)), (.int (97 : Int32)), (.int (123 : Int32)), (.int (192 : Int32)), (.int (0 : Int32)), (.int (0 : Int32)), (.int (0 : Int32)), (.int (0 : Int32)), (.int (0 : Int32)), (.int (0 : Int32)), (.int (0 : Int32)), (.int (0 : Int32)), (.int (0 : Int32)), (.int (0 : Int32)), (.int (0 : Int32)), (.int (0 : Int32)), (.int (0 : Int32)), (.int (0 : Int32)), (.int (0 : Int32)), (.int (0 : Int32)), (.int (0 : Int32)), (.int (0 : Int32)), (.int (0 : Int32)), (.int (0 : Int32)), (.int (0 : Int32)), (.int (0 : Int32)), (.int (0 : Int32))] (.int (0 : Int32)) := Arv.set Ar42 q42 S42 M42 H42 G42 rfl W42 9 rfl (Nat.le_of_ble_eq_true rfl)
  have zz44 : n0 ≤ h42.size := Nat.le_trans zz40 (Keep.of_wr W42).1
  have pre45 : Go p.tables e below S0 T42 (mkF m 65 #[vI p0, vI p1, .unset, .unset, .unset, .unset, .unset, .unset, .unset, .unset, .unset, .unset] [(.int (215 : Int32)), (.int (10 : Int32)), (.ref b2), (.ref b2)]) := fun t k => pre42 t (by
    refine XS.dup X42.here hx rfl (hb hby at_59) rfl rfl ?_
    show Steps p.tables e below (T42.setTop (mkF m 60 #[vI p0, vI p1, .unset, .unset, .unset, .unset, .unset, .unset, .unset, .unset, .unset, .unset] [(.ref b2), (.ref b2)])) _
    refine XS.bipush X42.here hx rfl (hb hby at_60) ?_
    show Steps p.tables e below (T42.setTop (mkF m 62 #[vI p0, vI p1, .unset, .unset, .unset, .unset, .unset, .unset, .unset, .unset, .unset, .unset] [(.int (10 : Int32)), (.ref b2), (.ref b2)])) _
    refine XS.sipush X42.here hx rfl (hb hby at_62) ?_
    show Steps p.tables e below (T42.setTop (mkF m 65 #[vI p0, vI p1, .unset, .unset, .unset, .unset, .unset, .unset, .unset, .unset, .unset, .unset] [(.int (215 : Int32)), (.int (10 : Int32)), (.ref b2), (.ref b2)])) _
    exact k)
  obtain ⟨cl46, Ar46, q46, S46, M46, H46, G46⟩ := id av42
  have in46 : ¬ ((10 : Int32) < 0 ∨ cl46.slots.size ≤ ((10 : Int32)).toNatClampNeg) := inb_of S46 ⟨by decide, by decide⟩
  obtain ⟨T46, h46, X46, e46, W46, st46⟩ := stI X42 hx hZ e42 Ar46 (j := (10 : Int32)) in46 (g := (mkF m 65 #[vI p0, vI p1, .unset, .unset, .unset, .unset, .unset, .unset, .unset, .unset, .unset, .unset] [(.int (215 : Int32)), (.int (10 : Int32)), (.ref b2), (.ref b2)])) rfl rfl (hb hby at_65)
  have pre46 : Go p.tables e below S0 T46 (mkF m 66 #[vI p0, vI p1, .unset, .unset, .unset, .unset, .unset, .unset, .unset, .unset, .unset, .unset] [(.ref b2)]) := fun t k => pre45 t (st46 t k)
  obtain ⟨lo46, N46, X46⟩ : ∃ lo, Fr n0 lo ∧ Stand p l e room_1 s m #[(.int p0), (.int p1)] below meth c T46 lo 1 33 := ⟨_, Fr.snoc X46 N42 bo2, X46⟩
  have av46 : Arv Z h46 b2 kA2 .int (33 : Int32) [(.int (-2147483648 : Int32)), (.int (58 : Int32)), (.int (59 : Int32)), (.int (65 : Int32)), (.int (91 : Int32)), (.int (95 : Int32)), (.int (96 : Int32)), (.int (97 : Int32)), (.int (123 : Int32)), (.int (192 : Int32)), (.int (215 : Int32)), (.int (0 : Int32)), (.int (0 : Int32)), (.int (0 : Int32)), (.int (0 : Int32)), (.int (0 : Int32)), (.int (0 : Int32)), (.int (0 : Int32)), (.int (0 : Int32)), (.int (0 : Int32)), (.int (0 : Int32)), (.int (0 : Int32)), (.int (0 : Int32)), (.int (0 : Int32)), (.int (0 : Int32)), (.int (0 : Int32)), (.int (0 : Int32)), (.int (0 : Int32)), (.int (0 : Int32)), (.int (0 : Int32)), (.int (0 : Int32)), (.int (0 : Int32)), (.int (0 : Int32))] (.int (0 : Int32)) := Arv.set Ar46 q46 S46 M46 H46 G46 rfl W46 10 rfl (Nat.le_of_ble_eq_true rfl)
  have zz48 : n0 ≤ h46.size := Nat.le_trans zz44 (Keep.of_wr W46).1
  have pre49 : Go p.tables e below S0 T46 (mkF m 72 #[vI p0, vI p1, .unset, .unset, .unset, .unset, .unset, .unset, .unset, .unset, .unset, .unset] [(.int (216 : Int32)), (.int (11 : Int32)), (.ref b2), (.ref b2)]) := fun t k => pre46 t (by
    refine XS.dup X46.here hx rfl (hb hby at_66) rfl rfl ?_
    show Steps p.tables e below (T46.setTop (mkF m 67 #[vI p0, vI p1, .unset, .unset, .unset, .unset, .unset, .unset, .unset, .unset, .unset, .unset] [(.ref b2), (.ref b2)])) _
    refine XS.bipush X46.here hx rfl (hb hby at_67) ?_
    show Steps p.tables e below (T46.setTop (mkF m 69 #[vI p0, vI p1, .unset, .unset, .unset, .unset, .unset, .unset, .unset, .unset, .unset, .unset] [(.int (11 : Int32)), (.ref b2), (.ref b2)])) _
    refine XS.sipush X46.here hx rfl (hb hby at_69) ?_
    show Steps p.tables e below (T46.setTop (mkF m 72 #[vI p0, vI p1, .unset, .unset, .unset, .unset, .unset, .unset, .unset, .unset, .unset, .unset] [(.int (216 : Int32)), (.int (11 : Int32)), (.ref b2), (.ref b2)])) _
    exact k)
  obtain ⟨cl50, Ar50, q50, S50, M50, H50, G50⟩ := id av46
  have in50 : ¬ ((11 : Int32) < 0 ∨ cl50.slots.size ≤ ((11 : Int32)).toNatClampNeg) := inb_of S50 ⟨by decide, by decide⟩
  obtain ⟨T50, h50, X50, e50, W50, st50⟩ := stI X46 hx hZ e46 Ar50 (j := (11 : Int32)) in50 (g := (mkF m 72 #[vI p0, vI p1, .unset, .unset, .unset, .unset, .unset, .unset, .unset, .unset, .unset, .unset] [(.int (216 : Int32)), (.int (11 : Int32)), (.ref b2), (.ref b2)])) rfl rfl (hb hby at_72)
  have pre50 : Go p.tables e below S0 T50 (mkF m 73 #[vI p0, vI p1, .unset, .unset, .unset, .unset, .unset, .unset, .unset, .unset, .unset, .unset] [(.ref b2)]) := fun t k => pre49 t (st50 t k)
  obtain ⟨lo50, N50, X50⟩ : ∃ lo, Fr n0 lo ∧ Stand p l e room_1 s m #[(.int p0), (.int p1)] below meth c T50 lo 1 33 := ⟨_, Fr.snoc X50 N46 bo2, X50⟩
  have av50 : Arv Z h50 b2 kA2 .int (33 : Int32) [(.int (-2147483648 : Int32)), (.int (58 : Int32)), (.int (59 : Int32)), (.int (65 : Int32)), (.int (91 : Int32)), (.int (95 : Int32)), (.int (96 : Int32)), (.int (97 : Int32)), (.int (123 : Int32)), (.int (192 : Int32)), (.int (215 : Int32)), (.int (216 : Int32)), (.int (0 : Int32)), (.int (0 : Int32)), (.int (0 : Int32)), (.int (0 : Int32)), (.int (0 : Int32)), (.int (0 : Int32)), (.int (0 : Int32)), (.int (0 : Int32)), (.int (0 : Int32)), (.int (0 : Int32)), (.int (0 : Int32)), (.int (0 : Int32)), (.int (0 : Int32)), (.int (0 : Int32)), (.int (0 : Int32)), (.int (0 : Int32)), (.int (0 : Int32)), (.int (0 : Int32)), (.int (0 : Int32)), (.int (0 : Int32)), (.int (0 : Int32))] (.int (0 : Int32)) := Arv.set Ar50 q50 S50 M50 H50 G50 rfl W50 11 rfl (Nat.le_of_ble_eq_true rfl)
  have zz52 : n0 ≤ h50.size := Nat.le_trans zz48 (Keep.of_wr W50).1
  have pre53 : Go p.tables e below S0 T50 (mkF m 79 #[vI p0, vI p1, .unset, .unset, .unset, .unset, .unset, .unset, .unset, .unset, .unset, .unset] [(.int (247 : Int32)), (.int (12 : Int32)), (.ref b2), (.ref b2)]) := fun t k => pre50 t (by
    refine XS.dup X50.here hx rfl (hb hby at_73) rfl rfl ?_
    show Steps p.tables e below (T50.setTop (mkF m 74 #[vI p0, vI p1, .unset, .unset, .unset, .unset, .unset, .unset, .unset, .unset, .unset, .unset] [(.ref b2), (.ref b2)])) _
    refine XS.bipush X50.here hx rfl (hb hby at_74) ?_
    show Steps p.tables e below (T50.setTop (mkF m 76 #[vI p0, vI p1, .unset, .unset, .unset, .unset, .unset, .unset, .unset, .unset, .unset, .unset] [(.int (12 : Int32)), (.ref b2), (.ref b2)])) _
    refine XS.sipush X50.here hx rfl (hb hby at_76) ?_
    show Steps p.tables e below (T50.setTop (mkF m 79 #[vI p0, vI p1, .unset, .unset, .unset, .unset, .unset, .unset, .unset, .unset, .unset, .unset] [(.int (247 : Int32)), (.int (12 : Int32)), (.ref b2), (.ref b2)])) _
    exact k)
  obtain ⟨cl54, Ar54, q54, S54, M54, H54, G54⟩ := id av50
  have in54 : ¬ ((12 : Int32) < 0 ∨ cl54.slots.size ≤ ((12 : Int32)).toNatClampNeg) := inb_of S54 ⟨by decide, by decide⟩
  obtain ⟨T54, h54, X54, e54, W54, st54⟩ := stI X50 hx hZ e50 Ar54 (j := (12 : Int32)) in54 (g := (mkF m 79 #[vI p0, vI p1, .unset, .unset, .unset, .unset, .unset, .unset, .unset, .unset, .unset, .unset] [(.int (247 : Int32)), (.int (12 : Int32)), (.ref b2), (.ref b2)])) rfl rfl (hb hby at_79)
  have pre54 : Go p.tables e below S0 T54 (mkF m 80 #[vI p0, vI p1, .unset, .unset, .unset, .unset, .unset, .unset, .unset, .unset, .unset, .unset] [(.ref b2)]) := fun t k => pre53 t (st54 t k)
  obtain ⟨lo54, N54, X54⟩ : ∃ lo, Fr n0 lo ∧ Stand p l e room_1 s m #[(.int p0), (.int p1)] below meth c T54 lo 1 33 := ⟨_, Fr.snoc X54 N50 bo2, X54⟩
  have av54 : Arv Z h54 b2 kA2 .int (33 : Int32) [(.int (-2147483648 : Int32)), (.int (58 : Int32)), (.int (59 : Int32)), (.int (65 : Int32)), (.int (91 : Int32)), (.int (95 : Int32)), (.int (96 : Int32)), (.int (97 : Int32)), (.int (123 : Int32)), (.int (192 : Int32)), (.int (215 : Int32)), (.int (216 : Int32)), (.int (247 : Int32)), (.int (0 : Int32)), (.int (0 : Int32)), (.int (0 : Int32)), (.int (0 : Int32)), (.int (0 : Int32)), (.int (0 : Int32)), (.int (0 : Int32)), (.int (0 : Int32)), (.int (0 : Int32)), (.int (0 : Int32)), (.int (0 : Int32)), (.int (0 : Int32)), (.int (0 : Int32)), (.int (0 : Int32)), (.int (0 : Int32)), (.int (0 : Int32)), (.int (0 : Int32)), (.int (0 : Int32)), (.int (0 : Int32)), (.int (0 : Int32))] (.int (0 : Int32)) := Arv.set Ar54 q54 S54 M54 H54 G54 rfl W54 12 rfl (Nat.le_of_ble_eq_true rfl)
  have zz56 : n0 ≤ h54.size := Nat.le_trans zz52 (Keep.of_wr W54).1
  have pre57 : Go p.tables e below S0 T54 (mkF m 86 #[vI p0, vI p1, .unset, .unset, .unset, .unset, .unset, .unset, .unset, .unset, .unset, .unset] [(.int (248 : Int32)), (.int (13 : Int32)), (.ref b2), (.ref b2)]) := fun t k => pre54 t (by
    refine XS.dup X54.here hx rfl (hb hby at_80) rfl rfl ?_
    show Steps p.tables e below (T54.setTop (mkF m 81 #[vI p0, vI p1, .unset, .unset, .unset, .unset, .unset, .unset, .unset, .unset, .unset, .unset] [(.ref b2), (.ref b2)])) _
    refine XS.bipush X54.here hx rfl (hb hby at_81) ?_
    show Steps p.tables e below (T54.setTop (mkF m 83 #[vI p0, vI p1, .unset, .unset, .unset, .unset, .unset, .unset, .unset, .unset, .unset, .unset] [(.int (13 : Int32)), (.ref b2), (.ref b2)])) _
    refine XS.sipush X54.here hx rfl (hb hby at_83) ?_
    show Steps p.tables e below (T54.setTop (mkF m 86 #[vI p0, vI p1, .unset, .unset, .unset, .unset, .unset, .unset, .unset, .unset, .unset, .unset] [(.int (248 : Int32)), (.int (13 : Int32)), (.ref b2), (.ref b2)])) _
    exact k)
  obtain ⟨cl58, Ar58, q58, S58, M58, H58, G58⟩ := id av54
  have in58 : ¬ ((13 : Int32) < 0 ∨ cl58.slots.size ≤ ((13 : Int32)).toNatClampNeg) := inb_of S58 ⟨by decide, by decide⟩
  obtain ⟨T58, h58, X58, e58, W58, st58⟩ := stI X54 hx hZ e54 Ar58 (j := (13 : Int32)) in58 (g := (mkF m 86 #[vI p0, vI p1, .unset, .unset, .unset, .unset, .unset, .unset, .unset, .unset, .unset, .unset] [(.int (248 : Int32)), (.int (13 : Int32)), (.ref b2), (.ref b2)])) rfl rfl (hb hby at_86)
  have pre58 : Go p.tables e below S0 T58 (mkF m 87 #[vI p0, vI p1, .unset, .unset, .unset, .unset, .unset, .unset, .unset, .unset, .unset, .unset] [(.ref b2)]) := fun t k => pre57 t (st58 t k)
  obtain ⟨lo58, N58, X58⟩ : ∃ lo, Fr n0 lo ∧ Stand p l e room_1 s m #[(.int p0), (.int p1)] below meth c T58 lo 1 33 := ⟨_, Fr.snoc X58 N54 bo2, X58⟩
  have av58 : Arv Z h58 b2 kA2 .int (33 : Int32) [(.int (-2147483648 : Int32)), (.int (58 : Int32)), (.int (59 : Int32)), (.int (65 : Int32)), (.int (91 : Int32)), (.int (95 : Int32)), (.int (96 : Int32)), (.int (97 : Int32)), (.int (123 : Int32)), (.int (192 : Int32)), (.int (215 : Int32)), (.int (216 : Int32)), (.int (247 : Int32)), (.int (248 : Int32)), (.int (0 : Int32)), (.int (0 : Int32)), (.int (0 : Int32)), (.int (0 : Int32)), (.int (0 : Int32)), (.int (0 : Int32)), (.int (0 : Int32)), (.int (0 : Int32)), (.int (0 : Int32)), (.int (0 : Int32)), (.int (0 : Int32)), (.int (0 : Int32)), (.int (0 : Int32)), (.int (0 : Int32)), (.int (0 : Int32)), (.int (0 : Int32)), (.int (0 : Int32)), (.int (0 : Int32)), (.int (0 : Int32))] (.int (0 : Int32)) := Arv.set Ar58 q58 S58 M58 H58 G58 rfl W58 13 rfl (Nat.le_of_ble_eq_true rfl)
  have zz60 : n0 ≤ h58.size := Nat.le_trans zz56 (Keep.of_wr W58).1
  have pre61 : Go p.tables e below S0 T58 (mkF m 93 #[vI p0, vI p1, .unset, .unset, .unset, .unset, .unset, .unset, .unset, .unset, .unset, .unset] [(.int (768 : Int32)), (.int (14 : Int32)), (.ref b2), (.ref b2)]) := fun t k => pre58 t (by
    refine XS.dup X58.here hx rfl (hb hby at_87) rfl rfl ?_
    show Steps p.tables e below (T58.setTop (mkF m 88 #[vI p0, vI p1, .unset, .unset, .unset, .unset, .unset, .unset, .unset, .unset, .unset, .unset] [(.ref b2), (.ref b2)])) _
    refine XS.bipush X58.here hx rfl (hb hby at_88) ?_
    show Steps p.tables e below (T58.setTop (mkF m 90 #[vI p0, vI p1, .unset, .unset, .unset, .unset, .unset, .unset, .unset, .unset, .unset, .unset] [(.int (14 : Int32)), (.ref b2), (.ref b2)])) _
    refine XS.sipush X58.here hx rfl (hb hby at_90) ?_
    show Steps p.tables e below (T58.setTop (mkF m 93 #[vI p0, vI p1, .unset, .unset, .unset, .unset, .unset, .unset, .unset, .unset, .unset, .unset] [(.int (768 : Int32)), (.int (14 : Int32)), (.ref b2), (.ref b2)])) _
    exact k)
  obtain ⟨cl62, Ar62, q62, S62, M62, H62, G62⟩ := id av58
  have in62 : ¬ ((14 : Int32) < 0 ∨ cl62.slots.size ≤ ((14 : Int32)).toNatClampNeg) := inb_of S62 ⟨by decide, by decide⟩
  obtain ⟨T62, h62, X62, e62, W62, st62⟩ := stI X58 hx hZ e58 Ar62 (j := (14 : Int32)) in62 (g := (mkF m 93 #[vI p0, vI p1, .unset, .unset, .unset, .unset, .unset, .unset, .unset, .unset, .unset, .unset] [(.int (768 : Int32)), (.int (14 : Int32)), (.ref b2), (.ref b2)])) rfl rfl (hb hby at_93)
  have pre62 : Go p.tables e below S0 T62 (mkF m 94 #[vI p0, vI p1, .unset, .unset, .unset, .unset, .unset, .unset, .unset, .unset, .unset, .unset] [(.ref b2)]) := fun t k => pre61 t (st62 t k)
  obtain ⟨lo62, N62, X62⟩ : ∃ lo, Fr n0 lo ∧ Stand p l e room_1 s m #[(.int p0), (.int p1)] below meth c T62 lo 1 33 := ⟨_, Fr.snoc X62 N58 bo2, X62⟩
  have av62 : Arv Z h62 b2 kA2 .int (33 : Int32) [(.int (-2147483648 : Int32)), (.int (58 : Int32)), (.int (59 : Int32)), (.int (65 : Int32)), (.int (91 : Int32)), (.int (95 : Int32)), (.int (96 : Int32)), (.int (97 : Int32)), (.int (123 : Int32)), (.int (192 : Int32)), (.int (215 : Int32)), (.int (216 : Int32)), (.int (247 : Int32)), (.int (248 : Int32)), (.int (768 : Int32)), (.int (0 : Int32)), (.int (0 : Int32)), (.int (0 : Int32)), (.int (0 : Int32)), (.int (0 : Int32)), (.int (0 : Int32)), (.int (0 : Int32)), (.int (0 : Int32)), (.int (0 : Int32)), (.int (0 : Int32)), (.int (0 : Int32)), (.int (0 : Int32)), (.int (0 : Int32)), (.int (0 : Int32)), (.int (0 : Int32)), (.int (0 : Int32)), (.int (0 : Int32)), (.int (0 : Int32))] (.int (0 : Int32)) := Arv.set Ar62 q62 S62 M62 H62 G62 rfl W62 14 rfl (Nat.le_of_ble_eq_true rfl)
  have zz64 : n0 ≤ h62.size := Nat.le_trans zz60 (Keep.of_wr W62).1
  have pre65 : Go p.tables e below S0 T62 (mkF m 100 #[vI p0, vI p1, .unset, .unset, .unset, .unset, .unset, .unset, .unset, .unset, .unset, .unset] [(.int (880 : Int32)), (.int (15 : Int32)), (.ref b2), (.ref b2)]) := fun t k => pre62 t (by
    refine XS.dup X62.here hx rfl (hb hby at_94) rfl rfl ?_
    show Steps p.tables e below (T62.setTop (mkF m 95 #[vI p0, vI p1, .unset, .unset, .unset, .unset, .unset, .unset, .unset, .unset, .unset, .unset] [(.ref b2), (.ref b2)])) _
    refine XS.bipush X62.here hx rfl (hb hby at_95) ?_
    show Steps p.tables e below (T62.setTop (mkF m 97 #[vI p0, vI p1, .unset, .unset, .unset, .unset, .unset, .unset, .unset, .unset, .unset, .unset] [(.int (15 : Int32)), (.ref b2), (.ref b2)])) _
    refine XS.sipush X62.here hx rfl (hb hby at_97) ?_
    show Steps p.tables e below (T62.setTop (mkF m 100 #[vI p0, vI p1, .unset, .unset, .unset, .unset, .unset, .unset, .unset, .unset, .unset, .unset] [(.int (880 : Int32)), (.int (15 : Int32)), (.ref b2), (.ref b2)])) _
    exact k)
  obtain ⟨cl66, Ar66, q66, S66, M66, H66, G66⟩ := id av62
  have in66 : ¬ ((15 : Int32) < 0 ∨ cl66.slots.size ≤ ((15 : Int32)).toNatClampNeg) := inb_of S66 ⟨by decide, by decide⟩
  obtain ⟨T66, h66, X66, e66, W66, st66⟩ := stI X62 hx hZ e62 Ar66 (j := (15 : Int32)) in66 (g := (mkF m 100 #[vI p0, vI p1, .unset, .unset, .unset, .unset, .unset, .unset, .unset, .unset, .unset, .unset] [(.int (880 : Int32)), (.int (15 : Int32)), (.ref b2), (.ref b2)])) rfl rfl (hb hby at_100)
  have pre66 : Go p.tables e below S0 T66 (mkF m 101 #[vI p0, vI p1, .unset, .unset, .unset, .unset, .unset, .unset, .unset, .unset, .unset, .unset] [(.ref b2)]) := fun t k => pre65 t (st66 t k)
  obtain ⟨lo66, N66, X66⟩ : ∃ lo, Fr n0 lo ∧ Stand p l e room_1 s m #[(.int p0), (.int p1)] below meth c T66 lo 1 33 := ⟨_, Fr.snoc X66 N62 bo2, X66⟩
  have av66 : Arv Z h66 b2 kA2 .int (33 : Int32) [(.int (-2147483648 : Int32)), (.int (58 : Int32)), (.int (59 : Int32)), (.int (65 : Int32)), (.int (91 : Int32)), (.int (95 : Int32)), (.int (96 : Int32)), (.int (97 : Int32)), (.int (123 : Int32)), (.int (192 : Int32)), (.int (215 : Int32)), (.int (216 : Int32)), (.int (247 : Int32)), (.int (248 : Int32)), (.int (768 : Int32)), (.int (880 : Int32)), (.int (0 : Int32)), (.int (0 : Int32)), (.int (0 : Int32)), (.int (0 : Int32)), (.int (0 : Int32)), (.int (0 : Int32)), (.int (0 : Int32)), (.int (0 : Int32)), (.int (0 : Int32)), (.int (0 : Int32)), (.int (0 : Int32)), (.int (0 : Int32)), (.int (0 : Int32)), (.int (0 : Int32)), (.int (0 : Int32)), (.int (0 : Int32)), (.int (0 : Int32))] (.int (0 : Int32)) := Arv.set Ar66 q66 S66 M66 H66 G66 rfl W66 15 rfl (Nat.le_of_ble_eq_true rfl)
  have zz68 : n0 ≤ h66.size := Nat.le_trans zz64 (Keep.of_wr W66).1
  have pre69 : Go p.tables e below S0 T66 (mkF m 107 #[vI p0, vI p1, .unset, .unset, .unset, .unset, .unset, .unset, .unset, .unset, .unset, .unset] [(.int (894 : Int32)), (.int (16 : Int32)), (.ref b2), (.ref b2)]) := fun t k => pre66 t (by
    refine XS.dup X66.here hx rfl (hb hby at_101) rfl rfl ?_
    show Steps p.tables e below (T66.setTop (mkF m 102 #[vI p0, vI p1, .unset, .unset, .unset, .unset, .unset, .unset, .unset, .unset, .unset, .unset] [(.ref b2), (.ref b2)])) _
    refine XS.bipush X66.here hx rfl (hb hby at_102) ?_
    show Steps p.tables e below (T66.setTop (mkF m 104 #[vI p0, vI p1, .unset, .unset, .unset, .unset, .unset, .unset, .unset, .unset, .unset, .unset] [(.int (16 : Int32)), (.ref b2), (.ref b2)])) _
    refine XS.sipush X66.here hx rfl (hb hby at_104) ?_
    show Steps p.tables e below (T66.setTop (mkF m 107 #[vI p0, vI p1, .unset, .unset, .unset, .unset, .unset, .unset, .unset, .unset, .unset, .unset] [(.int (894 : Int32)), (.int (16 : Int32)), (.ref b2), (.ref b2)])) _
    exact k)
  obtain ⟨cl70, Ar70, q70, S70, M70, H70, G70⟩ := id av66
  have in70 : ¬ ((16 : Int32) < 0 ∨ cl70.slots.size ≤ ((16 : Int32)).toNatClampNeg) := inb_of S70 ⟨by decide, by decide⟩
  obtain ⟨T70, h70, X70, e70, W70, st70⟩ := stI X66 hx hZ e66 Ar70 (j := (16 : Int32)) in70 (g := (mkF m 107 #[vI p0, vI p1, .unset, .unset, .unset, .unset, .unset, .unset, .unset, .unset, .unset, .unset] [(.int (894 : Int32)), (.int (16 : Int32)), (.ref b2), (.ref b2)])) rfl rfl (hb hby at_107)
  have pre70 : Go p.tables e below S0 T70 (mkF m 108 #[vI p0, vI p1, .unset, .unset, .unset, .unset, .unset, .unset, .unset, .unset, .unset, .unset] [(.ref b2)]) := fun t k => pre69 t (st70 t k)
  obtain ⟨lo70, N70, X70⟩ : ∃ lo, Fr n0 lo ∧ Stand p l e room_1 s m #[(.int p0), (.int p1)] below meth c T70 lo 1 33 := ⟨_, Fr.snoc X70 N66 bo2, X70⟩
  have av70 : Arv Z h70 b2 kA2 .int (33 : Int32) [(.int (-2147483648 : Int32)), (.int (58 : Int32)), (.int (59 : Int32)), (.int (65 : Int32)), (.int (91 : Int32)), (.int (95 : Int32)), (.int (96 : Int32)), (.int (97 : Int32)), (.int (123 : Int32)), (.int (192 : Int32)), (.int (215 : Int32)), (.int (216 : Int32)), (.int (247 : Int32)), (.int (248 : Int32)), (.int (768 : Int32)), (.int (880 : Int32)), (.int (894 : Int32)), (.int (0 : Int32)), (.int (0 : Int32)), (.int (0 : Int32)), (.int (0 : Int32)), (.int (0 : Int32)), (.int (0 : Int32)), (.int (0 : Int32)), (.int (0 : Int32)), (.int (0 : Int32)), (.int (0 : Int32)), (.int (0 : Int32)), (.int (0 : Int32)), (.int (0 : Int32)), (.int (0 : Int32)), (.int (0 : Int32)), (.int (0 : Int32))] (.int (0 : Int32)) := Arv.set Ar70 q70 S70 M70 H70 G70 rfl W70 16 rfl (Nat.le_of_ble_eq_true rfl)
  have zz72 : n0 ≤ h70.size := Nat.le_trans zz68 (Keep.of_wr W70).1
  have pre73 : Go p.tables e below S0 T70 (mkF m 114 #[vI p0, vI p1, .unset, .unset, .unset, .unset, .unset, .unset, .unset, .unset, .unset, .unset] [(.int (895 : Int32)), (.int (17 : Int32)), (.ref b2), (.ref b2)]) := fun t k => pre70 t (by
    refine XS.dup X70.here hx rfl (hb hby at_108) rfl rfl ?_
    show Steps p.tables e below (T70.setTop (mkF m 109 #[vI p0, vI p1, .unset, .unset, .unset, .unset, .unset, .unset, .unset, .unset, .unset, .unset] [(.ref b2), (.ref b2)])) _
    refine XS.bipush X70.here hx rfl (hb hby at_109) ?_
    show Steps p.tables e below (T70.setTop (mkF m 111 #[vI p0, vI p1, .unset, .unset, .unset, .unset, .unset, .unset, .unset, .unset, .unset, .unset] [(.int (17 : Int32)), (.ref b2), (.ref b2)])) _
    refine XS.sipush X70.here hx rfl (hb hby at_111) ?_
    show Steps p.tables e below (T70.setTop (mkF m 114 #[vI p0, vI p1, .unset, .unset, .unset, .unset, .unset, .unset, .unset, .unset, .unset, .unset] [(.int (895 : Int32)), (.int (17 : Int32)), (.ref b2), (.ref b2)])) _
    exact k)
  obtain ⟨cl74, Ar74, q74, S74, M74, H74, G74⟩ := id av70
  have in74 : ¬ ((17 : Int32) < 0 ∨ cl74.slots.size ≤ ((17 : Int32)).toNatClampNeg) := inb_of S74 ⟨by decide, by decide⟩
  obtain ⟨T74, h74, X74, e74, W74, st74⟩ := stI X70 hx hZ e70 Ar74 (j := (17 : Int32)) in74 (g := (mkF m 114 #[vI p0, vI p1, .unset, .unset, .unset, .unset, .unset, .unset, .unset, .unset, .unset, .unset] [(.int (895 : Int32)), (.int (17 : Int32)), (.ref b2), (.ref b2)])) rfl rfl (hb hby at_114)
  have pre74 : Go p.tables e below S0 T74 (mkF m 115 #[vI p0, vI p1, .unset, .unset, .unset, .unset, .unset, .unset, .unset, .unset, .unset, .unset] [(.ref b2)]) := fun t k => pre73 t (st74 t k)
  obtain ⟨lo74, N74, X74⟩ : ∃ lo, Fr n0 lo ∧ Stand p l e room_1 s m #[(.int p0), (.int p1)] below meth c T74 lo 1 33 := ⟨_, Fr.snoc X74 N70 bo2, X74⟩
  have av74 : Arv Z h74 b2 kA2 .int (33 : Int32) [(.int (-2147483648 : Int32)), (.int (58 : Int32)), (.int (59 : Int32)), (.int (65 : Int32)), (.int (91 : Int32)), (.int (95 : Int32)), (.int (96 : Int32)), (.int (97 : Int32)), (.int (123 : Int32)), (.int (192 : Int32)), (.int (215 : Int32)), (.int (216 : Int32)), (.int (247 : Int32)), (.int (248 : Int32)), (.int (768 : Int32)), (.int (880 : Int32)), (.int (894 : Int32)), (.int (895 : Int32)), (.int (0 : Int32)), (.int (0 : Int32)), (.int (0 : Int32)), (.int (0 : Int32)), (.int (0 : Int32)), (.int (0 : Int32)), (.int (0 : Int32)), (.int (0 : Int32)), (.int (0 : Int32)), (.int (0 : Int32)), (.int (0 : Int32)), (.int (0 : Int32)), (.int (0 : Int32)), (.int (0 : Int32)), (.int (0 : Int32))] (.int (0 : Int32)) := Arv.set Ar74 q74 S74 M74 H74 G74 rfl W74 17 rfl (Nat.le_of_ble_eq_true rfl)
  have zz76 : n0 ≤ h74.size := Nat.le_trans zz72 (Keep.of_wr W74).1
  have pre77 : Go p.tables e below S0 T74 (mkF m 121 #[vI p0, vI p1, .unset, .unset, .unset, .unset, .unset, .unset, .unset, .unset, .unset, .unset] [(.int (8192 : Int32)), (.int (18 : Int32)), (.ref b2), (.ref b2)]) := fun t k => pre74 t (by
    refine XS.dup X74.here hx rfl (hb hby at_115) rfl rfl ?_
    show Steps p.tables e below (T74.setTop (mkF m 116 #[vI p0, vI p1, .unset, .unset, .unset, .unset, .unset, .unset, .unset, .unset, .unset, .unset] [(.ref b2), (.ref b2)])) _
    refine XS.bipush X74.here hx rfl (hb hby at_116) ?_
    show Steps p.tables e below (T74.setTop (mkF m 118 #[vI p0, vI p1, .unset, .unset, .unset, .unset, .unset, .unset, .unset, .unset, .unset, .unset] [(.int (18 : Int32)), (.ref b2), (.ref b2)])) _
    refine XS.sipush X74.here hx rfl (hb hby at_118) ?_
    show Steps p.tables e below (T74.setTop (mkF m 121 #[vI p0, vI p1, .unset, .unset, .unset, .unset, .unset, .unset, .unset, .unset, .unset, .unset] [(.int (8192 : Int32)), (.int (18 : Int32)), (.ref b2), (.ref b2)])) _
    exact k)
  obtain ⟨cl78, Ar78, q78, S78, M78, H78, G78⟩ := id av74
  have in78 : ¬ ((18 : Int32) < 0 ∨ cl78.slots.size ≤ ((18 : Int32)).toNatClampNeg) := inb_of S78 ⟨by decide, by decide⟩
  obtain ⟨T78, h78, X78, e78, W78, st78⟩ := stI X74 hx hZ e74 Ar78 (j := (18 : Int32)) in78 (g := (mkF m 121 #[vI p0, vI p1, .unset, .unset, .unset, .unset, .unset, .unset, .unset, .unset, .unset, .unset] [(.int (8192 : Int32)), (.int (18 : Int32)), (.ref b2), (.ref b2)])) rfl rfl (hb hby at_121)
  have pre78 : Go p.tables e below S0 T78 (mkF m 122 #[vI p0, vI p1, .unset, .unset, .unset, .unset, .unset, .unset, .unset, .unset, .unset, .unset] [(.ref b2)]) := fun t k => pre77 t (st78 t k)
  obtain ⟨lo78, N78, X78⟩ : ∃ lo, Fr n0 lo ∧ Stand p l e room_1 s m #[(.int p0), (.int p1)] below meth c T78 lo 1 33 := ⟨_, Fr.snoc X78 N74 bo2, X78⟩
  have av78 : Arv Z h78 b2 kA2 .int (33 : Int32) [(.int (-2147483648 : Int32)), (.int (58 : Int32)), (.int (59 : Int32)), (.int (65 : Int32)), (.int (91 : Int32)), (.int (95 : Int32)), (.int (96 : Int32)), (.int (97 : Int32)), (.int (123 : Int32)), (.int (192 : Int32)), (.int (215 : Int32)), (.int (216 : Int32)), (.int (247 : Int32)), (.int (248 : Int32)), (.int (768 : Int32)), (.int (880 : Int32)), (.int (894 : Int32)), (.int (895 : Int32)), (.int (8192 : Int32)), (.int (0 : Int32)), (.int (0 : Int32)), (.int (0 : Int32)), (.int (0 : Int32)), (.int (0 : Int32)), (.int (0 : Int32)), (.int (0 : Int32)), (.int (0 : Int32)), (.int (0 : Int32)), (.int (0 : Int32)), (.int (0 : Int32)), (.int (0 : Int32)), (.int (0 : Int32)), (.int (0 : Int32))] (.int (0 : Int32)) := Arv.set Ar78 q78 S78 M78 H78 G78 rfl W78 18 rfl (Nat.le_of_ble_eq_true rfl)
  have zz80 : n0 ≤ h78.size := Nat.le_trans zz76 (Keep.of_wr W78).1
  have pre81 : Go p.tables e below S0 T78 (mkF m 128 #[vI p0, vI p1, .unset, .unset, .unset, .unset, .unset, .unset, .unset, .unset, .unset, .unset] [(.int (8204 : Int32)), (.int (19 : Int32)), (.ref b2), (.ref b2)]) := fun t k => pre78 t (by
    refine XS.dup X78.here hx rfl (hb hby at_122) rfl rfl ?_
    show Steps p.tables e below (T78.setTop (mkF m 123 #[vI p0, vI p1, .unset, .unset, .unset, .unset, .unset, .unset, .unset, .unset, .unset, .unset] [(.ref b2), (.ref b2)])) _
    refine XS.bipush X78.here hx rfl (hb hby at_123) ?_
    show Steps p.tables e below (T78.setTop (mkF m 125 #[vI p0, vI p1, .unset, .unset, .unset, .unset, .unset, .unset, .unset, .unset, .unset, .unset] [(.int (19 : Int32)), (.ref b2), (.ref b2)])) _
    refine XS.sipush X78.here hx rfl (hb hby at_125) ?_
    show Steps p.tables e below (T78.setTop (mkF m 128 #[vI p0, vI p1, .unset, .unset, .unset, .unset, .unset, .unset, .unset, .unset, .unset, .unset] [(.int (8204 : Int32)), (.int (19 : Int32)), (.ref b2), (.ref b2)])) _
    exact k)
  obtain ⟨cl82, Ar82, q82, S82, M82, H82, G82⟩ := id av78
  have in82 : ¬ ((19 : Int32) < 0 ∨ cl82.slots.size ≤ ((19 : Int32)).toNatClampNeg) := inb_of S82 ⟨by decide, by decide⟩
  obtain ⟨T82, h82, X82, e82, W82, st82⟩ := stI X78 hx hZ e78 Ar82 (j := (19 : Int32)) in82 (g := (mkF m 128 #[vI p0, vI p1, .unset, .unset, .unset, .unset, .unset, .unset, .unset, .unset, .unset, .unset] [(.int (8204 : Int32)), (.int (19 : Int32)), (.ref b2), (.ref b2)])) rfl rfl (hb hby at_128)
  have pre82 : Go p.tables e below S0 T82 (mkF m 129 #[vI p0, vI p1, .unset, .unset, .unset, .unset, .unset, .unset, .unset, .unset, .unset, .unset] [(.ref b2)]) := fun t k => pre81 t (st82 t k)
  obtain ⟨lo82, N82, X82⟩ : ∃ lo, Fr n0 lo ∧ Stand p l e room_1 s m #[(.int p0), (.int p1)] below meth c T82 lo 1 33 := ⟨_, Fr.snoc X82 N78 bo2, X82⟩
  have av82 : Arv Z h82 b2 kA2 .int (33 : Int32) [(.int (-2147483648 : Int32)), (.int (58 : Int32)), (.int (59 : Int32)), (.int (65 : Int32)), (.int (91 : Int32)), (.int (95 : Int32)), (.int (96 : Int32)), (.int (97 : Int32)), (.int (123 : Int32)), (.int (192 : Int32)), (.int (215 : Int32)), (.int (216 : Int32)), (.int (247 : Int32)), (.int (248 : Int32)), (.int (768 : Int32)), (.int (880 : Int32)), (.int (894 : Int32)), (.int (895 : Int32)), (.int (8192 : Int32)), (.int (8204 : Int32)), (.int (0 : Int32)), (.int (0 : Int32)), (.int (0 : Int32)), (.int (0 : Int32)), (.int (0 : Int32)), (.int (0 : Int32)), (.int (0 : Int32)), (.int (0 : Int32)), (.int (0 : Int32)), (.int (0 : Int32)), (.int (0 : Int32)), (.int (0 : Int32)), (.int (0 : Int32))] (.int (0 : Int32)) := Arv.set Ar82 q82 S82 M82 H82 G82 rfl W82 19 rfl (Nat.le_of_ble_eq_true rfl)
  have zz84 : n0 ≤ h82.size := Nat.le_trans zz80 (Keep.of_wr W82).1
  have pre85 : Go p.tables e below S0 T82 (mkF m 135 #[vI p0, vI p1, .unset, .unset, .unset, .unset, .unset, .unset, .unset, .unset, .unset, .unset] [(.int (8206 : Int32)), (.int (20 : Int32)), (.ref b2), (.ref b2)]) := fun t k => pre82 t (by
    refine XS.dup X82.here hx rfl (hb hby at_129) rfl rfl ?_
    show Steps p.tables e below (T82.setTop (mkF m 130 #[vI p0, vI p1, .unset, .unset, .unset, .unset, .unset, .unset, .unset, .unset, .unset, .unset] [(.ref b2), (.ref b2)])) _
    refine XS.bipush X82.here hx rfl (hb hby at_130) ?_
    show Steps p.tables e below (T82.setTop (mkF m 132 #[vI p0, vI p1, .unset, .unset, .unset, .unset, .unset, .unset, .unset, .unset, .unset, .unset] [(.int (20 : Int32)), (.ref b2), (.ref b2)])) _
    refine XS.sipush X82.here hx rfl (hb hby at_132) ?_
    show Steps p.tables e below (T82.setTop (mkF m 135 #[vI p0, vI p1, .unset, .unset, .unset, .unset, .unset, .unset, .unset, .unset, .unset, .unset] [(.int (8206 : Int32)), (.int (20 : Int32)), (.ref b2), (.ref b2)])) _
    exact k)
  obtain ⟨cl86, Ar86, q86, S86, M86, H86, G86⟩ := id av82
  have in86 : ¬ ((20 : Int32) < 0 ∨ cl86.slots.size ≤ ((20 : Int32)).toNatClampNeg) := inb_of S86 ⟨by decide, by decide⟩
  obtain ⟨T86, h86, X86, e86, W86, st86⟩ := stI X82 hx hZ e82 Ar86 (j := (20 : Int32)) in86 (g := (mkF m 135 #[vI p0, vI p1, .unset, .unset, .unset, .unset, .unset, .unset, .unset, .unset, .unset, .unset] [(.int (8206 : Int32)), (.int (20 : Int32)), (.ref b2), (.ref b2)])) rfl rfl (hb hby at_135)
  have pre86 : Go p.tables e below S0 T86 (mkF m 136 #[vI p0, vI p1, .unset, .unset, .unset, .unset, .unset, .unset, .unset, .unset, .unset, .unset] [(.ref b2)]) := fun t k => pre85 t (st86 t k)
  obtain ⟨lo86, N86, X86⟩ : ∃ lo, Fr n0 lo ∧ Stand p l e room_1 s m #[(.int p0), (.int p1)] below meth c T86 lo 1 33 := ⟨_, Fr.snoc X86 N82 bo2, X86⟩
  have av86 : Arv Z h86 b2 kA2 .int (33 : Int32) [(.int (-2147483648 : Int32)), (.int (58 : Int32)), (.int (59 : Int32)), (.int (65 : Int32)), (.int (91 : Int32)), (.int (95 : Int32)), (.int (96 : Int32)), (.int (97 : Int32)), (.int (123 : Int32)), (.int (192 : Int32)), (.int (215 : Int32)), (.int (216 : Int32)), (.int (247 : Int32)), (.int (248 : Int32)), (.int (768 : Int32)), (.int (880 : Int32)), (.int (894 : Int32)), (.int (895 : Int32)), (.int (8192 : Int32)), (.int (8204 : Int32)), (.int (8206 : Int32)), (.int (0 : Int32)), (.int (0 : Int32)), (.int (0 : Int32)), (.int (0 : Int32)), (.int (0 : Int32)), (.int (0 : Int32)), (.int (0 : Int32)), (.int (0 : Int32)), (.int (0 : Int32)), (.int (0 : Int32)), (.int (0 : Int32)), (.int (0 : Int32))] (.int (0 : Int32)) := Arv.set Ar86 q86 S86 M86 H86 G86 rfl W86 20 rfl (Nat.le_of_ble_eq_true rfl)
  have zz88 : n0 ≤ h86.size := Nat.le_trans zz84 (Keep.of_wr W86).1
  have pre89 : Go p.tables e below S0 T86 (mkF m 142 #[vI p0, vI p1, .unset, .unset, .unset, .unset, .unset, .unset, .unset, .unset, .unset, .unset] [(.int (8304 : Int32)), (.int (21 : Int32)), (.ref b2), (.ref b2)]) := fun t k => pre86 t (by
    refine XS.dup X86.here hx rfl (hb hby at_136) rfl rfl ?_
    show Steps p.tables e below (T86.setTop (mkF m 137 #[vI p0, vI p1, .unset, .unset, .unset, .unset, .unset, .unset, .unset, .unset, .unset, .unset] [(.ref b2), (.ref b2)])) _
    refine XS.bipush X86.here hx rfl (hb hby at_137) ?_
    show Steps p.tables e below (T86.setTop (mkF m 139 #[vI p0, vI p1, .unset, .unset, .unset, .unset, .unset, .unset, .unset, .unset, .unset, .unset] [(.int (21 : Int32)), (.ref b2), (.ref b2)])) _
    refine XS.sipush X86.here hx rfl (hb hby at_139) ?_
    show Steps p.tables e below (T86.setTop (mkF m 142 #[vI p0, vI p1, .unset, .unset, .unset, .unset, .unset, .unset, .unset, .unset, .unset, .unset] [(.int (8304 : Int32)), (.int (21 : Int32)), (.ref b2), (.ref b2)])) _
    exact k)
  obtain ⟨cl90, Ar90, q90, S90, M90, H90, G90⟩ := id av86
  have in90 : ¬ ((21 : Int32) < 0 ∨ cl90.slots.size ≤ ((21 : Int32)).toNatClampNeg) := inb_of S90 ⟨by decide, by decide⟩
  obtain ⟨T90, h90, X90, e90, W90, st90⟩ := stI X86 hx hZ e86 Ar90 (j := (21 : Int32)) in90 (g := (mkF m 142 #[vI p0, vI p1, .unset, .unset, .unset, .unset, .unset, .unset, .unset, .unset, .unset, .unset] [(.int (8304 : Int32)), (.int (21 : Int32)), (.ref b2), (.ref b2)])) rfl rfl (hb hby at_142)
  have pre90 : Go p.tables e below S0 T90 (mkF m 143 #[vI p0, vI p1, .unset, .unset, .unset, .unset, .unset, .unset, .unset, .unset, .unset, .unset] [(.ref b2)]) := fun t k => pre89 t (st90 t k)
  obtain ⟨lo90, N90, X90⟩ : ∃ lo, Fr n0 lo ∧ Stand p l e room_1 s m #[(.int p0), (.int p1)] below meth c T90 lo 1 33 := ⟨_, Fr.snoc X90 N86 bo2, X90⟩
  have av90 : Arv Z h90 b2 kA2 .int (33 : Int32) [(.int (-2147483648 : Int32)), (.int (58 : Int32)), (.int (59 : Int32)), (.int (65 : Int32)), (.int (91 : Int32)), (.int (95 : Int32)), (.int (96 : Int32)), (.int (97 : Int32)), (.int (123 : Int32)), (.int (192 : Int32)), (.int (215 : Int32)), (.int (216 : Int32)), (.int (247 : Int32)), (.int (248 : Int32)), (.int (768 : Int32)), (.int (880 : Int32)), (.int (894 : Int32)), (.int (895 : Int32)), (.int (8192 : Int32)), (.int (8204 : Int32)), (.int (8206 : Int32)), (.int (8304 : Int32)), (.int (0 : Int32)), (.int (0 : Int32)), (.int (0 : Int32)), (.int (0 : Int32)), (.int (0 : Int32)), (.int (0 : Int32)), (.int (0 : Int32)), (.int (0 : Int32)), (.int (0 : Int32)), (.int (0 : Int32)), (.int (0 : Int32))] (.int (0 : Int32)) := Arv.set Ar90 q90 S90 M90 H90 G90 rfl W90 21 rfl (Nat.le_of_ble_eq_true rfl)
  have zz92 : n0 ≤ h90.size := Nat.le_trans zz88 (Keep.of_wr W90).1
  have pre93 : Go p.tables e below S0 T90 (mkF m 149 #[vI p0, vI p1, .unset, .unset, .unset, .unset, .unset, .unset, .unset, .unset, .unset, .unset] [(.int (8592 : Int32)), (.int (22 : Int32)), (.ref b2), (.ref b2)]) := fun t k => pre90 t (by
    refine XS.dup X90.here hx rfl (hb hby at_143) rfl rfl ?_
    show Steps p.tables e below (T90.setTop (mkF m 144 #[vI p0, vI p1, .unset, .unset, .unset, .unset, .unset, .unset, .unset, .unset, .unset, .unset] [(.ref b2), (.ref b2)])) _
    refine XS.bipush X90.here hx rfl (hb hby at_144) ?_
    show Steps p.tables e below (T90.setTop (mkF m 146 #[vI p0, vI p1, .unset, .unset, .unset, .unset, .unset, .unset, .unset, .unset, .unset, .unset] [(.int (22 : Int32)), (.ref b2), (.ref b2)])) _
    refine XS.sipush X90.here hx rfl (hb hby at_146) ?_
    show Steps p.tables e below (T90.setTop (mkF m 149 #[vI p0, vI p1, .unset, .unset, .unset, .unset, .unset, .unset, .unset, .unset, .unset, .unset] [(.int (8592 : Int32)), (.int (22 : Int32)), (.ref b2), (.ref b2)])) _
    exact k)
  obtain ⟨cl94, Ar94, q94, S94, M94, H94, G94⟩ := id av90
  have in94 : ¬ ((22 : Int32) < 0 ∨ cl94.slots.size ≤ ((22 : Int32)).toNatClampNeg) := inb_of S94 ⟨by decide, by decide⟩
  obtain ⟨T94, h94, X94, e94, W94, st94⟩ := stI X90 hx hZ e90 Ar94 (j := (22 : Int32)) in94 (g := (mkF m 149 #[vI p0, vI p1, .unset, .unset, .unset, .unset, .unset, .unset, .unset, .unset, .unset, .unset] [(.int (8592 : Int32)), (.int (22 : Int32)), (.ref b2), (.ref b2)])) rfl rfl (hb hby at_149)
  have pre94 : Go p.tables e below S0 T94 (mkF m 150 #[vI p0, vI p1, .unset, .unset, .unset, .unset, .unset, .unset, .unset, .unset, .unset, .unset] [(.ref b2)]) := fun t k => pre93 t (st94 t k)
  obtain ⟨lo94, N94, X94⟩ : ∃ lo, Fr n0 lo ∧ Stand p l e room_1 s m #[(.int p0), (.int p1)] below meth c T94 lo 1 33 := ⟨_, Fr.snoc X94 N90 bo2, X94⟩
  have av94 : Arv Z h94 b2 kA2 .int (33 : Int32) [(.int (-2147483648 : Int32)), (.int (58 : Int32)), (.int (59 : Int32)), (.int (65 : Int32)), (.int (91 : Int32)), (.int (95 : Int32)), (.int (96 : Int32)), (.int (97 : Int32)), (.int (123 : Int32)), (.int (192 : Int32)), (.int (215 : Int32)), (.int (216 : Int32)), (.int (247 : Int32)), (.int (248 : Int32)), (.int (768 : Int32)), (.int (880 : Int32)), (.int (894 : Int32)), (.int (895 : Int32)), (.int (8192 : Int32)), (.int (8204 : Int32)), (.int (8206 : Int32)), (.int (8304 : Int32)), (.int (8592 : Int32)), (.int (0 : Int32)), (.int (0 : Int32)), (.int (0 : Int32)), (.int (0 : Int32)), (.int (0 : Int32)), (.int (0 : Int32)), (.int (0 : Int32)), (.int (0 : Int32)), (.int (0 : Int32)), (.int (0 : Int32))] (.int (0 : Int32)) := Arv.set Ar94 q94 S94 M94 H94 G94 rfl W94 22 rfl (Nat.le_of_ble_eq_true rfl)
  have zz96 : n0 ≤ h94.size := Nat.le_trans zz92 (Keep.of_wr W94).1
  have pre97 : Go p.tables e below S0 T94 (mkF m 156 #[vI p0, vI p1, .unset, .unset, .unset, .unset, .unset, .unset, .unset, .unset, .unset, .unset] [(.int (11264 : Int32)), (.int (23 : Int32)), (.ref b2), (.ref b2)]) := fun t k => pre94 t (by
    refine XS.dup X94.here hx rfl (hb hby at_150) rfl rfl ?_
    show Steps p.tables e below (T94.setTop (mkF m 151 #[vI p0, vI p1, .unset, .unset, .unset, .unset, .unset, .unset, .unset, .unset, .unset, .unset] [(.ref b2), (.ref b2)])) _
    refine XS.bipush X94.here hx rfl (hb hby at_151) ?_
    show Steps p.tables e below (T94.setTop (mkF m 153 #[vI p0, vI p1, .unset, .unset, .unset, .unset, .unset, .unset, .unset, .unset, .unset, .unset] [(.int (23 : Int32)), (.ref b2), (.ref b2)])) _
    refine XS.sipush X94.here hx rfl (hb hby at_153) ?_
    show Steps p.tables e below (T94.setTop (mkF m 156 #[vI p0, vI p1, .unset, .unset, .unset, .unset, .unset, .unset, .unset, .unset, .unset, .unset] [(.int (11264 : Int32)), (.int (23 : Int32)), (.ref b2), (.ref b2)])) _
    exact k)
  obtain ⟨cl98, Ar98, q98, S98, M98, H98, G98⟩ := id av94
  have in98 : ¬ ((23 : Int32) < 0 ∨ cl98.slots.size ≤ ((23 : Int32)).toNatClampNeg) := inb_of S98 ⟨by decide, by decide⟩
  obtain ⟨T98, h98, X98, e98, W98, st98⟩ := stI X94 hx hZ e94 Ar98 (j := (23 : Int32)) in98 (g := (mkF m 156 #[vI p0, vI p1, .unset, .unset, .unset, .unset, .unset, .unset, .unset, .unset, .unset, .unset] [(.int (11264 : Int32)), (.int (23 : Int32)), (.ref b2), (.ref b2)])) rfl rfl (hb hby at_156)
  have pre98 : Go p.tables e below S0 T98 (mkF m 157 #[vI p0, vI p1, .unset, .unset, .unset, .unset, .unset, .unset, .unset, .unset, .unset, .unset] [(.ref b2)]) := fun t k => pre97 t (st98 t k)
  obtain ⟨lo98, N98, X98⟩ : ∃ lo, Fr n0 lo ∧ Stand p l e room_1 s m #[(.int p0), (.int p1)] below meth c T98 lo 1 33 := ⟨_, Fr.snoc X98 N94 bo2, X98⟩
  have av98 : Arv Z h98 b2 kA2 .int (33 : Int32) [(.int (-2147483648 : Int32)), (.int (58 : Int32)), (.int (59 : Int32)), (.int (65 : Int32)), (.int (91 : Int32)), (.int (95 : Int32)), (.int (96 : Int32)), (.int (97 : Int32)), (.int (123 : Int32)), (.int (192 : Int32)), (.int (215 : Int32)), (.int (216 : Int32)), (.int (247 : Int32)), (.int (248 : Int32)), (.int (768 : Int32)), (.int (880 : Int32)), (.int (894 : Int32)), (.int (895 : Int32)), (.int (8192 : Int32)), (.int (8204 : Int32)), (.int (8206 : Int32)), (.int (8304 : Int32)), (.int (8592 : Int32)), (.int (11264 : Int32)), (.int (0 : Int32)), (.int (0 : Int32)), (.int (0 : Int32)), (.int (0 : Int32)), (.int (0 : Int32)), (.int (0 : Int32)), (.int (0 : Int32)), (.int (0 : Int32)), (.int (0 : Int32))] (.int (0 : Int32)) := Arv.set Ar98 q98 S98 M98 H98 G98 rfl W98 23 rfl (Nat.le_of_ble_eq_true rfl)
  have zz100 : n0 ≤ h98.size := Nat.le_trans zz96 (Keep.of_wr W98).1
  have pre101 : Go p.tables e below S0 T98 (mkF m 163 #[vI p0, vI p1, .unset, .unset, .unset, .unset, .unset, .unset, .unset, .unset, .unset, .unset] [(.int (12272 : Int32)), (.int (24 : Int32)), (.ref b2), (.ref b2)]) := fun t k => pre98 t (by
    refine XS.dup X98.here hx rfl (hb hby at_157) rfl rfl ?_
    show Steps p.tables e below (T98.setTop (mkF m 158 #[vI p0, vI p1, .unset, .unset, .unset, .unset, .unset, .unset, .unset, .unset, .unset, .unset] [(.ref b2), (.ref b2)])) _
    refine XS.bipush X98.here hx rfl (hb hby at_158) ?_
    show Steps p.tables e below (T98.setTop (mkF m 160 #[vI p0, vI p1, .unset, .unset, .unset, .unset, .unset, .unset, .unset, .unset, .unset, .unset] [(.int (24 : Int32)), (.ref b2), (.ref b2)])) _
    refine XS.sipush X98.here hx rfl (hb hby at_160) ?_
    show Steps p.tables e below (T98.setTop (mkF m 163 #[vI p0, vI p1, .unset, .unset, .unset, .unset, .unset, .unset, .unset, .unset, .unset, .unset] [(.int (12272 : Int32)), (.int (24 : Int32)), (.ref b2), (.ref b2)])) _
    exact k)
  obtain ⟨cl102, Ar102, q102, S102, M102, H102, G102⟩ := id av98
  have in102 : ¬ ((24 : Int32) < 0 ∨ cl102.slots.size ≤ ((24 : Int32)).toNatClampNeg) := inb_of S102 ⟨by decide, by decide⟩
  obtain ⟨T102, h102, X102, e102, W102, st102⟩ := stI X98 hx hZ e98 Ar102 (j := (24 : Int32)) in102 (g := (mkF m 163 #[vI p0, vI p1, .unset, .unset, .unset, .unset, .unset, .unset, .unset, .unset, .unset, .unset] [(.int (12272 : Int32)), (.int (24 : Int32)), (.ref b2), (.ref b2)])) rfl rfl (hb hby at_163)
  have pre102 : Go p.tables e below S0 T102 (mkF m 164 #[vI p0, vI p1, .unset, .unset, .unset, .unset, .unset, .unset, .unset, .unset, .unset, .unset] [(.ref b2)]) := fun t k => pre101 t (st102 t k)
  obtain ⟨lo102, N102, X102⟩ : ∃ lo, Fr n0 lo ∧ Stand p l e room_1 s m #[(.int p0), (.int p1)] below meth c T102 lo 1 33 := ⟨_, Fr.snoc X102 N98 bo2, X102⟩
  have av102 : Arv Z h102 b2 kA2 .int (33 : Int32) [(.int (-2147483648 : Int32)), (.int (58 : Int32)), (.int (59 : Int32)), (.int (65 : Int32)), (.int (91 : Int32)), (.int (95 : Int32)), (.int (96 : Int32)), (.int (97 : Int32)), (.int (123 : Int32)), (.int (192 : Int32)), (.int (215 : Int32)), (.int (216 : Int32)), (.int (247 : Int32)), (.int (248 : Int32)), (.int (768 : Int32)), (.int (880 : Int32)), (.int (894 : Int32)), (.int (895 : Int32)), (.int (8192 : Int32)), (.int (8204 : Int32)), (.int (8206 : Int32)), (.int (8304 : Int32)), (.int (8592 : Int32)), (.int (11264 : Int32)), (.int (12272 : Int32)), (.int (0 : Int32)), (.int (0 : Int32)), (.int (0 : Int32)), (.int (0 : Int32)), (.int (0 : Int32)), (.int (0 : Int32)), (.int (0 : Int32)), (.int (0 : Int32))] (.int (0 : Int32)) := Arv.set Ar102 q102 S102 M102 H102 G102 rfl W102 24 rfl (Nat.le_of_ble_eq_true rfl)
  have zz104 : n0 ≤ h102.size := Nat.le_trans zz100 (Keep.of_wr W102).1
  have pre105 : Go p.tables e below S0 T102 (mkF m 170 #[vI p0, vI p1, .unset, .unset, .unset, .unset, .unset, .unset, .unset, .unset, .unset, .unset] [(.int (12289 : Int32)), (.int (25 : Int32)), (.ref b2), (.ref b2)]) := fun t k => pre102 t (by
    refine XS.dup X102.here hx rfl (hb hby at_164) rfl rfl ?_
    show Steps p.tables e below (T102.setTop (mkF m 165 #[vI p0, vI p1, .unset, .unset, .unset, .unset, .unset, .unset, .unset, .unset, .unset, .unset] [(.ref b2), (.ref b2)])) _
    refine XS.bipush X102.here hx rfl (hb hby at_165) ?_
    show Steps p.tables e below (T102.setTop (mkF m 167 #[vI p0, vI p1, .unset, .unset, .unset, .unset, .unset, .unset, .unset, .unset, .unset, .unset] [(.int (25 : Int32)), (.ref b2), (.ref b2)])) _
    refine XS.sipush X102.here hx rfl (hb hby at_167) ?_
    show Steps p.tables e below (T102.setTop (mkF m 170 #[vI p0, vI p1, .unset, .unset, .unset, .unset, .unset, .unset, .unset, .unset, .unset, .unset] [(.int (12289 : Int32)), (.int (25 : Int32)), (.ref b2), (.ref b2)])) _
    exact k)
  obtain ⟨cl106, Ar106, q106, S106, M106, H106, G106⟩ := id av102
  have in106 : ¬ ((25 : Int32) < 0 ∨ cl106.slots.size ≤ ((25 : Int32)).toNatClampNeg) := inb_of S106 ⟨by decide, by decide⟩
  obtain ⟨T106, h106, X106, e106, W106, st106⟩ := stI X102 hx hZ e102 Ar106 (j := (25 : Int32)) in106 (g := (mkF m 170 #[vI p0, vI p1, .unset, .unset, .unset, .unset, .unset, .unset, .unset, .unset, .unset, .unset] [(.int (12289 : Int32)), (.int (25 : Int32)), (.ref b2), (.ref b2)])) rfl rfl (hb hby at_170)
  have pre106 : Go p.tables e below S0 T106 (mkF m 171 #[vI p0, vI p1, .unset, .unset, .unset, .unset, .unset, .unset, .unset, .unset, .unset, .unset] [(.ref b2)]) := fun t k => pre105 t (st106 t k)
  obtain ⟨lo106, N106, X106⟩ : ∃ lo, Fr n0 lo ∧ Stand p l e room_1 s m #[(.int p0), (.int p1)] below meth c T106 lo 1 33 := ⟨_, Fr.snoc X106 N102 bo2, X106⟩
  have av106 : Arv Z h106 b2 kA2 .int (33 : Int32) [(.int (-2147483648 : Int32)), (.int (58 : Int32)), (.int (59 : Int32)), (.int (65 : Int32)), (.int (91 : Int32)), (.int (95 : Int32)), (.int (96 : Int32)), (.int (97 : Int32)), (.int (123 : Int32)), (.int (192 : Int32)), (.int (215 : Int32)), (.int (216 : Int32)), (.int (247 : Int32)), (.int (248 : Int32)), (.int (768 : Int32)), (.int (880 : Int32)), (.int (894 : Int32)), (.int (895 : Int32)), (.int (8192 : Int32)), (.int (8204 : Int32)), (.int (8206 : Int32)), (.int (8304 : Int32)), (.int (8592 : Int32)), (.int (11264 : Int32)), (.int (12272 : Int32)), (.int (12289 : Int32)), (.int (0 : Int32)), (.int (0 : Int32)), (.int (0 : Int32)), (.int (0 : Int32)), (.int (0 : Int32)), (.int (0 : Int32)), (.int (0 : Int32))] (.int (0 : Int32)) := Arv.set Ar106 q106 S106 M106 H106 G106 rfl W106 25 rfl (Nat.le_of_ble_eq_true rfl)
  have zz108 : n0 ≤ h106.size := Nat.le_trans zz104 (Keep.of_wr W106).1
  have pre109 : Go p.tables e below S0 T106 (mkF m 176 #[vI p0, vI p1, .unset, .unset, .unset, .unset, .unset, .unset, .unset, .unset, .unset, .unset] [(.int (55296 : Int32)), (.int (26 : Int32)), (.ref b2), (.ref b2)]) := fun t k => pre106 t (by
    refine XS.dup X106.here hx rfl (hb hby at_171) rfl rfl ?_
    show Steps p.tables e below (T106.setTop (mkF m 172 #[vI p0, vI p1, .unset, .unset, .unset, .unset, .unset, .unset, .unset, .unset, .unset, .unset] [(.ref b2), (.ref b2)])) _
    refine XS.bipush X106.here hx rfl (hb hby at_172) ?_
    show Steps p.tables e below (T106.setTop (mkF m 174 #[vI p0, vI p1, .unset, .unset, .unset, .unset, .unset, .unset, .unset, .unset, .unset, .unset] [(.int (26 : Int32)), (.ref b2), (.ref b2)])) _
    refine X106.ldcInt hx hown (mvT hZ (hw _ (List.mem_of_getElem? (i := 2) rfl))) (g := (mkF m 174 #[vI p0, vI p1, .unset, .unset, .unset, .unset, .unset, .unset, .unset, .unset, .unset, .unset] [(.int (26 : Int32)), (.ref b2), (.ref b2)])) rfl (hb hby at_174) _ ?_
    show Steps p.tables e below (T106.setTop (mkF m 176 #[vI p0, vI p1, .unset, .unset, .unset, .unset, .unset, .unset, .unset, .unset, .unset, .unset] [(.int (55296 : Int32)), (.int (26 : Int32)), (.ref b2), (.ref b2)])) _
    exact k)
  obtain ⟨cl110, Ar110, q110, S110, M110, H110, G110⟩ := id av106
  have in110 : ¬ ((26 : Int32) < 0 ∨ cl110.slots.size ≤ ((26 : Int32)).toNatClampNeg) := inb_of S110 ⟨by decide, by decide⟩
  obtain ⟨T110, h110, X110, e110, W110, st110⟩ := stI X106 hx hZ e106 Ar110 (j := (26 : Int32)) in110 (g := (mkF m 176 #[vI p0, vI p1, .unset, .unset, .unset, .unset, .unset, .unset, .unset, .unset, .unset, .unset] [(.int (55296 : Int32)), (.int (26 : Int32)), (.ref b2), (.ref b2)])) rfl rfl (hb hby at_176)
  have pre110 : Go p.tables e below S0 T110 (mkF m 177 #[vI p0, vI p1, .unset, .unset, .unset, .unset, .unset, .unset, .unset, .unset, .unset, .unset] [(.ref b2)]) := fun t k => pre109 t (st110 t k)
  obtain ⟨lo110, N110, X110⟩ : ∃ lo, Fr n0 lo ∧ Stand p l e room_1 s m #[(.int p0), (.int p1)] below meth c T110 lo 1 33 := ⟨_, Fr.snoc X110 N106 bo2, X110⟩
  have av110 : Arv Z h110 b2 kA2 .int (33 : Int32) [(.int (-2147483648 : Int32)), (.int (58 : Int32)), (.int (59 : Int32)), (.int (65 : Int32)), (.int (91 : Int32)), (.int (95 : Int32)), (.int (96 : Int32)), (.int (97 : Int32)), (.int (123 : Int32)), (.int (192 : Int32)), (.int (215 : Int32)), (.int (216 : Int32)), (.int (247 : Int32)), (.int (248 : Int32)), (.int (768 : Int32)), (.int (880 : Int32)), (.int (894 : Int32)), (.int (895 : Int32)), (.int (8192 : Int32)), (.int (8204 : Int32)), (.int (8206 : Int32)), (.int (8304 : Int32)), (.int (8592 : Int32)), (.int (11264 : Int32)), (.int (12272 : Int32)), (.int (12289 : Int32)), (.int (55296 : Int32)), (.int (0 : Int32)), (.int (0 : Int32)), (.int (0 : Int32)), (.int (0 : Int32)), (.int (0 : Int32)), (.int (0 : Int32))] (.int (0 : Int32)) := Arv.set Ar110 q110 S110 M110 H110 G110 rfl W110 26 rfl (Nat.le_of_ble_eq_true rfl)
  have zz112 : n0 ≤ h110.size := Nat.le_trans zz108 (Keep.of_wr W110).1
  have pre113 : Go p.tables e below S0 T110 (mkF m 182 #[vI p0, vI p1, .unset, .unset, .unset, .unset, .unset, .unset, .unset, .unset, .unset, .unset] [(.int (63744 : Int32)), (.int (27 : Int32)), (.ref b2), (.ref b2)]) := fun t k => pre110 t (by
    refine XS.dup X110.here hx rfl (hb hby at_177) rfl rfl ?_
    show Steps p.tables e below (T110.setTop (mkF m 178 #[vI p0, vI p1, .unset, .unset, .unset, .unset, .unset, .unset, .unset, .unset, .unset, .unset] [(.ref b2), (.ref b2)])) _
    refine XS.bipush X110.here hx rfl (hb hby at_178) ?_
    show Steps p.tables e below (T110.setTop (mkF m 180 #[vI p0, vI p1, .unset, .unset, .unset, .unset, .unset, .unset, .unset, .unset, .unset, .unset] [(.int (27 : Int32)), (.ref b2), (.ref b2)])) _
    refine X110.ldcInt hx hown (mvT hZ (hw _ (List.mem_of_getElem? (i := 3) rfl))) (g := (mkF m 180 #[vI p0, vI p1, .unset, .unset, .unset, .unset, .unset, .unset, .unset, .unset, .unset, .unset] [(.int (27 : Int32)), (.ref b2), (.ref b2)])) rfl (hb hby at_180) _ ?_
    show Steps p.tables e below (T110.setTop (mkF m 182 #[vI p0, vI p1, .unset, .unset, .unset, .unset, .unset, .unset, .unset, .unset, .unset, .unset] [(.int (63744 : Int32)), (.int (27 : Int32)), (.ref b2), (.ref b2)])) _
    exact k)
  obtain ⟨cl114, Ar114, q114, S114, M114, H114, G114⟩ := id av110
  have in114 : ¬ ((27 : Int32) < 0 ∨ cl114.slots.size ≤ ((27 : Int32)).toNatClampNeg) := inb_of S114 ⟨by decide, by decide⟩
  obtain ⟨T114, h114, X114, e114, W114, st114⟩ := stI X110 hx hZ e110 Ar114 (j := (27 : Int32)) in114 (g := (mkF m 182 #[vI p0, vI p1, .unset, .unset, .unset, .unset, .unset, .unset, .unset, .unset, .unset, .unset] [(.int (63744 : Int32)), (.int (27 : Int32)), (.ref b2), (.ref b2)])) rfl rfl (hb hby at_182)
  have pre114 : Go p.tables e below S0 T114 (mkF m 183 #[vI p0, vI p1, .unset, .unset, .unset, .unset, .unset, .unset, .unset, .unset, .unset, .unset] [(.ref b2)]) := fun t k => pre113 t (st114 t k)
  obtain ⟨lo114, N114, X114⟩ : ∃ lo, Fr n0 lo ∧ Stand p l e room_1 s m #[(.int p0), (.int p1)] below meth c T114 lo 1 33 := ⟨_, Fr.snoc X114 N110 bo2, X114⟩
  have av114 : Arv Z h114 b2 kA2 .int (33 : Int32) [(.int (-2147483648 : Int32)), (.int (58 : Int32)), (.int (59 : Int32)), (.int (65 : Int32)), (.int (91 : Int32)), (.int (95 : Int32)), (.int (96 : Int32)), (.int (97 : Int32)), (.int (123 : Int32)), (.int (192 : Int32)), (.int (215 : Int32)), (.int (216 : Int32)), (.int (247 : Int32)), (.int (248 : Int32)), (.int (768 : Int32)), (.int (880 : Int32)), (.int (894 : Int32)), (.int (895 : Int32)), (.int (8192 : Int32)), (.int (8204 : Int32)), (.int (8206 : Int32)), (.int (8304 : Int32)), (.int (8592 : Int32)), (.int (11264 : Int32)), (.int (12272 : Int32)), (.int (12289 : Int32)), (.int (55296 : Int32)), (.int (63744 : Int32)), (.int (0 : Int32)), (.int (0 : Int32)), (.int (0 : Int32)), (.int (0 : Int32)), (.int (0 : Int32))] (.int (0 : Int32)) := Arv.set Ar114 q114 S114 M114 H114 G114 rfl W114 27 rfl (Nat.le_of_ble_eq_true rfl)
  have zz116 : n0 ≤ h114.size := Nat.le_trans zz112 (Keep.of_wr W114).1
  have pre117 : Go p.tables e below S0 T114 (mkF m 188 #[vI p0, vI p1, .unset, .unset, .unset, .unset, .unset, .unset, .unset, .unset, .unset, .unset] [(.int (64976 : Int32)), (.int (28 : Int32)), (.ref b2), (.ref b2)]) := fun t k => pre114 t (by
    refine XS.dup X114.here hx rfl (hb hby at_183) rfl rfl ?_
    show Steps p.tables e below (T114.setTop (mkF m 184 #[vI p0, vI p1, .unset, .unset, .unset, .unset, .unset, .unset, .unset, .unset, .unset, .unset] [(.ref b2), (.ref b2)])) _
    refine XS.bipush X114.here hx rfl (hb hby at_184) ?_
    show Steps p.tables e below (T114.setTop (mkF m 186 #[vI p0, vI p1, .unset, .unset, .unset, .unset, .unset, .unset, .unset, .unset, .unset, .unset] [(.int (28 : Int32)), (.ref b2), (.ref b2)])) _
    refine X114.ldcInt hx hown (mvT hZ (hw _ (List.mem_of_getElem? (i := 4) rfl))) (g := (mkF m 186 #[vI p0, vI p1, .unset, .unset, .unset, .unset, .unset, .unset, .unset, .unset, .unset, .unset] [(.int (28 : Int32)), (.ref b2), (.ref b2)])) rfl (hb hby at_186) _ ?_
    show Steps p.tables e below (T114.setTop (mkF m 188 #[vI p0, vI p1, .unset, .unset, .unset, .unset, .unset, .unset, .unset, .unset, .unset, .unset] [(.int (64976 : Int32)), (.int (28 : Int32)), (.ref b2), (.ref b2)])) _
    exact k)
  obtain ⟨cl118, Ar118, q118, S118, M118, H118, G118⟩ := id av114
  have in118 : ¬ ((28 : Int32) < 0 ∨ cl118.slots.size ≤ ((28 : Int32)).toNatClampNeg) := inb_of S118 ⟨by decide, by decide⟩
  obtain ⟨T118, h118, X118, e118, W118, st118⟩ := stI X114 hx hZ e114 Ar118 (j := (28 : Int32)) in118 (g := (mkF m 188 #[vI p0, vI p1, .unset, .unset, .unset, .unset, .unset, .unset, .unset, .unset, .unset, .unset] [(.int (64976 : Int32)), (.int (28 : Int32)), (.ref b2), (.ref b2)])) rfl rfl (hb hby at_188)
  have pre118 : Go p.tables e below S0 T118 (mkF m 189 #[vI p0, vI p1, .unset, .unset, .unset, .unset, .unset, .unset, .unset, .unset, .unset, .unset] [(.ref b2)]) := fun t k => pre117 t (st118 t k)
  obtain ⟨lo118, N118, X118⟩ : ∃ lo, Fr n0 lo ∧ Stand p l e room_1 s m #[(.int p0), (.int p1)] below meth c T118 lo 1 33 := ⟨_, Fr.snoc X118 N114 bo2, X118⟩
  have av118 : Arv Z h118 b2 kA2 .int (33 : Int32) [(.int (-2147483648 : Int32)), (.int (58 : Int32)), (.int (59 : Int32)), (.int (65 : Int32)), (.int (91 : Int32)), (.int (95 : Int32)), (.int (96 : Int32)), (.int (97 : Int32)), (.int (123 : Int32)), (.int (192 : Int32)), (.int (215 : Int32)), (.int (216 : Int32)), (.int (247 : Int32)), (.int (248 : Int32)), (.int (768 : Int32)), (.int (880 : Int32)), (.int (894 : Int32)), (.int (895 : Int32)), (.int (8192 : Int32)), (.int (8204 : Int32)), (.int (8206 : Int32)), (.int (8304 : Int32)), (.int (8592 : Int32)), (.int (11264 : Int32)), (.int (12272 : Int32)), (.int (12289 : Int32)), (.int (55296 : Int32)), (.int (63744 : Int32)), (.int (64976 : Int32)), (.int (0 : Int32)), (.int (0 : Int32)), (.int (0 : Int32)), (.int (0 : Int32))] (.int (0 : Int32)) := Arv.set Ar118 q118 S118 M118 H118 G118 rfl W118 28 rfl (Nat.le_of_ble_eq_true rfl)
  have zz120 : n0 ≤ h118.size := Nat.le_trans zz116 (Keep.of_wr W118).1
  have pre121 : Go p.tables e below S0 T118 (mkF m 194 #[vI p0, vI p1, .unset, .unset, .unset, .unset, .unset, .unset, .unset, .unset, .unset, .unset] [(.int (65008 : Int32)), (.int (29 : Int32)), (.ref b2), (.ref b2)]) := fun t k => pre118 t (by
    refine XS.dup X118.here hx rfl (hb hby at_189) rfl rfl ?_
    show Steps p.tables e below (T118.setTop (mkF m 190 #[vI p0, vI p1, .unset, .unset, .unset, .unset, .unset, .unset, .unset, .unset, .unset, .unset] [(.ref b2), (.ref b2)])) _
    refine XS.bipush X118.here hx rfl (hb hby at_190) ?_
    show Steps p.tables e below (T118.setTop (mkF m 192 #[vI p0, vI p1, .unset, .unset, .unset, .unset, .unset, .unset, .unset, .unset, .unset, .unset] [(.int (29 : Int32)), (.ref b2), (.ref b2)])) _
    refine X118.ldcInt hx hown (mvT hZ (hw _ (List.mem_of_getElem? (i := 5) rfl))) (g := (mkF m 192 #[vI p0, vI p1, .unset, .unset, .unset, .unset, .unset, .unset, .unset, .unset, .unset, .unset] [(.int (29 : Int32)), (.ref b2), (.ref b2)])) rfl (hb hby at_192) _ ?_
    show Steps p.tables e below (T118.setTop (mkF m 194 #[vI p0, vI p1, .unset, .unset, .unset, .unset, .unset, .unset, .unset, .unset, .unset, .unset] [(.int (65008 : Int32)), (.int (29 : Int32)), (.ref b2), (.ref b2)])) _
    exact k)
  obtain ⟨cl122, Ar122, q122, S122, M122, H122, G122⟩ := id av118
  have in122 : ¬ ((29 : Int32) < 0 ∨ cl122.slots.size ≤ ((29 : Int32)).toNatClampNeg) := inb_of S122 ⟨by decide, by decide⟩
  obtain ⟨T122, h122, X122, e122, W122, st122⟩ := stI X118 hx hZ e118 Ar122 (j := (29 : Int32)) in122 (g := (mkF m 194 #[vI p0, vI p1, .unset, .unset, .unset, .unset, .unset, .unset, .unset, .unset, .unset, .unset] [(.int (65008 : Int32)), (.int (29 : Int32)), (.ref b2), (.ref b2)])) rfl rfl (hb hby at_194)
  have pre122 : Go p.tables e below S0 T122 (mkF m 195 #[vI p0, vI p1, .unset, .unset, .unset, .unset, .unset, .unset, .unset, .unset, .unset, .unset] [(.ref b2)]) := fun t k => pre121 t (st122 t k)
  obtain ⟨lo122, N122, X122⟩ : ∃ lo, Fr n0 lo ∧ Stand p l e room_1 s m #[(.int p0), (.int p1)] below meth c T122 lo 1 33 := ⟨_, Fr.snoc X122 N118 bo2, X122⟩
  have av122 : Arv Z h122 b2 kA2 .int (33 : Int32) [(.int (-2147483648 : Int32)), (.int (58 : Int32)), (.int (59 : Int32)), (.int (65 : Int32)), (.int (91 : Int32)), (.int (95 : Int32)), (.int (96 : Int32)), (.int (97 : Int32)), (.int (123 : Int32)), (.int (192 : Int32)), (.int (215 : Int32)), (.int (216 : Int32)), (.int (247 : Int32)), (.int (248 : Int32)), (.int (768 : Int32)), (.int (880 : Int32)), (.int (894 : Int32)), (.int (895 : Int32)), (.int (8192 : Int32)), (.int (8204 : Int32)), (.int (8206 : Int32)), (.int (8304 : Int32)), (.int (8592 : Int32)), (.int (11264 : Int32)), (.int (12272 : Int32)), (.int (12289 : Int32)), (.int (55296 : Int32)), (.int (63744 : Int32)), (.int (64976 : Int32)), (.int (65008 : Int32)), (.int (0 : Int32)), (.int (0 : Int32)), (.int (0 : Int32))] (.int (0 : Int32)) := Arv.set Ar122 q122 S122 M122 H122 G122 rfl W122 29 rfl (Nat.le_of_ble_eq_true rfl)
  have zz124 : n0 ≤ h122.size := Nat.le_trans zz120 (Keep.of_wr W122).1
  have pre125 : Go p.tables e below S0 T122 (mkF m 200 #[vI p0, vI p1, .unset, .unset, .unset, .unset, .unset, .unset, .unset, .unset, .unset, .unset] [(.int (65534 : Int32)), (.int (30 : Int32)), (.ref b2), (.ref b2)]) := fun t k => pre122 t (by
    refine XS.dup X122.here hx rfl (hb hby at_195) rfl rfl ?_
    show Steps p.tables e below (T122.setTop (mkF m 196 #[vI p0, vI p1, .unset, .unset, .unset, .unset, .unset, .unset, .unset, .unset, .unset, .unset] [(.ref b2), (.ref b2)])) _
    refine XS.bipush X122.here hx rfl (hb hby at_196) ?_
    show Steps p.tables e below (T122.setTop (mkF m 198 #[vI p0, vI p1, .unset, .unset, .unset, .unset, .unset, .unset, .unset, .unset, .unset, .unset] [(.int (30 : Int32)), (.ref b2), (.ref b2)])) _
    refine X122.ldcInt hx hown (mvT hZ (hw _ (List.mem_of_getElem? (i := 6) rfl))) (g := (mkF m 198 #[vI p0, vI p1, .unset, .unset, .unset, .unset, .unset, .unset, .unset, .unset, .unset, .unset] [(.int (30 : Int32)), (.ref b2), (.ref b2)])) rfl (hb hby at_198) _ ?_
    show Steps p.tables e below (T122.setTop (mkF m 200 #[vI p0, vI p1, .unset, .unset, .unset, .unset, .unset, .unset, .unset, .unset, .unset, .unset] [(.int (65534 : Int32)), (.int (30 : Int32)), (.ref b2), (.ref b2)])) _
    exact k)
  obtain ⟨cl126, Ar126, q126, S126, M126, H126, G126⟩ := id av122
  have in126 : ¬ ((30 : Int32) < 0 ∨ cl126.slots.size ≤ ((30 : Int32)).toNatClampNeg) := inb_of S126 ⟨by decide, by decide⟩
  obtain ⟨T126, h126, X126, e126, W126, st126⟩ := stI X122 hx hZ e122 Ar126 (j := (30 : Int32)) in126 (g := (mkF m 200 #[vI p0, vI p1, .unset, .unset, .unset, .unset, .unset, .unset, .unset, .unset, .unset, .unset] [(.int (65534 : Int32)), (.int (30 : Int32)), (.ref b2), (.ref b2)])) rfl rfl (hb hby at_200)
  have pre126 : Go p.tables e below S0 T126 (mkF m 201 #[vI p0, vI p1, .unset, .unset, .unset, .unset, .unset, .unset, .unset, .unset, .unset, .unset] [(.ref b2)]) := fun t k => pre125 t (st126 t k)
  obtain ⟨lo126, N126, X126⟩ : ∃ lo, Fr n0 lo ∧ Stand p l e room_1 s m #[(.int p0), (.int p1)] below meth c T126 lo 1 33 := ⟨_, Fr.snoc X126 N122 bo2, X126⟩
  have av126 : Arv Z h126 b2 kA2 .int (33 : Int32) [(.int (-2147483648 : Int32)), (.int (58 : Int32)), (.int (59 : Int32)), (.int (65 : Int32)), (.int (91 : Int32)), (.int (95 : Int32)), (.int (96 : Int32)), (.int (97 : Int32)), (.int (123 : Int32)), (.int (192 : Int32)), (.int (215 : Int32)), (.int (216 : Int32)), (.int (247 : Int32)), (.int (248 : Int32)), (.int (768 : Int32)), (.int (880 : Int32)), (.int (894 : Int32)), (.int (895 : Int32)), (.int (8192 : Int32)), (.int (8204 : Int32)), (.int (8206 : Int32)), (.int (8304 : Int32)), (.int (8592 : Int32)), (.int (11264 : Int32)), (.int (12272 : Int32)), (.int (12289 : Int32)), (.int (55296 : Int32)), (.int (63744 : Int32)), (.int (64976 : Int32)), (.int (65008 : Int32)), (.int (65534 : Int32)), (.int (0 : Int32)), (.int (0 : Int32))] (.int (0 : Int32)) := Arv.set Ar126 q126 S126 M126 H126 G126 rfl W126 30 rfl (Nat.le_of_ble_eq_true rfl)
  have zz128 : n0 ≤ h126.size := Nat.le_trans zz124 (Keep.of_wr W126).1
  have pre129 : Go p.tables e below S0 T126 (mkF m 206 #[vI p0, vI p1, .unset, .unset, .unset, .unset, .unset, .unset, .unset, .unset, .unset, .unset] [(.int (65536 : Int32)), (.int (31 : Int32)), (.ref b2), (.ref b2)]) := fun t k => pre126 t (by
    refine XS.dup X126.here hx rfl (hb hby at_201) rfl rfl ?_
    show Steps p.tables e below (T126.setTop (mkF m 202 #[vI p0, vI p1, .unset, .unset, .unset, .unset, .unset, .unset, .unset, .unset, .unset, .unset] [(.ref b2), (.ref b2)])) _
    refine XS.bipush X126.here hx rfl (hb hby at_202) ?_
    show Steps p.tables e below (T126.setTop (mkF m 204 #[vI p0, vI p1, .unset, .unset, .unset, .unset, .unset, .unset, .unset, .unset, .unset, .unset] [(.int (31 : Int32)), (.ref b2), (.ref b2)])) _
    refine X126.ldcInt hx hown (mvT hZ (hw _ (List.mem_of_getElem? (i := 7) rfl))) (g := (mkF m 204 #[vI p0, vI p1, .unset, .unset, .unset, .unset, .unset, .unset, .unset, .unset, .unset, .unset] [(.int (31 : Int32)), (.ref b2), (.ref b2)])) rfl (hb hby at_204) _ ?_
    show Steps p.tables e below (T126.setTop (mkF m 206 #[vI p0, vI p1, .unset, .unset, .unset, .unset, .unset, .unset, .unset, .unset, .unset, .unset] [(.int (65536 : Int32)), (.int (31 : Int32)), (.ref b2), (.ref b2)])) _
    exact k)
  obtain ⟨cl130, Ar130, q130, S130, M130, H130, G130⟩ := id av126
  have in130 : ¬ ((31 : Int32) < 0 ∨ cl130.slots.size ≤ ((31 : Int32)).toNatClampNeg) := inb_of S130 ⟨by decide, by decide⟩
  obtain ⟨T130, h130, X130, e130, W130, st130⟩ := stI X126 hx hZ e126 Ar130 (j := (31 : Int32)) in130 (g := (mkF m 206 #[vI p0, vI p1, .unset, .unset, .unset, .unset, .unset, .unset, .unset, .unset, .unset, .unset] [(.int (65536 : Int32)), (.int (31 : Int32)), (.ref b2), (.ref b2)])) rfl rfl (hb hby at_206)
  have pre130 : Go p.tables e below S0 T130 (mkF m 207 #[vI p0, vI p1, .unset, .unset, .unset, .unset, .unset, .unset, .unset, .unset, .unset, .unset] [(.ref b2)]) := fun t k => pre129 t (st130 t k)
  obtain ⟨lo130, N130, X130⟩ : ∃ lo, Fr n0 lo ∧ Stand p l e room_1 s m #[(.int p0), (.int p1)] below meth c T130 lo 1 33 := ⟨_, Fr.snoc X130 N126 bo2, X130⟩
  have av130 : Arv Z h130 b2 kA2 .int (33 : Int32) [(.int (-2147483648 : Int32)), (.int (58 : Int32)), (.int (59 : Int32)), (.int (65 : Int32)), (.int (91 : Int32)), (.int (95 : Int32)), (.int (96 : Int32)), (.int (97 : Int32)), (.int (123 : Int32)), (.int (192 : Int32)), (.int (215 : Int32)), (.int (216 : Int32)), (.int (247 : Int32)), (.int (248 : Int32)), (.int (768 : Int32)), (.int (880 : Int32)), (.int (894 : Int32)), (.int (895 : Int32)), (.int (8192 : Int32)), (.int (8204 : Int32)), (.int (8206 : Int32)), (.int (8304 : Int32)), (.int (8592 : Int32)), (.int (11264 : Int32)), (.int (12272 : Int32)), (.int (12289 : Int32)), (.int (55296 : Int32)), (.int (63744 : Int32)), (.int (64976 : Int32)), (.int (65008 : Int32)), (.int (65534 : Int32)), (.int (65536 : Int32)), (.int (0 : Int32))] (.int (0 : Int32)) := Arv.set Ar130 q130 S130 M130 H130 G130 rfl W130 31 rfl (Nat.le_of_ble_eq_true rfl)
  have zz132 : n0 ≤ h130.size := Nat.le_trans zz128 (Keep.of_wr W130).1
  have pre133 : Go p.tables e below S0 T130 (mkF m 212 #[vI p0, vI p1, .unset, .unset, .unset, .unset, .unset, .unset, .unset, .unset, .unset, .unset] [(.int (983040 : Int32)), (.int (32 : Int32)), (.ref b2), (.ref b2)]) := fun t k => pre130 t (by
    refine XS.dup X130.here hx rfl (hb hby at_207) rfl rfl ?_
    show Steps p.tables e below (T130.setTop (mkF m 208 #[vI p0, vI p1, .unset, .unset, .unset, .unset, .unset, .unset, .unset, .unset, .unset, .unset] [(.ref b2), (.ref b2)])) _
    refine XS.bipush X130.here hx rfl (hb hby at_208) ?_
    show Steps p.tables e below (T130.setTop (mkF m 210 #[vI p0, vI p1, .unset, .unset, .unset, .unset, .unset, .unset, .unset, .unset, .unset, .unset] [(.int (32 : Int32)), (.ref b2), (.ref b2)])) _
    refine X130.ldcInt hx hown (mvT hZ (hw _ (List.mem_of_getElem? (i := 8) rfl))) (g := (mkF m 210 #[vI p0, vI p1, .unset, .unset, .unset, .unset, .unset, .unset, .unset, .unset, .unset, .unset] [(.int (32 : Int32)), (.ref b2), (.ref b2)])) rfl (hb hby at_210) _ ?_
    show Steps p.tables e below (T130.setTop (mkF m 212 #[vI p0, vI p1, .unset, .unset, .unset, .unset, .unset, .unset, .unset, .unset, .unset, .unset] [(.int (983040 : Int32)), (.int (32 : Int32)), (.ref b2), (.ref b2)])) _
    exact k)
  obtain ⟨cl134, Ar134, q134, S134, M134, H134, G134⟩ := id av130
  have in134 : ¬ ((32 : Int32) < 0 ∨ cl134.slots.size ≤ ((32 : Int32)).toNatClampNeg) := inb_of S134 ⟨by decide, by decide⟩
  obtain ⟨T134, h134, X134, e134, W134, st134⟩ := stI X130 hx hZ e130 Ar134 (j := (32 : Int32)) in134 (g := (mkF m 212 #[vI p0, vI p1, .unset, .unset, .unset, .unset, .unset, .unset, .unset, .unset, .unset, .unset] [(.int (983040 : Int32)), (.int (32 : Int32)), (.ref b2), (.ref b2)])) rfl rfl (hb hby at_212)
  have pre134 : Go p.tables e below S0 T134 (mkF m 213 #[vI p0, vI p1, .unset, .unset, .unset, .unset, .unset, .unset, .unset, .unset, .unset, .unset] [(.ref b2)]) := fun t k => pre133 t (st134 t k)
  obtain ⟨lo134, N134, X134⟩ : ∃ lo, Fr n0 lo ∧ Stand p l e room_1 s m #[(.int p0), (.int p1)] below meth c T134 lo 1 33 := ⟨_, Fr.snoc X134 N130 bo2, X134⟩
  have av134 : Arv Z h134 b2 kA2 .int (33 : Int32) [(.int (-2147483648 : Int32)), (.int (58 : Int32)), (.int (59 : Int32)), (.int (65 : Int32)), (.int (91 : Int32)), (.int (95 : Int32)), (.int (96 : Int32)), (.int (97 : Int32)), (.int (123 : Int32)), (.int (192 : Int32)), (.int (215 : Int32)), (.int (216 : Int32)), (.int (247 : Int32)), (.int (248 : Int32)), (.int (768 : Int32)), (.int (880 : Int32)), (.int (894 : Int32)), (.int (895 : Int32)), (.int (8192 : Int32)), (.int (8204 : Int32)), (.int (8206 : Int32)), (.int (8304 : Int32)), (.int (8592 : Int32)), (.int (11264 : Int32)), (.int (12272 : Int32)), (.int (12289 : Int32)), (.int (55296 : Int32)), (.int (63744 : Int32)), (.int (64976 : Int32)), (.int (65008 : Int32)), (.int (65534 : Int32)), (.int (65536 : Int32)), (.int (983040 : Int32))] (.int (0 : Int32)) := Arv.set Ar134 q134 S134 M134 H134 G134 rfl W134 32 rfl (Nat.le_of_ble_eq_true rfl)
  have zz136 : n0 ≤ h134.size := Nat.le_trans zz132 (Keep.of_wr W134).1
  obtain ⟨v137, hv137, pre137⟩ : ∃ z : Int32, z = ((p0 &&& (2147483647 : Int32)) % (33 : Int32)) ∧ Go p.tables e below S0 T134 (mkF m 222 #[vI p0, vI p1, vR b2, vI z, .unset, .unset, .unset, .unset, .unset, .unset, .unset, .unset] []) := ⟨_, rfl, fun t k => pre134 t (by
    refine XS.astoreN X134.here hx rfl (hb hby at_213) rfl rfl (l' := #[vI p0, vI p1, vR b2, .unset, .unset, .unset, .unset, .unset, .unset, .unset, .unset, .unset]) rfl ?_
    show Steps p.tables e below (T134.setTop (mkF m 214 #[vI p0, vI p1, vR b2, .unset, .unset, .unset, .unset, .unset, .unset, .unset, .unset, .unset] [])) _
    refine XS.iloadN X134.here hx rfl (hb hby at_214) rfl ?_
    show Steps p.tables e below (T134.setTop (mkF m 215 #[vI p0, vI p1, vR b2, .unset, .unset, .unset, .unset, .unset, .unset, .unset, .unset, .unset] [(.int p0)])) _
    refine X134.ldcInt hx hown (mvT hZ (hw _ (List.mem_of_getElem? (i := 9) rfl))) (g := (mkF m 215 #[vI p0, vI p1, vR b2, .unset, .unset, .unset, .unset, .unset, .unset, .unset, .unset, .unset] [(.int p0)])) rfl (hb hby at_215) _ ?_
    show Steps p.tables e below (T134.setTop (mkF m 217 #[vI p0, vI p1, vR b2, .unset, .unset, .unset, .unset, .unset, .unset, .unset, .unset, .unset] [(.int (2147483647 : Int32)), (.int p0)])) _
    refine XS.iand X134.here hx rfl (hb hby at_217) rfl ?_
    show Steps p.tables e below (T134.setTop (mkF m 218 #[vI p0, vI p1, vR b2, .unset, .unset, .unset, .unset, .unset, .unset, .unset, .unset, .unset] [(.int (p0 &&& (2147483647 : Int32)))])) _
    refine XS.bipush X134.here hx rfl (hb hby at_218) ?_
    show Steps p.tables e below (T134.setTop (mkF m 220 #[vI p0, vI p1, vR b2, .unset, .unset, .unset, .unset, .unset, .unset, .unset, .unset, .unset] [(.int (33 : Int32)), (.int (p0 &&& (2147483647 : Int32)))])) _
    refine iremM X134 hx rfl (hb hby at_220) rfl (by decide) ?_
    show Steps p.tables e below (T134.setTop (mkF m 221 #[vI p0, vI p1, vR b2, .unset, .unset, .unset, .unset, .unset, .unset, .unset, .unset, .unset] [(.int ((p0 &&& (2147483647 : Int32)) % (33 : Int32)))])) _
    refine XS.istoreN X134.here hx rfl (hb hby at_221) rfl (l' := #[vI p0, vI p1, vR b2, vI ((p0 &&& (2147483647 : Int32)) % (33 : Int32)), .unset, .unset, .unset, .unset, .unset, .unset, .unset, .unset]) rfl ?_
    show Steps p.tables e below (T134.setTop (mkF m 222 #[vI p0, vI p1, vR b2, vI ((p0 &&& (2147483647 : Int32)) % (33 : Int32)), .unset, .unset, .unset, .unset, .unset, .unset, .unset, .unset] [])) _
    exact k)⟩
  have ix := own_idx hv137
  have pre138 : Go p.tables e below S0 T134 (mkF m 224 #[vI p0, vI p1, vR b2, vI v137, .unset, .unset, .unset, .unset, .unset, .unset, .unset, .unset] [(.int v137), (.ref b2)]) := fun t k => pre137 t (by
    refine XS.aloadN X134.here hx rfl (hb hby at_222) rfl rfl ?_
    show Steps p.tables e below (T134.setTop (mkF m 223 #[vI p0, vI p1, vR b2, vI v137, .unset, .unset, .unset, .unset, .unset, .unset, .unset, .unset] [(.ref b2)])) _
    refine XS.iloadN X134.here hx rfl (hb hby at_223) rfl ?_
    show Steps p.tables e below (T134.setTop (mkF m 224 #[vI p0, vI p1, vR b2, vI v137, .unset, .unset, .unset, .unset, .unset, .unset, .unset, .unset] [(.int v137), (.ref b2)])) _
    exact k)
  obtain ⟨cl139, Ar139, q139, S139, M139, H139, G139⟩ := id av134
  have in139 : ¬ (v137 < 0 ∨ cl139.slots.size ≤ (v137).toNatClampNeg) := inb_of S139 (own_in ix)
  have at139 : cl139.slots[(v137).toNatClampNeg]? = some (.int (own_xs.getD (v137).toNatClampNeg 0)) := H139.at in139 (own_getI own_xs _)
  obtain ⟨v140, hv140, pre140⟩ : ∃ z : Int32, z = (own_xs.getD (v137).toNatClampNeg 0) ∧ Go p.tables e below S0 T134 (mkF m 227 #[vI p0, vI p1, vR b2, vI v137, vI z, .unset, .unset, .unset, .unset, .unset, .unset, .unset] []) := ⟨_, rfl, fun t k => pre138 t (by
    refine X134.iaload hx (j := v137) (v := (.int (own_xs.getD (v137).toNatClampNeg 0))) (by rw [e134]; exact Ar139.1) (State.isArrayOf_alike hZ.alike Ar139.2.1) Ar139.2.2 in139 at139 (g := (mkF m 224 #[vI p0, vI p1, vR b2, vI v137, .unset, .unset, .unset, .unset, .unset, .unset, .unset, .unset] [(.int v137), (.ref b2)])) rfl rfl (hb hby at_224) _ ?_
    show Steps p.tables e below (T134.setTop (mkF m 225 #[vI p0, vI p1, vR b2, vI v137, .unset, .unset, .unset, .unset, .unset, .unset, .unset, .unset] [(.int (own_xs.getD (v137).toNatClampNeg 0))])) _
    refine XS.istore X134.here hx rfl (hb hby at_225) rfl (l' := #[vI p0, vI p1, vR b2, vI v137, vI (own_xs.getD (v137).toNatClampNeg 0), .unset, .unset, .unset, .unset, .unset, .unset, .unset]) rfl ?_
    show Steps p.tables e below (T134.setTop (mkF m 227 #[vI p0, vI p1, vR b2, vI v137, vI (own_xs.getD (v137).toNatClampNeg 0), .unset, .unset, .unset, .unset, .unset, .unset, .unset] [])) _
    exact k)⟩
  have pre141 : Go p.tables e below S0 T134 (mkF m 230 #[vI p0, vI p1, vR b2, vI v137, vI v140, .unset, .unset, .unset, .unset, .unset, .unset, .unset] [(.int (32 : Int32)), (.int v137)]) := fun t k => pre140 t (by
    refine XS.iloadN X134.here hx rfl (hb hby at_227) rfl ?_
    show Steps p.tables e below (T134.setTop (mkF m 228 #[vI p0, vI p1, vR b2, vI v137, vI v140, .unset, .unset, .unset, .unset, .unset, .unset, .unset] [(.int v137)])) _
    refine XS.bipush X134.here hx rfl (hb hby at_228) ?_
    show Steps p.tables e below (T134.setTop (mkF m 230 #[vI p0, vI p1, vR b2, vI v137, vI v140, .unset, .unset, .unset, .unset, .unset, .unset, .unset] [(.int (32 : Int32)), (.int v137)])) _
    exact k)
  refine cps (A := ∃ (j245_s0_147 : Int32), (((j245_s0_147 = (2147483647 : Int32)) ∧ (v137 = (32 : Int32))) ∨ ((j245_s0_147 = ((own_xs.getD ((v137 + (1 : Int32))).toNatClampNeg 0) - (1 : Int32))) ∧ (¬ (v137 = (32 : Int32))))) ∧ (Go p.tables e below S0 T134 (mkF m 245 #[vI p0, vI p1, vR b2, vI v137, vI v140, .unset, .unset, .unset, .unset, .unset, .unset, .unset] [(.int j245_s0_147)]))) (fun tail150 => ?_) ?_
  · skip
    by_cases c230_142 : v137 = (32 : Int32)
    · skip
      have pre143 : Go p.tables e below S0 T134 (mkF m 245 #[vI p0, vI p1, vR b2, vI v137, vI v140, .unset, .unset, .unset, .unset, .unset, .unset, .unset] [(.int (2147483647 : Int32))]) := fun t k => pre141 t (by
        refine XS.icmpNo X134.here hx rfl (hb hby at_230) rfl (teq c230_142).2 ?_
        show Steps p.tables e below (T134.setTop (mkF m 233 #[vI p0, vI p1, vR b2, vI v137, vI v140, .unset, .unset, .unset, .unset, .unset, .unset, .unset] [])) _
        refine X134.ldcInt hx hown (mvT hZ (hw _ (List.mem_of_getElem? (i := 9) rfl))) (g := (mkF m 233 #[vI p0, vI p1, vR b2, vI v137, vI v140, .unset, .unset, .unset, .unset, .unset, .unset, .unset] [])) rfl (hb hby at_233) _ ?_
        show Steps p.tables e below (T134.setTop (mkF m 235 #[vI p0, vI p1, vR b2, vI v137, vI v140, .unset, .unset, .unset, .unset, .unset, .unset, .unset] [(.int (2147483647 : Int32))])) _
        refine XS.goto X134.here hx rfl (pc0 := 235) (pc' := 245) rfl (hb hby at_235) (by decide) (by decide) ?_
        show Steps p.tables e below (T134.setTop (mkF m 245 #[vI p0, vI p1, vR b2, vI v137, vI v140, .unset, .unset, .unset, .unset, .unset, .unset, .unset] [(.int (2147483647 : Int32))])) _
        exact k)
      exact tail150 ⟨(2147483647 : Int32), (Or.inl ⟨rfl, c230_142⟩), pre143⟩
    · skip
      have pre144 : Go p.tables e below S0 T134 (mkF m 242 #[vI p0, vI p1, vR b2, vI v137, vI v140, .unset, .unset, .unset, .unset, .unset, .unset, .unset] [(.int (v137 + (1 : Int32))), (.ref b2)]) := fun t k => pre141 t (by
        refine XS.icmpYes X134.here hx rfl (pc0 := 230) (pc' := 238) rfl (hb hby at_230) rfl (feq c230_142).2 (by decide) (by decide) ?_
        show Steps p.tables e below (T134.setTop (mkF m 238 #[vI p0, vI p1, vR b2, vI v137, vI v140, .unset, .unset, .unset, .unset, .unset, .unset, .unset] [])) _
        refine XS.aloadN X134.here hx rfl (hb hby at_238) rfl rfl ?_
        show Steps p.tables e below (T134.setTop (mkF m 239 #[vI p0, vI p1, vR b2, vI v137, vI v140, .unset, .unset, .unset, .unset, .unset, .unset, .unset] [(.ref b2)])) _
        refine XS.iloadN X134.here hx rfl (hb hby at_239) rfl ?_
        show Steps p.tables e below (T134.setTop (mkF m 240 #[vI p0, vI p1, vR b2, vI v137, vI v140, .unset, .unset, .unset, .unset, .unset, .unset, .unset] [(.int v137), (.ref b2)])) _
        refine XS.iconst X134.here hx rfl (hb hby at_240) ?_
        show Steps p.tables e below (T134.setTop (mkF m 241 #[vI p0, vI p1, vR b2, vI v137, vI v140, .unset, .unset, .unset, .unset, .unset, .unset, .unset] [(.int (1 : Int32)), (.int v137), (.ref b2)])) _
        refine XS.iadd X134.here hx rfl (hb hby at_241) rfl ?_
        show Steps p.tables e below (T134.setTop (mkF m 242 #[vI p0, vI p1, vR b2, vI v137, vI v140, .unset, .unset, .unset, .unset, .unset, .unset, .unset] [(.int (v137 + (1 : Int32))), (.ref b2)])) _
        exact k)
      obtain ⟨cl145, Ar145, q145, S145, M145, H145, G145⟩ := id av134
      have in145 : ¬ ((v137 + (1 : Int32)) < 0 ∨ cl145.slots.size ≤ ((v137 + (1 : Int32))).toNatClampNeg) := inb_of S145 (own_in1 ix c230_142)
      have at145 : cl145.slots[((v137 + (1 : Int32))).toNatClampNeg]? = some (.int (own_xs.getD ((v137 + (1 : Int32))).toNatClampNeg 0)) := H145.at in145 (own_getI own_xs _)
      have pre146 : Go p.tables e below S0 T134 (mkF m 245 #[vI p0, vI p1, vR b2, vI v137, vI v140, .unset, .unset, .unset, .unset, .unset, .unset, .unset] [(.int ((own_xs.getD ((v137 + (1 : Int32))).toNatClampNeg 0) - (1 : Int32)))]) := fun t k => pre144 t (by
        refine X134.iaload hx (j := (v137 + (1 : Int32))) (v := (.int (own_xs.getD ((v137 + (1 : Int32))).toNatClampNeg 0))) (by rw [e134]; exact Ar145.1) (State.isArrayOf_alike hZ.alike Ar145.2.1) Ar145.2.2 in145 at145 (g := (mkF m 242 #[vI p0, vI p1, vR b2, vI v137, vI v140, .unset, .unset, .unset, .unset, .unset, .unset, .unset] [(.int (v137 + (1 : Int32))), (.ref b2)])) rfl rfl (hb hby at_242) _ ?_
        show Steps p.tables e below (T134.setTop (mkF m 243 #[vI p0, vI p1, vR b2, vI v137, vI v140, .unset, .unset, .unset, .unset, .unset, .unset, .unset] [(.int (own_xs.getD ((v137 + (1 : Int32))).toNatClampNeg 0))])) _
        refine XS.iconst X134.here hx rfl (hb hby at_243) ?_
        show Steps p.tables e below (T134.setTop (mkF m 244 #[vI p0, vI p1, vR b2, vI v137, vI v140, .unset, .unset, .unset, .unset, .unset, .unset, .unset] [(.int (1 : Int32)), (.int (own_xs.getD ((v137 + (1 : Int32))).toNatClampNeg 0))])) _
        refine XS.isub X134.here hx rfl (hb hby at_244) rfl ?_
        show Steps p.tables e below (T134.setTop (mkF m 245 #[vI p0, vI p1, vR b2, vI v137, vI v140, .unset, .unset, .unset, .unset, .unset, .unset, .unset] [(.int ((own_xs.getD ((v137 + (1 : Int32))).toNatClampNeg 0) - (1 : Int32)))])) _
        exact k)
      exact tail150 ⟨((own_xs.getD ((v137 + (1 : Int32))).toNatClampNeg 0) - (1 : Int32)), (Or.inr ⟨rfl, c230_142⟩), pre146⟩
  rintro ⟨j245_s0_147, hj245_148, pre149⟩
  obtain ⟨v151, hv151, pre151⟩ : ∃ z : Int64, z = (((j245_s0_147.toInt64) - (v140.toInt64)) + (1 : Int64)) ∧ Go p.tables e below S0 T134 (mkF m 258 #[vI p0, vI p1, vR b2, vI v137, vI v140, vI j245_s0_147, vJ z, .second, .unset, .unset, .unset, .unset] []) := ⟨_, rfl, fun t k => pre149 t (by
    refine XS.istore X134.here hx rfl (hb hby at_245) rfl (l' := #[vI p0, vI p1, vR b2, vI v137, vI v140, vI j245_s0_147, .unset, .unset, .unset, .unset, .unset, .unset]) rfl ?_
    show Steps p.tables e below (T134.setTop (mkF m 247 #[vI p0, vI p1, vR b2, vI v137, vI v140, vI j245_s0_147, .unset, .unset, .unset, .unset, .unset, .unset] [])) _
    refine XS.iload X134.here hx rfl (hb hby at_247) rfl ?_
    show Steps p.tables e below (T134.setTop (mkF m 249 #[vI p0, vI p1, vR b2, vI v137, vI v140, vI j245_s0_147, .unset, .unset, .unset, .unset, .unset, .unset] [(.int j245_s0_147)])) _
    refine XS.i2l X134.here hx rfl (hb hby at_249) rfl ?_
    show Steps p.tables e below (T134.setTop (mkF m 250 #[vI p0, vI p1, vR b2, vI v137, vI v140, vI j245_s0_147, .unset, .unset, .unset, .unset, .unset, .unset] [(.long (j245_s0_147.toInt64))])) _
    refine XS.iload X134.here hx rfl (hb hby at_250) rfl ?_
    show Steps p.tables e below (T134.setTop (mkF m 252 #[vI p0, vI p1, vR b2, vI v137, vI v140, vI j245_s0_147, .unset, .unset, .unset, .unset, .unset, .unset] [(.int v140), (.long (j245_s0_147.toInt64))])) _
    refine XS.i2l X134.here hx rfl (hb hby at_252) rfl ?_
    show Steps p.tables e below (T134.setTop (mkF m 253 #[vI p0, vI p1, vR b2, vI v137, vI v140, vI j245_s0_147, .unset, .unset, .unset, .unset, .unset, .unset] [(.long (v140.toInt64)), (.long (j245_s0_147.toInt64))])) _
    refine XS.lsub X134.here hx rfl (hb hby at_253) rfl ?_
    show Steps p.tables e below (T134.setTop (mkF m 254 #[vI p0, vI p1, vR b2, vI v137, vI v140, vI j245_s0_147, .unset, .unset, .unset, .unset, .unset, .unset] [(.long ((j245_s0_147.toInt64) - (v140.toInt64)))])) _
    refine XS.lconst X134.here hx rfl (hb hby at_254) ?_
    show Steps p.tables e below (T134.setTop (mkF m 255 #[vI p0, vI p1, vR b2, vI v137, vI v140, vI j245_s0_147, .unset, .unset, .unset, .unset, .unset, .unset] [(.long (1 : Int64)), (.long ((j245_s0_147.toInt64) - (v140.toInt64)))])) _
    refine XS.ladd X134.here hx rfl (hb hby at_255) rfl ?_
    show Steps p.tables e below (T134.setTop (mkF m 256 #[vI p0, vI p1, vR b2, vI v137, vI v140, vI j245_s0_147, .unset, .unset, .unset, .unset, .unset, .unset] [(.long (((j245_s0_147.toInt64) - (v140.toInt64)) + (1 : Int64)))])) _
    refine XS.lstore X134.here hx rfl (hb hby at_256) rfl (l' := #[vI p0, vI p1, vR b2, vI v137, vI v140, vI j245_s0_147, vJ (((j245_s0_147.toInt64) - (v140.toInt64)) + (1 : Int64)), .second, .unset, .unset, .unset, .unset]) rfl ?_
    show Steps p.tables e below (T134.setTop (mkF m 258 #[vI p0, vI p1, vR b2, vI v137, vI v140, vI j245_s0_147, vJ (((j245_s0_147.toInt64) - (v140.toInt64)) + (1 : Int64)), .second, .unset, .unset, .unset, .unset] [])) _
    exact k)⟩
  have le := own_le ix hv140 hj245_148
  have l1 := own_len le hv151
  have lnz := own_lnz l1 (by omega)
  have pre152 : Go p.tables e below S0 T134 (mkF m 266 #[vI p0, vI p1, vR b2, vI v137, vI v140, vI j245_s0_147, vJ v151, .second, .unset, .unset, .unset, .unset] [(.long v151), (.long ((p1.toInt64) &&& (4294967295 : Int64)))]) := fun t k => pre151 t (by
    refine XS.iloadN X134.here hx rfl (hb hby at_258) rfl ?_
    show Steps p.tables e below (T134.setTop (mkF m 259 #[vI p0, vI p1, vR b2, vI v137, vI v140, vI j245_s0_147, vJ v151, .second, .unset, .unset, .unset, .unset] [(.int p1)])) _
    refine XS.i2l X134.here hx rfl (hb hby at_259) rfl ?_
    show Steps p.tables e below (T134.setTop (mkF m 260 #[vI p0, vI p1, vR b2, vI v137, vI v140, vI j245_s0_147, vJ v151, .second, .unset, .unset, .unset, .unset] [(.long (p1.toInt64))])) _
    refine X134.ldc2Long hx hown (mvT hZ (hw _ (List.mem_of_getElem? (i := 10) rfl))) (g := (mkF m 260 #[vI p0, vI p1, vR b2, vI v137, vI v140, vI j245_s0_147, vJ v151, .second, .unset, .unset, .unset, .unset] [(.long (p1.toInt64))])) rfl (hb hby at_260) _ ?_
    show Steps p.tables e below (T134.setTop (mkF m 263 #[vI p0, vI p1, vR b2, vI v137, vI v140, vI j245_s0_147, vJ v151, .second, .unset, .unset, .unset, .unset] [(.long (4294967295 : Int64)), (.long (p1.toInt64))])) _
    refine XS.land X134.here hx rfl (hb hby at_263) rfl ?_
    show Steps p.tables e below (T134.setTop (mkF m 264 #[vI p0, vI p1, vR b2, vI v137, vI v140, vI j245_s0_147, vJ v151, .second, .unset, .unset, .unset, .unset] [(.long ((p1.toInt64) &&& (4294967295 : Int64)))])) _
    refine XS.lload X134.here hx rfl (hb hby at_264) rfl ?_
    show Steps p.tables e below (T134.setTop (mkF m 266 #[vI p0, vI p1, vR b2, vI v137, vI v140, vI j245_s0_147, vJ v151, .second, .unset, .unset, .unset, .unset] [(.long v151), (.long ((p1.toInt64) &&& (4294967295 : Int64)))])) _
    exact k)
  have nz153 : v151 ≠ 0 := lnz
  obtain ⟨v154, hv154, pre154⟩ : ∃ z : Int64, z = (((p1.toInt64) &&& (4294967295 : Int64)) % v151) ∧ Go p.tables e below S0 T134 (mkF m 269 #[vI p0, vI p1, vR b2, vI v137, vI v140, vI j245_s0_147, vJ v151, .second, vJ z, .second, .unset, .unset] []) := ⟨_, rfl, fun t k => pre152 t (by
    refine lremM X134 hx rfl (hb hby at_266) rfl nz153 ?_
    show Steps p.tables e below (T134.setTop (mkF m 267 #[vI p0, vI p1, vR b2, vI v137, vI v140, vI j245_s0_147, vJ v151, .second, .unset, .unset, .unset, .unset] [(.long (((p1.toInt64) &&& (4294967295 : Int64)) % v151))])) _
    refine XS.lstore X134.here hx rfl (hb hby at_267) rfl (l' := #[vI p0, vI p1, vR b2, vI v137, vI v140, vI j245_s0_147, vJ v151, .second, vJ (((p1.toInt64) &&& (4294967295 : Int64)) % v151), .second, .unset, .unset]) rfl ?_
    show Steps p.tables e below (T134.setTop (mkF m 269 #[vI p0, vI p1, vR b2, vI v137, vI v140, vI j245_s0_147, vJ v151, .second, vJ (((p1.toInt64) &&& (4294967295 : Int64)) % v151), .second, .unset, .unset] [])) _
    exact k)⟩
  obtain ⟨v155, hv155, pre155⟩ : ∃ z : Int32, z = (((v140.toInt64) + v154).toInt32) ∧ Go p.tables e below S0 T134 (mkF m 278 #[vI p0, vI p1, vR b2, vI v137, vI v140, vI j245_s0_147, vJ v151, .second, vJ v154, .second, vI z, .unset] []) := ⟨_, rfl, fun t k => pre154 t (by
    refine XS.iload X134.here hx rfl (hb hby at_269) rfl ?_
    show Steps p.tables e below (T134.setTop (mkF m 271 #[vI p0, vI p1, vR b2, vI v137, vI v140, vI j245_s0_147, vJ v151, .second, vJ v154, .second, .unset, .unset] [(.int v140)])) _
    refine XS.i2l X134.here hx rfl (hb hby at_271) rfl ?_
    show Steps p.tables e below (T134.setTop (mkF m 272 #[vI p0, vI p1, vR b2, vI v137, vI v140, vI j245_s0_147, vJ v151, .second, vJ v154, .second, .unset, .unset] [(.long (v140.toInt64))])) _
    refine XS.lload X134.here hx rfl (hb hby at_272) rfl ?_
    show Steps p.tables e below (T134.setTop (mkF m 274 #[vI p0, vI p1, vR b2, vI v137, vI v140, vI j245_s0_147, vJ v151, .second, vJ v154, .second, .unset, .unset] [(.long v154), (.long (v140.toInt64))])) _
    refine XS.ladd X134.here hx rfl (hb hby at_274) rfl ?_
    show Steps p.tables e below (T134.setTop (mkF m 275 #[vI p0, vI p1, vR b2, vI v137, vI v140, vI j245_s0_147, vJ v151, .second, vJ v154, .second, .unset, .unset] [(.long ((v140.toInt64) + v154))])) _
    refine XS.l2i X134.here hx rfl (hb hby at_275) rfl ?_
    show Steps p.tables e below (T134.setTop (mkF m 276 #[vI p0, vI p1, vR b2, vI v137, vI v140, vI j245_s0_147, vJ v151, .second, vJ v154, .second, .unset, .unset] [(.int (((v140.toInt64) + v154).toInt32))])) _
    refine XS.istore X134.here hx rfl (hb hby at_276) rfl (l' := #[vI p0, vI p1, vR b2, vI v137, vI v140, vI j245_s0_147, vJ v151, .second, vJ v154, .second, vI (((v140.toInt64) + v154).toInt32), .unset]) rfl ?_
    show Steps p.tables e below (T134.setTop (mkF m 278 #[vI p0, vI p1, vR b2, vI v137, vI v140, vI j245_s0_147, vJ v151, .second, vJ v154, .second, vI (((v140.toInt64) + v154).toInt32), .unset] [])) _
    exact k)⟩
  have cc := own_c le l1 hv154 hv155
  have pre156 : Go p.tables e below S0 T134 (mkF m 282 #[vI p0, vI p1, vR b2, vI v137, vI v140, vI j245_s0_147, vJ v151, .second, vJ v154, .second, vI v155, .unset] [(.int (1 : Int32)), (.int (v137 &&& (1 : Int32)))]) := fun t k => pre155 t (by
    refine XS.iloadN X134.here hx rfl (hb hby at_278) rfl ?_
    show Steps p.tables e below (T134.setTop (mkF m 279 #[vI p0, vI p1, vR b2, vI v137, vI v140, vI j245_s0_147, vJ v151, .second, vJ v154, .second, vI v155, .unset] [(.int v137)])) _
    refine XS.iconst X134.here hx rfl (hb hby at_279) ?_
    show Steps p.tables e below (T134.setTop (mkF m 280 #[vI p0, vI p1, vR b2, vI v137, vI v140, vI j245_s0_147, vJ v151, .second, vJ v154, .second, vI v155, .unset] [(.int (1 : Int32)), (.int v137)])) _
    refine XS.iand X134.here hx rfl (hb hby at_280) rfl ?_
    show Steps p.tables e below (T134.setTop (mkF m 281 #[vI p0, vI p1, vR b2, vI v137, vI v140, vI j245_s0_147, vJ v151, .second, vJ v154, .second, vI v155, .unset] [(.int (v137 &&& (1 : Int32)))])) _
    refine XS.iconst X134.here hx rfl (hb hby at_281) ?_
    show Steps p.tables e below (T134.setTop (mkF m 282 #[vI p0, vI p1, vR b2, vI v137, vI v140, vI j245_s0_147, vJ v151, .second, vJ v154, .second, vI v155, .unset] [(.int (1 : Int32)), (.int (v137 &&& (1 : Int32)))])) _
    exact k)
  refine cps (A := ∃ (j290_s0_160 : Int32), (((j290_s0_160 = (1 : Int32)) ∧ ((v137 &&& (1 : Int32)) = (1 : Int32))) ∨ ((j290_s0_160 = (0 : Int32)) ∧ (¬ ((v137 &&& (1 : Int32)) = (1 : Int32))))) ∧ (Go p.tables e below S0 T134 (mkF m 290 #[vI p0, vI p1, vR b2, vI v137, vI v140, vI j245_s0_147, vJ v151, .second, vJ v154, .second, vI v155, .unset] [(.int j290_s0_160)]))) (fun tail163 => ?_) ?_
  · skip
    by_cases c282_157 : (v137 &&& (1 : Int32)) = (1 : Int32)
    · skip
      have pre158 : Go p.tables e below S0 T134 (mkF m 290 #[vI p0, vI p1, vR b2, vI v137, vI v140, vI j245_s0_147, vJ v151, .second, vJ v154, .second, vI v155, .unset] [(.int (1 : Int32))]) := fun t k => pre156 t (by
        refine XS.icmpNo X134.here hx rfl (hb hby at_282) rfl (teq c282_157).2 ?_
        show Steps p.tables e below (T134.setTop (mkF m 285 #[vI p0, vI p1, vR b2, vI v137, vI v140, vI j245_s0_147, vJ v151, .second, vJ v154, .second, vI v155, .unset] [])) _
        refine XS.iconst X134.here hx rfl (hb hby at_285) ?_
        show Steps p.tables e below (T134.setTop (mkF m 286 #[vI p0, vI p1, vR b2, vI v137, vI v140, vI j245_s0_147, vJ v151, .second, vJ v154, .second, vI v155, .unset] [(.int (1 : Int32))])) _
        refine XS.goto X134.here hx rfl (pc0 := 286) (pc' := 290) rfl (hb hby at_286) (by decide) (by decide) ?_
        show Steps p.tables e below (T134.setTop (mkF m 290 #[vI p0, vI p1, vR b2, vI v137, vI v140, vI j245_s0_147, vJ v151, .second, vJ v154, .second, vI v155, .unset] [(.int (1 : Int32))])) _
        exact k)
      exact tail163 ⟨(1 : Int32), (Or.inl ⟨rfl, c282_157⟩), pre158⟩
    · skip
      have pre159 : Go p.tables e below S0 T134 (mkF m 290 #[vI p0, vI p1, vR b2, vI v137, vI v140, vI j245_s0_147, vJ v151, .second, vJ v154, .second, vI v155, .unset] [(.int (0 : Int32))]) := fun t k => pre156 t (by
        refine XS.icmpYes X134.here hx rfl (pc0 := 282) (pc' := 289) rfl (hb hby at_282) rfl (feq c282_157).2 (by decide) (by decide) ?_
        show Steps p.tables e below (T134.setTop (mkF m 289 #[vI p0, vI p1, vR b2, vI v137, vI v140, vI j245_s0_147, vJ v151, .second, vJ v154, .second, vI v155, .unset] [])) _
        refine XS.iconst X134.here hx rfl (hb hby at_289) ?_
        show Steps p.tables e below (T134.setTop (mkF m 290 #[vI p0, vI p1, vR b2, vI v137, vI v140, vI j245_s0_147, vJ v151, .second, vJ v154, .second, vI v155, .unset] [(.int (0 : Int32))])) _
        exact k)
      exact tail163 ⟨(0 : Int32), (Or.inr ⟨rfl, c282_157⟩), pre159⟩
  rintro ⟨j290_s0_160, hj290_161, pre162⟩
  have sg := own_seg ix hv140 hj245_148 hj290_161
  have pre164 : Go p.tables e below S0 T134 (mkF m 294 #[vI p0, vI p1, vR b2, vI v137, vI v140, vI j245_s0_147, vJ v151, .second, vJ v154, .second, vI v155, vI j290_s0_160] [(.int v140)]) := fun t k => pre162 t (by
    refine XS.istore X134.here hx rfl (hb hby at_290) rfl (l' := #[vI p0, vI p1, vR b2, vI v137, vI v140, vI j245_s0_147, vJ v151, .second, vJ v154, .second, vI v155, vI j290_s0_160]) rfl ?_
    show Steps p.tables e below (T134.setTop (mkF m 292 #[vI p0, vI p1, vR b2, vI v137, vI v140, vI j245_s0_147, vJ v151, .second, vJ v154, .second, vI v155, vI j290_s0_160] [])) _
    refine XS.iload X134.here hx rfl (hb hby at_292) rfl ?_
    show Steps p.tables e below (T134.setTop (mkF m 294 #[vI p0, vI p1, vR b2, vI v137, vI v140, vI j245_s0_147, vJ v151, .second, vJ v154, .second, vI v155, vI j290_s0_160] [(.int v140)])) _
    exact k)
  obtain ⟨_, _, ⟨T165, qL165, qk165, qn165⟩, -, X165, ⟨Lc165, hQ165, ql165, qy165, qz165⟩, st165⟩ := Jvm.LawKit.callS X134 hx (y := (⟨"com/example/ratatoskr/ratatoskr/xml/XmlChars", "isNameStart", "(I)Z"⟩ : MethodName)) hown (mvT hZ (hw _ (List.mem_of_getElem? (i := 11) rfl))) (mvT hZ (hw _ (List.mem_of_getElem? (i := 12) rfl))) (mvT hZ (hw _ (List.mem_of_getElem? (i := 13) rfl))) (mvT hZ (hw _ (List.mem_of_getElem? (i := 14) rfl))) (by decide) (backOf (W := 0) (rm1 l Z A0 hw [] v140 h134 n0 zz136) hZ (hw _ (List.mem_of_getElem? (i := 14) rfl)) (hw _ (List.mem_of_getElem? (i := 13) rfl)) (by decide) (by decide)) (g := (mkF m 294 #[vI p0, vI p1, vR b2, vI v137, vI v140, vI j245_s0_147, vJ v151, .second, vJ v154, .second, vI v155, vI j290_s0_160] [(.int v140)])) rfl (by rw [hml]; rfl) (argsL := [(.int v140)]) (rest := []) (lenOf pd_0 rfl) rfl (by show 2 * 0 + _ ≤ _; exact Nat.le_of_eq rfl) (hb hby at_294) (fun _ _ => ⟨rfl, e134, (by decide : 1 + 0 ≤ _), (by decide : 33 + 0 ≤ _)⟩)
  dsimp only [Pt.U, Pt.locs, Pt.cells, Pt.slots] at X165 ql165 qy165 qz165 st165 hQ165
  replace X165 := X165.more (Nat.le_of_eq qy165) (Nat.le_of_eq qz165)
  obtain ⟨rfl, Nq165, eq165⟩ := hQ165
  have N165 : Fr n0 qL165 := by rw [ql165]; exact Fr.app N134 Nq165
  have pre165 : Go p.tables e below S0 T165 (mkF m 297 #[vI p0, vI p1, vR b2, vI v137, vI v140, vI j245_s0_147, vJ v151, .second, vJ v154, .second, vI v155, vI j290_s0_160] [(.int (own_ns v140))]) := fun t k => pre164 t (st165 t k)
  have pre166 : Go p.tables e below S0 T165 (mkF m 299 #[vI p0, vI p1, vR b2, vI v137, vI v140, vI j245_s0_147, vJ v151, .second, vJ v154, .second, vI v155, vI j290_s0_160] [(.int j290_s0_160), (.int (own_ns v140))]) := fun t k => pre165 t (by
    refine XS.iload X165.here hx rfl (hb hby at_297) rfl ?_
    show Steps p.tables e below (T165.setTop (mkF m 299 #[vI p0, vI p1, vR b2, vI v137, vI v140, vI j245_s0_147, vJ v151, .second, vJ v154, .second, vI v155, vI j290_s0_160] [(.int j290_s0_160), (.int (own_ns v140))])) _
    exact k)
  have cc167 : (own_ns v140) = j290_s0_160 := sg _ (Int.le_refl _) le
  have pre168 : Go p.tables e below S0 T165 (mkF m 304 #[vI p0, vI p1, vR b2, vI v137, vI v140, vI j245_s0_147, vJ v151, .second, vJ v154, .second, vI v155, vI j290_s0_160] [(.int j245_s0_147)]) := fun t k => pre166 t (by
    refine XS.icmpNo X165.here hx rfl (hb hby at_299) rfl (teq cc167).2 ?_
    show Steps p.tables e below (T165.setTop (mkF m 302 #[vI p0, vI p1, vR b2, vI v137, vI v140, vI j245_s0_147, vJ v151, .second, vJ v154, .second, vI v155, vI j290_s0_160] [])) _
    refine XS.iload X165.here hx rfl (hb hby at_302) rfl ?_
    show Steps p.tables e below (T165.setTop (mkF m 304 #[vI p0, vI p1, vR b2, vI v137, vI v140, vI j245_s0_147, vJ v151, .second, vJ v154, .second, vI v155, vI j290_s0_160] [(.int j245_s0_147)])) _
    exact k)
  obtain ⟨_, _, ⟨T169, qL169, qk169, qn169⟩, -, X169, ⟨Lc169, hQ169, ql169, qy169, qz169⟩, st169⟩ := Jvm.LawKit.callS X165 hx (y := (⟨"com/example/ratatoskr/ratatoskr/xml/XmlChars", "isNameStart", "(I)Z"⟩ : MethodName)) hown (mvT hZ (hw _ (List.mem_of_getElem? (i := 11) rfl))) (mvT hZ (hw _ (List.mem_of_getElem? (i := 12) rfl))) (mvT hZ (hw _ (List.mem_of_getElem? (i := 13) rfl))) (mvT hZ (hw _ (List.mem_of_getElem? (i := 14) rfl))) (by decide) (backOf (W := 0) (rm1 l Z A0 hw [] j245_s0_147 h134 n0 zz136) hZ (hw _ (List.mem_of_getElem? (i := 14) rfl)) (hw _ (List.mem_of_getElem? (i := 13) rfl)) (by decide) (by decide)) (g := (mkF m 304 #[vI p0, vI p1, vR b2, vI v137, vI v140, vI j245_s0_147, vJ v151, .second, vJ v154, .second, vI v155, vI j290_s0_160] [(.int j245_s0_147)])) rfl (by rw [hml]; rfl) (argsL := [(.int j245_s0_147)]) (rest := []) (lenOf pd_0 rfl) rfl (by show 2 * 0 + _ ≤ _; exact Nat.le_of_eq rfl) (hb hby at_304) (fun _ _ => ⟨rfl, eq165, (by decide : 1 + 0 ≤ _), (by decide : 33 + 0 ≤ _)⟩)
  dsimp only [Pt.U, Pt.locs, Pt.cells, Pt.slots] at X169 ql169 qy169 qz169 st169 hQ169
  replace X169 := X169.more (Nat.le_of_eq qy169) (Nat.le_of_eq qz169)
  obtain ⟨rfl, Nq169, eq169⟩ := hQ169
  have N169 : Fr n0 qL169 := by rw [ql169]; exact Fr.app N165 Nq169
  have pre169 : Go p.tables e below S0 T169 (mkF m 307 #[vI p0, vI p1, vR b2, vI v137, vI v140, vI j245_s0_147, vJ v151, .second, vJ v154, .second, vI v155, vI j290_s0_160] [(.int (own_ns j245_s0_147))]) := fun t k => pre168 t (st169 t k)
  have pre170 : Go p.tables e below S0 T169 (mkF m 309 #[vI p0, vI p1, vR b2, vI v137, vI v140, vI j245_s0_147, vJ v151, .second, vJ v154, .second, vI v155, vI j290_s0_160] [(.int j290_s0_160), (.int (own_ns j245_s0_147))]) := fun t k => pre169 t (by
    refine XS.iload X169.here hx rfl (hb hby at_307) rfl ?_
    show Steps p.tables e below (T169.setTop (mkF m 309 #[vI p0, vI p1, vR b2, vI v137, vI v140, vI j245_s0_147, vJ v151, .second, vJ v154, .second, vI v155, vI j290_s0_160] [(.int j290_s0_160), (.int (own_ns j245_s0_147))])) _
    exact k)
  have cc171 : (own_ns j245_s0_147) = j290_s0_160 := sg _ le (Int.le_refl _)
  have pre172 : Go p.tables e below S0 T169 (mkF m 314 #[vI p0, vI p1, vR b2, vI v137, vI v140, vI j245_s0_147, vJ v151, .second, vJ v154, .second, vI v155, vI j290_s0_160] [(.int v155)]) := fun t k => pre170 t (by
    refine XS.icmpNo X169.here hx rfl (hb hby at_309) rfl (teq cc171).2 ?_
    show Steps p.tables e below (T169.setTop (mkF m 312 #[vI p0, vI p1, vR b2, vI v137, vI v140, vI j245_s0_147, vJ v151, .second, vJ v154, .second, vI v155, vI j290_s0_160] [])) _
    refine XS.iload X169.here hx rfl (hb hby at_312) rfl ?_
    show Steps p.tables e below (T169.setTop (mkF m 314 #[vI p0, vI p1, vR b2, vI v137, vI v140, vI j245_s0_147, vJ v151, .second, vJ v154, .second, vI v155, vI j290_s0_160] [(.int v155)])) _
    exact k)
  obtain ⟨_, _, ⟨T173, qL173, qk173, qn173⟩, -, X173, ⟨Lc173, hQ173, ql173, qy173, qz173⟩, st173⟩ := Jvm.LawKit.callS X169 hx (y := (⟨"com/example/ratatoskr/ratatoskr/xml/XmlChars", "isNameStart", "(I)Z"⟩ : MethodName)) hown (mvT hZ (hw _ (List.mem_of_getElem? (i := 11) rfl))) (mvT hZ (hw _ (List.mem_of_getElem? (i := 12) rfl))) (mvT hZ (hw _ (List.mem_of_getElem? (i := 13) rfl))) (mvT hZ (hw _ (List.mem_of_getElem? (i := 14) rfl))) (by decide) (backOf (W := 0) (rm1 l Z A0 hw [] v155 h134 n0 zz136) hZ (hw _ (List.mem_of_getElem? (i := 14) rfl)) (hw _ (List.mem_of_getElem? (i := 13) rfl)) (by decide) (by decide)) (g := (mkF m 314 #[vI p0, vI p1, vR b2, vI v137, vI v140, vI j245_s0_147, vJ v151, .second, vJ v154, .second, vI v155, vI j290_s0_160] [(.int v155)])) rfl (by rw [hml]; rfl) (argsL := [(.int v155)]) (rest := []) (lenOf pd_0 rfl) rfl (by show 2 * 0 + _ ≤ _; exact Nat.le_of_eq rfl) (hb hby at_314) (fun _ _ => ⟨rfl, eq169, (by decide : 1 + 0 ≤ _), (by decide : 33 + 0 ≤ _)⟩)
  dsimp only [Pt.U, Pt.locs, Pt.cells, Pt.slots] at X173 ql173 qy173 qz173 st173 hQ173
  replace X173 := X173.more (Nat.le_of_eq qy173) (Nat.le_of_eq qz173)
  obtain ⟨rfl, Nq173, eq173⟩ := hQ173
  have N173 : Fr n0 qL173 := by rw [ql173]; exact Fr.app N169 Nq173
  have pre173 : Go p.tables e below S0 T173 (mkF m 317 #[vI p0, vI p1, vR b2, vI v137, vI v140, vI j245_s0_147, vJ v151, .second, vJ v154, .second, vI v155, vI j290_s0_160] [(.int (own_ns v155))]) := fun t k => pre172 t (st173 t k)
  have pre174 : Go p.tables e below S0 T173 (mkF m 319 #[vI p0, vI p1, vR b2, vI v137, vI v140, vI j245_s0_147, vJ v151, .second, vJ v154, .second, vI v155, vI j290_s0_160] [(.int j290_s0_160), (.int (own_ns v155))]) := fun t k => pre173 t (by
    refine XS.iload X173.here hx rfl (hb hby at_317) rfl ?_
    show Steps p.tables e below (T173.setTop (mkF m 319 #[vI p0, vI p1, vR b2, vI v137, vI v140, vI j245_s0_147, vJ v151, .second, vJ v154, .second, vI v155, vI j290_s0_160] [(.int j290_s0_160), (.int (own_ns v155))])) _
    exact k)
  have cc175 : (own_ns v155) = j290_s0_160 := sg _ cc.1 cc.2
  have pre176 : Go p.tables e below S0 T173 (mkF m 327 #[vI p0, vI p1, vR b2, vI v137, vI v140, vI j245_s0_147, vJ v151, .second, vJ v154, .second, vI v155, vI j290_s0_160] [(.int (1 : Int32))]) := fun t k => pre174 t (by
    refine XS.icmpNo X173.here hx rfl (hb hby at_319) rfl (teq cc175).2 ?_
    show Steps p.tables e below (T173.setTop (mkF m 322 #[vI p0, vI p1, vR b2, vI v137, vI v140, vI j245_s0_147, vJ v151, .second, vJ v154, .second, vI v155, vI j290_s0_160] [])) _
    refine XS.iconst X173.here hx rfl (hb hby at_322) ?_
    show Steps p.tables e below (T173.setTop (mkF m 323 #[vI p0, vI p1, vR b2, vI v137, vI v140, vI j245_s0_147, vJ v151, .second, vJ v154, .second, vI v155, vI j290_s0_160] [(.int (1 : Int32))])) _
    refine XS.goto X173.here hx rfl (pc0 := 323) (pc' := 327) rfl (hb hby at_323) (by decide) (by decide) ?_
    show Steps p.tables e below (T173.setTop (mkF m 327 #[vI p0, vI p1, vR b2, vI v137, vI v140, vI j245_s0_147, vJ v151, .second, vJ v154, .second, vI v155, vI j290_s0_160] [(.int (1 : Int32))])) _
    exact k)
  obtain ⟨fs, hr, hrun, hended, hW, hsame⟩ := X173.leave (v := some (.int (1 : Int32))) (fun h => by rw [Bd.returns] at h; cases h)
  exact ⟨_, _, pre176.fin hS0 (retN X173 hx (t := .boolean) Bd.returns (by simp) (hb hby at_327) hr), hrun, hended, _, _, rfl, (by
    show Q0 Z p0 p1 h0 n0 _ T173.heap _
    rw [eq173]
    exact ⟨rfl, N173⟩), ⟨_, rfl⟩, hW, hsame.mono (by decide) (by decide)⟩
set_option maxRecDepth 65536 in
set_option maxHeartbeats 40000000 in
theorem comes_1 {Post : Tables → Env → Array Value → State → Outcome → State → Prop} (hpost : ∀ tb e args s v u, (limb_1_1.after args s (.returned v) u = true ∧ limb_1_2.after args s (.returned v) u = true ∧ True) → FrameEnd s (.returned v) u (Jvm.fieldLocs frame_1_writes args s ++ Jvm.arrayLocs frame_1_arrays args s ++ Jvm.staticLocs frame_1_statics s) 16 192 → Post tb e args s (.returned v) u) :
    ArmFor flags0 classFile x code maxLocals ret World_1 tables_1 room_1 Calls_1 rest_1 Pre_1 Post := by
  intro l hfl _ _ p e ha hc hk s m args below hf hA hF happ hP
  obtain ⟨hcalls, hrest, hpre⟩ := hP
  obtain ⟨-, -, -, hnamed, -, -, -, hat⟩ := (Spec.applies_iff hf).mp happ
  obtain ⟨hg, hn⟩ := and_e (Cond.before_iff.mp (show (Jvm.Cond.and given_1 narrow_1).before args s = true from hpre))
  obtain ⟨g0, r0⟩ := and_e hg
  obtain ⟨g1, r1⟩ := and_e r0
  obtain ⟨w0, w1, rfl⟩ : ∃ w0 w1 : Value, args = #[w0, w1] := by
    have hs : args.size = 2 := by simpa [Cond.value, given_1] using g0
    obtain ⟨L⟩ := args
    match L, hs with
    | [w0, w1], _ => exact ⟨w0, w1, rfl⟩
  have hw := fun d (hd : d ∈ tables_1) => atoms_spec (ws := Jvm.Cond.code x code maxLocals ret :: tables_1) hat d (List.mem_cons_of_mem _ hd)
  obtain ⟨i0, ei0⟩ := is_v g1
  obtain rfl : w0 = (.int i0) := Option.some.inj ei0
  obtain ⟨i1, ei1⟩ := is_v r1
  obtain rfl : w1 = (.int i1) := Option.some.inj ei1
  obtain ⟨n, o, h1, h2, h3, _, L, rfl, ⟨rfl, N⟩, hq⟩ := rm0 l s _ hw tables_1 i0 i1  s.heap s.heap.size (Nat.le_refl _) p e ha hc hk s m _ below hf ((Spec.applies_iff_loose hf).mp happ).1 ⟨rfl, State.Warmed39.refl s, rfl⟩ trivial
  refine ⟨n, _, h1, h2, h3, hpost _ _ _ _ _ _ ⟨Cond.after_iff.mpr rfl, Cond.after_iff.mpr (eq_i res_at (Term.int_eval (1)) rfl), trivial⟩ ⟨hq.1, hq.2.1, (hq.2.2.sift fun y hy => Or.inr (N y hy)).mono (by decide) (by decide)⟩⟩
theorem main_1_1 : Claimed_1_1 := comes_1 fun _ _ _ _ _ _ h hF => ⟨h.1, hF⟩
theorem main_1_2 : Claimed_1_2 := comes_1 fun _ _ _ _ _ _ h hF => ⟨h.2.1, hF⟩
end Jvm.Pilot.@@N@@
namespace Jvm.Pilot.@@N@@
open Jvm Jvm.ClassFile Sem Op Lib Jvm.Free Jvm.Stand Jvm.Pilot.@@N@@.Jvm.D
/-! MADE BY PROGRAM (witnessworld.py) out of the Statement's table words and the real class files: 9 classes; the members and pool entries that the words name. The judged class is class 1, her method 1. -/
namespace start1
open Jvm.ClassFile
def u (s : String) : CpInfo := .utf8 (stringToUtf16 s)
/-- a pool by its gaps: so many unusable entries, then the entry; so many at the end -/
def gap : Nat → List CpInfo → List CpInfo
  | 0, r => r
  | n + 1, r => .unusable :: gap n r
def poolList (es : List (Nat × CpInfo)) (last : Nat) : List CpInfo := es.foldr (fun e r => gap e.1 (e.2 :: r)) (gap last [])
def pool (es : List (Nat × CpInfo)) (last : Nat) : Array CpInfo := ⟨poolList es last⟩
def fileOf (pool : Array CpInfo) (this : Nat) (attrs : Array Attribute := #[]) (ms : Array MethodInfo := #[]) (fl : Nat := 33) (sup : Nat := 0) (ifs : Array Nat := #[]) (fds : Array FieldInfo := #[]) : ClassFile where
  minorVersion := 0
  majorVersion := 65
  constantPool := pool
  accessFlags := fl
  thisClass := this
  superClass := sup
  interfaces := ifs
  fields := fds
  methods := ms
  attributes := attrs
def plain (name : String) (sup : Option ClassId) : Class where
  name := name
  kind := .ordinary
  loader := none
  accessFlags := 33
  super := sup
  interfaces := #[]
  cf := none
  fields := #[]
  methods := #[]
  instanceTypes := #[]
  staticTypes := #[]
  resolved := #[]
  callSites := []
  init := .initialized
  statics := none
  mirror := none

def pool0 : Array CpInfo := pool [(5, u "<init>"), (0, u "()V"), (1, .class_ 10), (1, u "java/lang/Object")] 113

def k0m0 : Method := { name := "<init>", desc := "()V", sig := { parameters := [], returnType := none }, accessFlags := 1, code := none }
/-- java/lang/Object -/
def k0 : Class := { plain "java/lang/Object" none with
  accessFlags := 33
  interfaces := #[]
  cf := some (fileOf pool0 8 #[] #[{ accessFlags := 1, nameIndex := 5, descriptorIndex := 6, attributes := #[] }] 33 0 #[] #[])
  fields := #[]
  methods := #[k0m0]
  instanceTypes := #[]
  staticTypes := #[]
  resolved := Array.replicate 124 none
  statics := none }

def pool1 : Array CpInfo := pool [(2, .class_ 4), (1, u "java/lang/Object"), (0, u "<init>"), (0, u "()V"), (2, .integer 2147483648), (0, .integer 55296), (0, .integer 63744), (0, .integer 64976), (0, .integer 65008), (0, .integer 65534), (0, .integer 65536), (0, .integer 983040), (0, .integer 2147483647), (0, .long 4294967295), (1, .methodref 21 22), (0, .class_ 23), (0, .nameAndType 24 25), (0, u "com/example/ratatoskr/ratatoskr/xml/XmlChars"), (0, u "isNameStart"), (0, u "(I)Z"), (0, .class_ 27), (0, u "com/example/ratatoskr/ratatoskr/xml/XmlCharsIsNameStartPinLaw"), (2, u "law"), (0, u "(II)Z")] 5

def k1m0 : Method := { name := "<init>", desc := "()V", sig := { parameters := [], returnType := none }, accessFlags := 2, code := none }
def k1c1 : Code := { maxStack := 4, maxLocals := 12, code := code, exceptionTable := #[], attributes := #[] }
def k1m1 : Method := { name := "law", desc := "(II)Z", sig := { parameters := [.int, .int], returnType := some .boolean }, accessFlags := 9, code := some k1c1 }
/-- com/example/ratatoskr/ratatoskr/xml/XmlCharsIsNameStartPinLaw -/
def k1 : Class := { plain "com/example/ratatoskr/ratatoskr/xml/XmlCharsIsNameStartPinLaw" (some 0) with
  accessFlags := 49
  interfaces := #[]
  cf := some (fileOf pool1 26 #[] #[{ accessFlags := 2, nameIndex := 5, descriptorIndex := 6, attributes := #[] }, { accessFlags := 9, nameIndex := 30, descriptorIndex := 31, attributes := #[] }] 49 2 #[] #[])
  fields := #[]
  methods := #[k1m0, k1m1]
  instanceTypes := #[]
  staticTypes := #[]
  resolved := Array.replicate 37 none
  statics := none }

def pool2 : Array CpInfo := pool [(2, .class_ 4), (1, u "java/lang/Object"), (0, u "<init>"), (0, u "()V"), (0, .integer 55295), (1, .integer 65533), (0, .integer 65536), (1, .integer 63744), (0, .integer 64975), (0, .integer 65008), (0, .integer 983039), (1, .class_ 19), (1, u "com/example/ratatoskr/ratatoskr/xml/XmlChars"), (0, u "isNameStart"), (0, u "(I)Z")] 8

def k2m0 : Method := { name := "<init>", desc := "()V", sig := { parameters := [], returnType := none }, accessFlags := 2, code := none }
def k2c1 : Code := { maxStack := 2, maxLocals := 1, code := prog_118_method_4_code, exceptionTable := #[], attributes := #[] }
def k2m1 : Method := { name := "isNameStart", desc := "(I)Z", sig := { parameters := [.int], returnType := some .boolean }, accessFlags := 9, code := some k2c1 }
/-- com/example/ratatoskr/ratatoskr/xml/XmlChars -/
def k2 : Class := { plain "com/example/ratatoskr/ratatoskr/xml/XmlChars" (some 0) with
  accessFlags := 33
  interfaces := #[]
  cf := some (fileOf pool2 17 #[] #[{ accessFlags := 2, nameIndex := 5, descriptorIndex := 6, attributes := #[] }, { accessFlags := 9, nameIndex := 20, descriptorIndex := 21, attributes := #[] }] 33 2 #[] #[])
  fields := #[]
  methods := #[k2m0, k2m1]
  instanceTypes := #[]
  staticTypes := #[]
  resolved := Array.replicate 30 none
  statics := none }

def pool3 : Array CpInfo := pool [(1, u "java/lang/Cloneable"), (0, .class_ 1), (0, u "java/lang/Object"), (0, .class_ 3)] 3

/-- java/lang/Cloneable -/
def k3 : Class := { plain "java/lang/Cloneable" (some 0) with
  accessFlags := 1537
  interfaces := #[]
  cf := some (fileOf pool3 2 #[] #[] 1537 4 #[] #[])
  fields := #[]
  methods := #[]
  instanceTypes := #[]
  staticTypes := #[]
  resolved := Array.replicate 8 none
  statics := none }

def pool4 : Array CpInfo := pool [(1, u "java/io/Serializable"), (0, .class_ 1), (0, u "java/lang/Object"), (0, .class_ 3)] 3

/-- java/io/Serializable -/
def k4 : Class := { plain "java/io/Serializable" (some 0) with
  accessFlags := 1537
  interfaces := #[]
  cf := some (fileOf pool4 2 #[] #[] 1537 4 #[] #[])
  fields := #[]
  methods := #[]
  instanceTypes := #[]
  staticTypes := #[]
  resolved := Array.replicate 8 none
  statics := none }

/-- the primitive byte -/
def k5 : Class := { plain "byte" none with kind := .primitive 'B', accessFlags := 0x411 }
/-- [B -/
def k6 : Class := { plain "[B" (some 0) with kind := .array 5 .byte, interfaces := #[3, 4], accessFlags := 1041 }

/-- the primitive int -/
def k7 : Class := { plain "int" none with kind := .primitive 'I', accessFlags := 0x411 }
/-- [I -/
def k8 : Class := { plain "[I" (some 0) with kind := .array 7 .int, interfaces := #[3, 4], accessFlags := 1041 }

def heap : Heap := #[]
def classes : Array Class := #[k0, k1, k2, k3, k4, k5, k6, k7, k8]
def interned : List (Array UInt16 × Addr) := []
def slotsUsed : Nat := 0
def theMethod : MethodId := ⟨1, 1⟩
def args0 : Array Value := #[.int 5, .int 6]
def aboutOver (below : List Frame) : State where
  vm := { classes := classes, interned := interned.toArray }
  heap := heap
  slotsUsed := slotsUsed
  threads := #[{ frames := .invoking theMethod args0 :: below }]
def below0 : List Frame := [.native { method := ⟨0, 0⟩, args := #[] }]
def about1 : State := aboutOver below0
def p0 : Program := .bare "" "" ""
def e0 : Env := launch0.env 0 0 0
theorem w_frames : about1.frames = Frame.invoking theMethod args0 :: below0 := rfl
set_option maxRecDepth 65536 in
theorem w_args : argsFit about1.vm theMethod args0 = true := by decide +kernel
set_option maxRecDepth 65536 in
theorem w_heap : heapFits about1 = true := by decide +kernel
set_option maxRecDepth 65536 in
theorem w_runnable : about1.curStatus? = some .runnable := by decide +kernel
set_option maxRecDepth 65536 in
theorem w_alone : about1.alone = true := by decide +kernel
set_option maxRecDepth 65536 in
theorem w_named : about1.methodNamed? x = some theMethod := by decide +kernel
set_option maxRecDepth 65536 in
theorem w_hears : about1.hears theMethod below0 = true := by decide +kernel
set_option maxRecDepth 65536 in
theorem w_ripe : about1.ripe theMethod args0 below0 = true := by decide +kernel
theorem w_running : about1.status = .running := rfl
set_option maxRecDepth 65536 in
theorem w_room : about1.hasRoom e0.platform room_1 = true :=
  launch0.hasRoom_least _ room_1 (by decide +kernel) (by decide +kernel) (by decide +kernel) (by decide +kernel) (by decide +kernel) (by decide +kernel)
theorem allAtoms_all (ts : List Jvm.Cond) (a : Array Jvm.Value) (st : Jvm.State) : (allAtoms ts).before a st = ts.all (fun c => c.before a st) := by
  induction ts with
  | nil => rfl
  | cons c t ih =>
    show (Jvm.Cond.and c (allAtoms t)).before a st = _
    rw [Jvm.Cond.before_and, ih, List.all_cons]
def words1 : List Jvm.Cond := Jvm.Cond.code x code maxLocals ret :: tables_1
/-- a 'code' word, met by the world's own term for the bytes: nothing is compared byte by byte -/
theorem code_word {y : MethodName} {bytes : ByteArray} {mx : Nat} {rt : Option FieldType} {a : Array Value} {s : State} {m : MethodId} {meth : Method} {c : Code} (h1 : s.methodNamed? y = some m) (h2 : s.vm.method? m = some meth) (h3 : meth.code = some c) (h4 : c.code = bytes)
    (h5 : (c.maxLocals == mx && c.exceptionTable.isEmpty && decide (c.maxStack ≤ mostOperands) && decide (meth.sig.returnType = rt) && !meth.locks && decide (parseMethodDescriptor y.desc = some meth.sig)) = true) : (Jvm.Cond.code y bytes mx rt).before a s = true := by
  simp only [Bool.and_eq_true, beq_iff_eq, Bool.not_eq_true', decide_eq_true_eq] at h5
  obtain ⟨⟨⟨⟨⟨g1, g2⟩, g3⟩, g4⟩, g5⟩, g6⟩ := h5
  simp [Cond.before, Cond.holds, Cond.value, h1, h2, h3, h4, g1, g2, g3, g4, g5, g6]
def isCode : Jvm.Cond → Bool
  | .code _ _ _ _ => true
  | _ => false
theorem all_split {L : List Jvm.Cond} {P : Jvm.Cond → Bool} (h1 : L.all (fun c => isCode c || P c) = true) (h2 : ∀ c ∈ L.filter isCode, P c = true) : L.all P = true := by
  refine List.all_eq_true.mpr fun c hc => ?_
  have h := List.all_eq_true.mp h1 c hc
  rcases Bool.eq_false_or_eq_true (isCode c) with hi | hi
  · exact h2 c (List.mem_filter.mpr ⟨hc, hi⟩)
  · simpa [hi] using h
set_option maxRecDepth 65536 in
theorem w_c0 : (Jvm.Cond.code x code maxLocals ret).before args0 about1 = true := code_word (m := ⟨1, 1⟩) (meth := k1m1) (c := k1c1) (by decide +kernel) rfl rfl rfl (by decide +kernel)
set_option maxRecDepth 65536 in
theorem w_c1 : (Jvm.Cond.code ({ cls := "com/example/ratatoskr/ratatoskr/xml/XmlChars", name := "isNameStart", desc := "(I)Z" } : Jvm.MethodName) prog_118_method_4_code (1 : Nat) (Option.some Jvm.ClassFile.FieldType.boolean)).before args0 about1 = true := code_word (m := ⟨2, 1⟩) (meth := k2m1) (c := k2c1) (by decide +kernel) rfl rfl rfl (by decide +kernel)
def codes1 : List Jvm.Cond := [Jvm.Cond.code x code maxLocals ret, Jvm.Cond.code ({ cls := "com/example/ratatoskr/ratatoskr/xml/XmlChars", name := "isNameStart", desc := "(I)Z" } : Jvm.MethodName) prog_118_method_4_code (1 : Nat) (Option.some Jvm.ClassFile.FieldType.boolean)]
set_option maxRecDepth 65536 in
theorem codes_eq : words1.filter isCode = codes1 := rfl
theorem w_codes : ∀ c ∈ words1.filter isCode, c.before args0 about1 = true := by
  rw [codes_eq]
  intro c hc
  simp only [codes1, List.mem_cons, List.not_mem_nil, or_false] at hc
  rcases hc with rfl | rfl
  · exact w_c0
  · exact w_c1
set_option maxRecDepth 65536 in
theorem w_t1 : words1.all (fun c => isCode c || c.before args0 about1) = true := by decide +kernel
theorem w_tables : (allAtoms (Jvm.Cond.code x code maxLocals ret :: tables_1)).before args0 about1 = true := by
  rw [allAtoms_all]
  show words1.all (fun c => c.before args0 about1) = true
  refine all_split ?_ w_codes
  rw [w_t1]
set_option maxRecDepth 65536 in
theorem w_case : (Jvm.Cond.and given_1 narrow_1).before args0 about1 = true := by decide +kernel
theorem w_applies : (headSpec (Jvm.Cond.code x code maxLocals ret :: tables_1) room_1).applies x e0.platform about1 = true :=
  (Spec.applies_iff w_frames).mpr ⟨w_running, w_runnable, w_alone, w_named, w_hears, w_ripe, w_room, w_tables⟩
theorem atStart : AtStart classFile x code maxLocals ret World_1 tables_1 room_1 Calls_1 rest_1 Pre_1 launch0 p0 e0 about1 theMethod args0 below0 :=
  ⟨lists_1, trivial, launch0.admits_env _ _ _, launch0.least_env, fairChoices_fair.cas, fairChoices_fair.clock, w_frames, w_args, w_heap, w_applies, trivial, trivial, w_case⟩
end start1
theorem witness_1 : WitnessClaimed_1 := ⟨start1.p0, start1.e0, start1.about1, start1.theMethod, start1.args0, start1.below0, start1.atStart⟩
end Jvm.Pilot.@@N@@
